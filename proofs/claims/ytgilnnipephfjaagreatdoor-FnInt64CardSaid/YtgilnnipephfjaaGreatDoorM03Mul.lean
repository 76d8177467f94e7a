/- Contracts of nat.go: bitLen, set, mulAddWW, cmp. Contracts of nat.go: copy, set, mulAddWW, clear. Contracts of natmul.go: basicMul. -/
import Derived.Test.YtgilnnipephfjaaGreatDoorM02Nat0
import Derived.Lib.ItoaNum
import Derived.Deep.RegionWith
set_option linter.unusedSimpArgs false
set_option linter.unusedVariables false
namespace Go.Proofs.YtgilnnipephfjaaGreatDoor
open Go.RowKit

/-- How many bits a number takes. -/
def bl (x : Nat) : Nat := if x = 0 then 0 else Nat.log2 x + 1
theorem lt_two_iff (x m : Nat) : x < 2 ^ m ↔ bl x ≤ m := by
  unfold bl
  by_cases h : x = 0
  · subst h; simp; exact Nat.pow_pos (by omega)
  · rw [if_neg h, ← Nat.log2_lt h]; omega
theorem bl_eq_of {x y : Nat} (h : ∀ m, x < 2 ^ m ↔ y < 2 ^ m) : bl x = bl y := by
  apply Nat.le_antisymm
  · exact (lt_two_iff x _).1 ((h _).2 ((lt_two_iff y _).2 (Nat.le_refl _)))
  · exact (lt_two_iff y _).1 ((h _).1 ((lt_two_iff x _).2 (Nat.le_refl _)))
theorem bl_smear (x j : Nat) : bl (x ||| x / j) = bl x := by
  apply bl_eq_of
  intro m
  constructor
  · intro h; exact Nat.lt_of_le_of_lt Nat.left_le_or h
  · intro h; exact Nat.or_lt_two_pow h (Nat.lt_of_le_of_lt (Nat.div_le_self _ _) h)
theorem smear_lt {x : Nat} (j : Nat) (h : x < B) : x ||| x / j < B := by
  rw [B_two] at *
  exact Nat.or_lt_two_pow h (Nat.lt_of_le_of_lt (Nat.div_le_self _ _) h)
theorem bitLen_bl {x : Nat} (h : x < B) : Lib.bitLen x = bl x := by
  rw [B_two] at h
  unfold Lib.bitLen
  by_cases h0 : x = 0
  · subst h0; rw [Lib.bitLenAux_zero]; rfl
  · obtain ⟨h1, h2, h3⟩ := Lib.bitLenAux_bounds 64 x h h0
    apply Nat.le_antisymm
    · have : ¬ bl x ≤ Lib.bitLenAux 64 x - 1 := fun k => by have := (lt_two_iff x _).2 k; omega
      omega
    · exact (lt_two_iff x _).1 h3
theorem bl_le {x : Nat} (h : x < B) : bl x ≤ 64 := (lt_two_iff x 64).1 (by rwa [B_two] at h)
theorem bl_pos {x : Nat} (h : x ≠ 0) : 0 < bl x := by unfold bl; rw [if_neg h]; omega
theorem bl_top {X k : Nat} (h : X < B ^ (k + 1)) : k * 64 + bl (wd X k) = bl X ∨ wd X k = 0 := by
  by_cases h0 : wd X k = 0
  · exact .inr h0
  · left
    have hw : wd X k = X / B ^ k := by
      unfold wd
      rw [Nat.pow_succ] at h
      exact Nat.mod_eq_of_lt (Nat.div_lt_of_lt_mul h)
    have key : ∀ t, X < 2 ^ (k * 64 + t) ↔ wd X k < 2 ^ t := by
      intro t
      rw [hw, Nat.div_lt_iff_lt_mul (Bpow_pos k), Bpow_two, ← Nat.pow_add, Nat.mul_comm 64 k, Nat.add_comm]
    apply Nat.le_antisymm
    · have hb := bl_pos h0
      apply Nat.le_of_not_lt
      intro hlt
      have h1 : X < 2 ^ (k * 64 + (bl (wd X k) - 1)) := (lt_two_iff _ _).2 (by omega)
      have h2 := (lt_two_iff _ _).1 ((key _).1 h1)
      omega
    · exact (lt_two_iff _ _).1 ((key _).2 ((lt_two_iff _ _).2 (Nat.le_refl _)))

set_option maxHeartbeats 400000 in
theorem bitLen_some (b o k c X : Nat) (w : World) (hk : k < 1000) (h : Words w b o (k + 1) X) :
    Calls Tryz.prog 146 #[.slice (some ⟨b, o, none⟩) (k+1) c] w fun e w' => e = .returned (.int .i64 (k * 64 + bl (wd X k) : Nat)) ∧ w' = w := by
  have hx : w.cell? ⟨b, o + k, none⟩ = some (.int .u64 (wd X k : Nat)) := h.cell k (by omega)
  have hlt := wd_lt X k
  generalize wd X k = x0 at *
  obtain ⟨x1, e1⟩ : ∃ x1, x1 = x0 ||| x0 / 2 := ⟨_, rfl⟩
  obtain ⟨x2, e2⟩ : ∃ x2, x2 = x1 ||| x1 / 4 := ⟨_, rfl⟩
  obtain ⟨x3, e3⟩ : ∃ x3, x3 = x2 ||| x2 / 16 := ⟨_, rfl⟩
  obtain ⟨x4, e4⟩ : ∃ x4, x4 = x3 ||| x3 / 256 := ⟨_, rfl⟩
  obtain ⟨x5, e5⟩ : ∃ x5, x5 = x4 ||| x4 / 65536 := ⟨_, rfl⟩
  obtain ⟨x6, e6⟩ : ∃ x6, x6 = x5 ||| x5 / 65536 / 65536 := ⟨_, rfl⟩
  have l1 : x1 < B := by rw [e1]; exact smear_lt _ hlt
  have l2 : x2 < B := by rw [e2]; exact smear_lt _ l1
  have l3 : x3 < B := by rw [e3]; exact smear_lt _ l2
  have l4 : x4 < B := by rw [e4]; exact smear_lt _ l3
  have l5 : x5 < B := by rw [e5]; exact smear_lt _ l4
  have l6 : x6 < B := by rw [e6, Nat.div_div_eq_div_mul]; exact smear_lt _ l5
  have hb : bl x6 = bl x0 := by rw [e6, Nat.div_div_eq_div_mul, bl_smear, e5, bl_smear, e4, bl_smear, e3, bl_smear, e2, bl_smear, e1, bl_smear]
  have dl : ∀ {x : Nat} (j : Nat), x < B → x / j < B := fun j h => Nat.lt_of_le_of_lt (Nat.div_le_self _ j) h
  have h1 : bits .or .u64 (x0 : Int) ((x0 : Int) / 2) = x1 := by have := u64_or_nat x0 (x0 / 2) hlt (dl _ hlt); rw [e1, ← this]; rfl
  have h2 : bits .or .u64 (x1 : Int) ((x1 : Int) / 4) = x2 := by have := u64_or_nat x1 (x1 / 4) l1 (dl _ l1); rw [e2, ← this]; rfl
  have h3 : bits .or .u64 (x2 : Int) ((x2 : Int) / 16) = x3 := by have := u64_or_nat x2 (x2 / 16) l2 (dl _ l2); rw [e3, ← this]; rfl
  have h4 : bits .or .u64 (x3 : Int) ((x3 : Int) / 256) = x4 := by have := u64_or_nat x3 (x3 / 256) l3 (dl _ l3); rw [e4, ← this]; rfl
  have h5 : bits .or .u64 (x4 : Int) ((x4 : Int) / 65536) = x5 := by have := u64_or_nat x4 (x4 / 65536) l4 (dl _ l4); rw [e5, ← this]; rfl
  have h6 : bits .or .u64 (x5 : Int) ((x5 : Int) / 65536 / 65536) = x6 := by have := u64_or_nat x5 (x5 / 65536 / 65536) l5 (dl _ (dl _ l5)); rw [e6, ← this]; rfl
  clear dl e1 e2 e3 e4 e5 e6
  have HL := bitLen_bl l6
  have HB := bl_le hlt
  unfold B at hlt l1 l2 l3 l4 l5 l6
  rw [hb] at HL
  clear hb
  have HL' := Lib.hid HL
  clear HL
  go_enter Tryz.func146, Tryz.ntmps146
  go_wp2_with fail
  refine (Tryz.bits_Len (x6 : Int) _ (by omega) (by omega)).mono ?_
  rintro e w' ⟨rfl, rfl⟩
  rw [Int.toNat_natCast, HL'.out]
  go_wp2
  go_ret
  exact ⟨by simp, rfl⟩
theorem bitLen_nil (a : Option Addr) (c : Nat) (w : World) :
    Calls Tryz.prog 146 #[.slice a 0 c] w fun e w' => e = .returned (.int .i64 0) ∧ w' = w := by
  go_enter Tryz.func146, Tryz.ntmps146
  go_wp2_with fail
  go_ret
  exact ⟨rfl, rfl⟩
theorem bitLen_any {a : Option Addr} {c X : Nat} {w : World} (h : Nt w a c X) (hk : nlen X < 1000) :
    Calls Tryz.prog 146 #[.slice a (nlen X) c] w fun e w' => e = .returned (.int .i64 (bl X : Nat)) ∧ w' = w := by
  by_cases h0 : X = 0
  · subst h0; exact bitLen_nil a c w
  · obtain ⟨b, o, rfl, _, hw⟩ := h.pos h0
    obtain ⟨k, hk'⟩ : ∃ k, nlen X = k + 1 := ⟨nlen X - 1, by have := nlen_pos h0; omega⟩
    rw [hk'] at hw ⊢
    have e : k * 64 + bl (wd X k) = bl X := by
      rcases bl_top hw.lt with e | e
      · exact e
      · have := (top_zero hw.lt).1 e
        have := nlen_le this
        omega
    rw [← e]
    exact_mod_cast bitLen_some b o k c X w (by omega) hw
end Go.Proofs.YtgilnnipephfjaaGreatDoor
namespace Go.Proofs.YtgilnnipephfjaaGreatDoor
open Go.RowKit

theorem run_loadW {w : World} {b o n v : Nat} (h : Words w b o n v) :
    (loadCells ⟨b, o, none⟩ n).run Tryz.prog w = .ok ((List.range' 0 n).map fun j => Value.int .u64 (wd v j : Nat)).toArray w := by
  have := run_loadCells_list (P := Tryz.prog) w ⟨b, o, none⟩ ((List.range' 0 n).map fun j => Value.int .u64 (wd v j : Nat)) (by
    intro j u hu
    have hj : j < n := by
      have := (List.getElem?_eq_some_iff.1 hu).1
      simpa using this
    have hadd : (⟨b, o, none⟩ : Addr).add j = ⟨b, o + j, none⟩ := by unfold Addr.add; split <;> simp_all
    rw [hadd, h.cell j hj]
    rw [List.getElem?_map, List.getElem?_range' hj] at hu
    simpa using hu)
  simpa using this

theorem run_storeW0 (b o v n : Nat) (w : World) (h : Own w b o n) :
    (storeCells ⟨b, o, none⟩ ((List.range' 0 n).map fun j => Value.int .u64 (wd v j : Nat)) 0).run Tryz.prog w = .ok () (putW w b o n v) := by
  have := run_storeW b o v w n 0 (by rwa [Nat.zero_add])
  rwa [Nat.zero_add] at this

theorem run_copyW (T1 T2 ty : TypeId) (hT : Tryz.prog.underlying T1 = some (.slice 217)) {w : World} {b o n c b' o' m c' v : Nat} (h : Words w b' o' m v) (ho : Own w b o m) (hm : m ≤ n) :
    (Builtin.copy_ #[T1, T2] ty #[.slice (some ⟨b, o, none⟩) n c, .slice (some ⟨b', o', none⟩) m c']).run Tryz.prog w = .ok (goInt m) (putW w b o m v) := by
  obtain ⟨i, hi, hzz⟩ := Option.map_eq_some_iff.1 infoW
  simp only [Prod.mk.injEq] at hzz
  obtain ⟨hz, hs, hb⟩ := hzz
  have hl := run_loadW h
  have hst := run_storeW0 b o v m w ho
  have hmin : Nat.min m n = m := Nat.min_eq_left hm
  simp [Builtin.copy_, run_underlying hT, Builtin.lenOf, Builtin.firstCells, sizeOf, typeInfo, hi, hs, hmin, hl, hst]

theorem run_clearW (T1 ty : TypeId) (hT : Tryz.prog.underlying T1 = some (.slice 217)) {w : World} {b o n c : Nat} (ho : Own w b o (n + 1)) :
    (Builtin.clear_ #[T1] ty #[.slice (some ⟨b, o, none⟩) (n + 1) c]).run Tryz.prog w = .ok (.tuple #[]) (putW w b o (n + 1) 0) := by
  obtain ⟨i, hi, hzz⟩ := Option.map_eq_some_iff.1 infoW
  simp only [Prod.mk.injEq] at hzz
  obtain ⟨hz, hs, hb⟩ := hzz
  have hst := run_storeW0 b o 0 (n + 1) w ho
  have hzc : (Builtin.zeroCells #[Value.int .u64 0] (n + 1)).toList = (List.range' 0 (n + 1)).map fun j => Value.int .u64 (wd 0 j : Nat) := by
    simp [Builtin.zeroCells, wd_zero, List.range_eq_range', Nat.mod_one]
  simp [Builtin.clear_, run_underlying hT, zeroValue, typeInfo, hi, hz]
  have e : (Value.int .u64 0).cells = #[Value.int .u64 0] := rfl
  rw [e, hzc, hst]
  rfl

theorem run_clearW' (T1 ty : TypeId) (hT : Tryz.prog.underlying T1 = some (.slice 217)) {w : World} {b o n c : Nat} (h0 : 0 < n) (ho : Own w b o n) :
    (Builtin.clear_ #[T1] ty #[.slice (some ⟨b, o, none⟩) n c]).run Tryz.prog w = .ok (.tuple #[]) (putW w b o n 0) := by
  obtain ⟨k, rfl⟩ : ∃ k, n = k + 1 := ⟨n - 1, by omega⟩
  exact run_clearW T1 ty hT ho

theorem set_any {a xa : Option Addr} {zl zc n xc X : Nat} {w : World} (hG : NG ≤ w.heap.size) (hz : Reg w a zc) (hX : WordsA w xa n X) (hn : n < 900000) :
    Calls Tryz.prog 184 #[.slice a zl zc, .slice xa n xc] w fun e w' => ∃ a' c', e = .returned (.slice a' n c') ∧ n ≤ c' ∧ Reg w' a' c' ∧ WordsA w' a' n X ∧
      Fr (foot a zc) w w' ∧ Out w a zc a' c' := by
  by_cases h0 : n = 0
  · subst h0
    have hz1 := hz.1
    have hcp : ∀ (d : Option Addr) (c : Nat) (w : World), (Builtin.copy_ #[65, 65] 3 #[.slice d 0 c, .slice xa 0 xc]).run Tryz.prog w = .ok (goInt 0) w := by
      intro d c w
      obtain ⟨i, hi, hzz⟩ := Option.map_eq_some_iff.1 infoW
      simp only [Prod.mk.injEq] at hzz
      obtain ⟨hz, hs, hb⟩ := hzz
      have e : Nat.min 0 0 = 0 := rfl
      cases d <;> cases xa <;> simp [Builtin.copy_, run_underlying Tryz.underlying65, Builtin.lenOf, Builtin.firstCells, sizeOf, typeInfo, hi, hs, storeCells, loadCells, loadCellsFrom, e]
    go_enter Tryz.func184, Tryz.ntmps184
    go_wp2_with (go_at_call 188; refine (make_zero a zl zc _ hz1).mono ?_; rintro e w' ⟨rfl, rfl⟩)
    go_ret
    exact ⟨a, zc, rfl, by omega, hz, ⟨hX.1, .inl rfl⟩, Fr.refl _ _, .inl ⟨rfl, rfl⟩⟩
  · obtain ⟨xb, xo, rfl, hW⟩ : ∃ b o, xa = some ⟨b, o, none⟩ ∧ Words w b o n X := by
      rcases hX.2 with k | k
      · exact absurd k h0
      · exact k
    go_enter Tryz.func184, Tryz.ntmps184
    go_wp2_with fail
    refine (make_any a zl zc n _ hG hz (by omega) (by omega)).mono ?_
    rintro e w1 ⟨b, o, c, rfl, hnc, hc, hown, hfr, hout⟩
    have hW1 := hfr.words hW (fun _ _ => id)
    have hown1 : Own w1 b o n := (hown.le (by omega))
    have hcp := run_copyW 65 65 3 Tryz.underlying65 (n := n) (c := c) (c' := xc) hW1 hown1 (Nat.le_refl _)
    go_wp2_with fail
    go_ret
    refine ⟨some ⟨b, o, none⟩, c, rfl, hnc, ⟨hc, .inr ⟨b, o, rfl, hown.put _ _ _ _⟩⟩, (Words_putW _ _ _ _ _ hW.lt hown1).a, ?_, ?_⟩
    · refine (hfr.mono (fun _ _ _ k => k.elim)).put b o n X fun i hi hb => ?_
      rcases hout with ⟨rfl, rfl⟩ | hnew
      · exact ⟨b, o, rfl, rfl, by omega, by omega⟩
      · omega
    · rcases hout with ⟨rfl, rfl⟩ | hnew
      · exact .inl ⟨rfl, rfl⟩
      · exact .inr ⟨b, o, rfl, hnew⟩

theorem mulAddVWW_any (zb zo zc xb xo xc n : Nat) (X y r : Nat) (w : World) (hn : n < 1000000) (hX : Words w xb xo n X) (hz : Own w zb zo n)
    (hal : zb ≠ xb ∨ zo ≤ xo ∨ xo + n ≤ zo) (hy : y < B) (hr : r < B) :
    Calls Tryz.prog 230 #[.slice (some ⟨zb, zo, none⟩) n zc, .slice (some ⟨xb, xo, none⟩) n xc, .int .u64 y, .int .u64 r] w fun e w' =>
      ∃ Z c, e = .returned (.int .u64 (c : Nat)) ∧ w' = putW w zb zo n Z ∧ Z < B ^ n ∧ c < B ∧ Z + B ^ n * c = X * y + r := by
  go_enter Tryz.func230, Tryz.ntmps230
  go_wp2_with fail
  refine (mulAddVWW_loop zb zo zc xb xo xc n X y r _ hn hX hz hal hy hr).mono ?_
  rintro e w' ⟨Z, c, rfl, rfl, h1, h2, h3⟩
  go_wp2_with fail
  go_ret
  exact ⟨Z, c, rfl, rfl, h1, h2, h3⟩

theorem addMulVVWW_any (zb zo zc xb xo xc yb yo yc n : Nat) (X Y m r : Nat) (w : World) (hn : n < 1000000) (hX : Words w xb xo n X) (hY : Words w yb yo n Y) (hz : Own w zb zo n)
    (halx : zb ≠ xb ∨ zo ≤ xo ∨ xo + n ≤ zo) (haly : zb ≠ yb ∨ zo ≤ yo ∨ yo + n ≤ zo) (hm : m < B) (hr : r < B) :
    Calls Tryz.prog 295 #[.slice (some ⟨zb, zo, none⟩) n zc, .slice (some ⟨xb, xo, none⟩) n xc, .slice (some ⟨yb, yo, none⟩) n yc, .int .u64 m, .int .u64 r] w fun e w' =>
      ∃ Z c d, e = .returned (.int .u64 (c : Nat)) ∧ w' = (putW w zb zo n Z).drewN d ∧ Z < B ^ n ∧ c < B ∧ Z + B ^ n * c = X + Y * m + r := by
  go_enter Tryz.func295, Tryz.ntmps295
  go_wp2_with fail
  refine (addMulVVWW_loop zb zo zc xb xo xc yb yo yc n X Y m r _ hn hX hY hz halx haly hm hr).mono ?_
  rintro e w' ⟨Z, c, d, rfl, rfl, h1, h2, h3⟩
  go_wp2_with fail
  go_ret
  exact ⟨Z, c, d, rfl, rfl, h1, h2, h3⟩

/-- z.mulAddWW(x, y, r): X*y + r, in place or anew. -/
theorem mulAddWW_any {a xa : Option Addr} {zl zc xc X y r : Nat} {w : World} (hG : NG ≤ w.heap.size) (hz : Reg w a zc) (hX : Nt w xa xc X) (hn : nlen X < 800000) (hy : y < B) (hy0 : y ≠ 0) (hr : r < B)
    (hal : (a = xa ∧ zc = xc) ∨ ∀ b o, foot a zc b o → ¬ foot xa xc b o) :
    Calls Tryz.prog 245 #[.slice a zl zc, .slice xa (nlen X) xc, .int .u64 y, .int .u64 r] w fun e w' => ∃ a' c', e = .returned (.slice a' (nlen (X * y + r)) c') ∧ Nt w' a' c' (X * y + r) ∧
      Fr (foot a zc) w w' ∧ Out w a zc a' c' := by
  have hy0' : ((y : Int) == 0) = false := by simp [hy0]
  by_cases h0 : X = 0
  · subst h0
    simp only [nlen_zero, Nat.zero_mul, Nat.zero_add]
    go_enter Tryz.func245, Tryz.ntmps245
    go_wp2_with fail
    refine (setWord_any a zl zc r _ hG hz hr).mono ?_
    rintro e w' ⟨a', c', rfl, h1, h2, h3⟩
    go_wp2_with fail
    go_ret
    exact ⟨a', c', rfl, h1, h2, h3⟩
  · obtain ⟨xb, xo, rfl, hxo, hW⟩ := hX.pos h0
    obtain ⟨n, hn'⟩ : ∃ n, n = nlen X := ⟨_, rfl⟩
    have hxl := hX.len
    have hnp := nlen_pos h0
    rw [← hn'] at hW hn hxl hnp ⊢
    clear hn'
    have hn0 : ((n : Int) == 0) = false := by simp; omega
    go_enter Tryz.func245, Tryz.ntmps245
    go_wp2_with fail
    rw [show (n : Int) + 1 = ((n + 1 : Nat) : Int) from rfl]
    refine (make_any a zl zc (n + 1) _ hG hz (by omega) (by omega)).mono ?_
    rintro e w1 ⟨b, o, c, rfl, hnc, hc, hown, hfr, hout⟩
    have hW1 := hfr.words hW (fun _ _ => id)
    have hxb := World.block_lt_of_cell? w _ (hW.cell 0 (by omega))
    have hal1 : b ≠ xb ∨ o ≤ xo ∨ xo + n ≤ o := by
      rcases hout with ⟨rfl, rfl⟩ | hnew
      · rcases hal with ⟨e, _⟩ | hd
        · cases e; exact .inr (.inl (Nat.le_refl _))
        · apply Classical.byContradiction
          intro hcon
          exact hd b o ⟨b, o, rfl, rfl, by omega, by omega⟩ ⟨xb, xo, rfl, by omega, by omega, by omega⟩
      · left; simp at hxb; omega
    have hown1 : Own w1 b o n := (hown.le (by omega))
    go_wp2_with fail
    refine (mulAddVWW_any b o c xb xo xc n X y r _ (by omega) hW1 hown1 hal1 hy hr).mono ?_
    rintro e w2 ⟨Z, cc, rfl, hw2, hZ, hcc, hE⟩
    have hw2' := Aside.mk hw2
    have hown2 : Own w2 b o c := by rw [hw2]; exact hown.put _ _ _ _
    clear hw2
    obtain ⟨u, _, hu⟩ := hown2.cell n (by omega)
    have hf := hown2.free n (by omega)
    go_wp2_with fail
    have hZ2 : Words (w2.setCell ⟨b, o + n, none⟩ (.int .u64 (cc : Nat))) b o (n + 1) (Z + B ^ n * cc) := by
      rw [hw2'.out, putW_snoc _ _ _ _ _ _ hZ hcc]
      exact Words_putW _ _ _ _ _ (snoc_lt hZ hcc) (hown.le (by omega))
    rw [hE] at hZ2
    refine (norm_some b o (n + 1) c (X * y + r) _ (by omega) (by omega) hZ2).mono ?_
    rintro e w' ⟨rfl, rfl⟩
    go_wp2_with fail
    go_ret
    refine ⟨some ⟨b, o, none⟩, c, rfl, Nt.mk' hc hnc ?_ hZ2, ?_, ?_⟩
    · rw [hw2'.out, putW_snoc _ _ _ _ _ _ hZ hcc]; exact hown.put _ _ _ _
    · rw [hw2'.out, putW_snoc _ _ _ _ _ _ hZ hcc]
      refine (hfr.mono (fun _ _ _ k => k.elim)).put b o (n + 1) _ fun i hi hb => ?_
      rcases hout with ⟨rfl, rfl⟩ | hnew
      · exact ⟨b, o, rfl, rfl, by omega, by omega⟩
      · omega
    · rcases hout with ⟨rfl, rfl⟩ | hnew
      · exact .inl ⟨rfl, rfl⟩
      · exact .inr ⟨b, o, rfl, hnew⟩
end Go.Proofs.YtgilnnipephfjaaGreatDoor
namespace Go.Proofs.YtgilnnipephfjaaGreatDoor
open Go.RowKit

theorem gmod_div (v p : Nat) : v % p + p * (v / p) = v := Nat.mod_add_div v p
theorem Words.put {w : World} {b o n v : Nat} (h : Words w b o n v) (ho : Own w b o n) (k m u : Nat) (hk : k + m ≤ n) (hu : u < B ^ m) (hv : v < B ^ (k + m)) :
    Words (putW w b (o + k) m u) b o n (v % B ^ k + B ^ k * u) := by
  have hlt : v % B ^ k + B ^ k * u < B ^ (k + m) := by
    rw [Nat.pow_add]
    have h1 : v % B ^ k < B ^ k := Nat.mod_lt _ (Bpow_pos k)
    have h2 : B ^ k * (u + 1) ≤ B ^ k * B ^ m := Nat.mul_le_mul_left _ hu
    rw [Nat.mul_succ] at h2
    omega
  refine ⟨Nat.lt_of_lt_of_le hlt (Nat.pow_le_pow_right B_pos hk), fun i hi => ?_⟩
  by_cases h1 : i < k
  · rw [cell_putW_out _ _ _ _ _ _ _ (by omega), h.cell i hi, wd_lo _ _ h1, wd_mod _ h1]
  · obtain ⟨j, rfl⟩ : ∃ j, i = k + j := ⟨i - k, by omega⟩
    by_cases h2 : j < m
    · have := cell_putW_in w b (o + k) m u j h2 (let ⟨x, _, q⟩ := ho.cell (k + j) (by omega); ⟨_, by rw [Nat.add_assoc]; exact q⟩)
      rw [Nat.add_assoc] at this
      rw [this, ← wd_div, Nat.add_mul_div_left _ _ (Bpow_pos k), Nat.div_eq_of_lt (Nat.mod_lt _ (Bpow_pos k)), Nat.zero_add]
    · rw [cell_putW_out _ _ _ _ _ _ _ (by omega), h.cell _ hi, wd_ge v hv (by omega), wd_ge _ hlt (by omega)]

set_option maxRecDepth 100000 in
set_option maxHeartbeats 1000000 in
theorem basicMul_any (zb zo zl zc xb xo xc m yb yo yc n : Nat) (X Y : Nat) (w : World) (hm : m < 100000) (hm0 : 0 < m) (hn : n < 100000) (hX : Words w xb xo m X) (hY : Words w yb yo n Y)
    (hzl : m + n ≤ zl) (hzc : zl ≤ zc) (hz : Own w zb zo (m + n)) (hdx : zb ≠ xb ∨ xo + m ≤ zo ∨ zo + (m + n) ≤ xo) (hdy : zb ≠ yb ∨ yo + n ≤ zo ∨ zo + (m + n) ≤ yo) :
    Calls Tryz.prog 261 #[.slice (some ⟨zb, zo, none⟩) zl zc, .slice (some ⟨xb, xo, none⟩) m xc, .slice (some ⟨yb, yo, none⟩) n yc] w fun e w' =>
      e = .returned (.tuple #[]) ∧ Words w' zb zo (m + n) (X * Y) ∧ Fr (fun b o => b = zb ∧ zo ≤ o ∧ o < zo + (m + n)) w w' := by
  have hcl := fun c => run_clearW' 65 0 Tryz.underlying65 (w := w) (b := zb) (o := zo) (n := m + n) (c := c) (by omega) hz
  go_enter Tryz.func261, Tryz.ntmps261
  go_wp2_with fail
  have hz' : Own (putW w zb zo (m + n) 0) zb zo (m + n) := hz.put _ _ _ _
  have hZ0 : Words (putW w zb zo (m + n) 0) zb zo (m + n) 0 := Words_putW _ _ _ _ _ (Bpow_pos _) hz
  have hF0 : Fr (fun b o => b = zb ∧ zo ≤ o ∧ o < zo + (m + n)) w (putW w zb zo (m + n) 0) := Fr_putW _ _ _ _ _
  clear hcl
  generalize hw0 : putW w zb zo (m + n) 0 = w0 at *
  have HW0 := Aside.mk hw0
  clear hw0
  go_loopw [17] (fun i wr => ∃ k : Nat, k ≤ n ∧ i = .int .i64 k ∧ Words wr zb zo (m + n) (X * (Y % B ^ k)) ∧ Fr (fun b o => b = zb ∧ zo ≤ o ∧ o < zo + (m + n)) w wr) (fun i _ => n - (intOf i).toNat)
  case atStart => exact ⟨0, by omega, rfl, by simpa [Nat.mod_one] using hZ0, hF0⟩
  case round =>
    obtain ⟨k, hk, rfl, hZ, hF⟩ := hrel
    by_cases hlt : k < n
    · have hX' : Words wr xb xo m X := hF.words hX (by omega)
      have hY' : Words wr yb yo n Y := hF.words hY (by omega)
      have hzo : Own wr zb zo (m + n) := hZ.own (hF.blk hz.kind)
      have hy := hY'.cell k hlt
      have hyl := wd_lt Y k
      by_cases hd : wd Y k = 0
      · have hd' : (((wd Y k : Nat) : Int) != 0) = false := by simp [hd]
        go_wp2_with fail
        go_roundw
        case rel => exact ⟨k + 1, by omega, by go_num, by rw [mod_succ, hd]; simpa using hZ, hF⟩
        case measure => simp [intOf]; omega
      · have hd' : (((wd Y k : Nat) : Int) != 0) = true := by simp [hd]
        have hck : ¬ zc = k := by omega
        have hZlt := hZ.lt
        have hsub := hZ.sub k m (by omega)
        have hosub := hzo.sub k m (by omega)
        obtain ⟨u, _, hu⟩ := hzo.cell (m + k) (by omega)
        have hf := hzo.free (m + k) (by omega)
        have HC : Hid (∀ d0, Calls Tryz.prog 295 #[.slice (some ⟨zb, zo + k, none⟩) m (zc - k), .slice (some ⟨zb, zo + k, none⟩) m (zc - k), .slice (some ⟨xb, xo, none⟩) m xc, .int .u64 (wd Y k : Nat), .int .u64 0] (wr.drewN d0) fun e w1 =>
            ∃ (c : Nat) (Z d : Nat) (u : Value), e = .returned (.int .u64 c) ∧ w1.cell? ⟨zb, zo + (m + k), none⟩ = some u ∧ w1.frozen? ⟨zb, zo + (m + k), none⟩ = false ∧
              Aside (w1 = (putW wr zb (zo + k) m Z).drewN d ∧ Z < B ^ m ∧ c < B ∧ Z + B ^ m * c = (X * (Y % B ^ k)) / B ^ k % B ^ m + X * wd Y k)) := fun d0 => by
          refine (addMulVVWW_any zb (zo + k) (zc - k) zb (zo + k) (zc - k) xb xo xc m _ X (wd Y k) 0 (wr.drewN d0) (by omega) (show Words (wr.drewN d0) zb (zo + k) m _ from ⟨hsub.lt, hsub.cell⟩) (show Words (wr.drewN d0) xb xo m X from ⟨hX'.lt, hX'.cell⟩) (show Own (wr.drewN d0) zb (zo + k) m from ⟨hosub.cell, hosub.kind⟩) (by omega) (by omega) hyl B_pos).mono ?_
          rintro e w1 ⟨Z, c, d, rfl, rfl, h1, h2, h3⟩
          refine ⟨c, Z, d0 + d, .int .u64 (u : Nat), rfl, ?_, ?_, ⟨?_, h1, h2, by rw [h3]; rfl⟩⟩
          · exact (cell_putW_out _ _ _ _ _ _ _ (by omega)).trans hu
          · exact (frozen_putW _ _ _ _ _ _).trans hf
          · clear h1 h3 hsub hosub
            have : ∀ n, putW (wr.drewN d0) zb (zo + k) n Z = (putW wr zb (zo + k) n Z).drewN d0 := by
              intro n
              induction n with
              | zero => rfl
              | succ n ih => simp only [putW]; rw [ih]; rfl
            rw [this]
            simp [World.drewN, Nat.add_assoc]
        clear hsub hosub
        go_wp2_with fail
        have q1 : IntKind.i64.wrap ((k : Int) + m) = (k : Int) + m := IntWalk.i64_in _ (by omega)
        have q2 : IntKind.i64.wrap ((m : Int) + k) = (m : Int) + k := IntWalk.i64_in _ (by omega)
        have q3 : 0 ≤ (k : Int) + m := by omega
        have q4 : 0 ≤ (m : Int) + k := by omega
        have q5 : ((k : Int) + m).toNat = k + m := by omega
        have q6 : ((m : Int) + k).toNat = m + k := by omega
        have q7 : (k : Int) + m ≤ zc := by omega
        have q8 : (m : Int) + k < zl := by omega
        have q9 : (k : Int) ≤ (k : Int) + m := by omega
        go_region_with (go_at_call 295; go_must (refine (HC.out _).mono ?_; rintro e w1 ⟨c, Z, d, u1, rfl, hu1, hf1, hA⟩))
        clear q1 q2 q3 q4 q5 q6 q7 q8 q9 HC
        go_wp2_with fail
        obtain ⟨⟨hw1, hZ1, hc1, hE1⟩⟩ := hA
        have hVk : X * (Y % B ^ k) < B ^ (k + m) := by
          rw [Nat.pow_add, Nat.mul_comm]
          exact Nat.mul_lt_mul'' (Nat.mod_lt _ (Bpow_pos k)) hX.lt
        have hnew : w1.setCell ⟨zb, zo + (m + k), none⟩ (.int .u64 (c : Nat)) = (putW wr zb (zo + k) (m + 1) (Z + B ^ m * c)).drewN d := by
          rw [hw1, show zo + (m + k) = zo + k + m from by omega, ← putW_snoc _ _ _ _ _ _ hZ1 hc1]; rfl
        have hval : (X * (Y % B ^ k)) % B ^ k + B ^ k * (Z + B ^ m * c) = X * (Y % B ^ (k + 1)) := by
          rw [hE1, mod_succ]
          have e1 : X * (Y % B ^ k) / B ^ k < B ^ m := by
            apply Nat.div_lt_of_lt_mul
            rw [← Nat.pow_add]; exact hVk
          rw [Nat.mod_eq_of_lt e1]
          have e2 := gmod_div (X * (Y % B ^ k)) (B ^ k)
          rw [Nat.mul_add, ← Nat.add_assoc, e2, Nat.mul_add]
          congr 1
          rw [Nat.mul_left_comm]
        have hput := hZ.put hzo k (m + 1) (Z + B ^ m * c) (by omega) (snoc_lt hZ1 hc1) (Nat.lt_of_lt_of_le hVk (Nat.pow_le_pow_right B_pos (by omega)))
        rw [hval] at hput
        go_roundw
        case rel =>
          refine ⟨k + 1, by omega, by go_num, ?_, ?_⟩
          · rw [hnew]; exact ⟨hput.lt, hput.cell⟩
          · rw [hnew]
            exact (hF.put _ _ _ _ fun i hi _ => ⟨rfl, by omega, by omega⟩).drewN d
        case measure => simp [intOf]; omega
    · go_wp2_with fail
      go_end0
      obtain rfl : k = n := by omega
      exact ⟨rfl, by rwa [Nat.mod_eq_of_lt hY.lt] at hZ, hF⟩
end Go.Proofs.YtgilnnipephfjaaGreatDoor
