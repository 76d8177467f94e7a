/- Contracts of arith.go: lshVU, rshVU, where they shift. A stack of words for temporaries: what it is in memory; save, restore, nat. -/
import Derived.Test.YtgilnnipephfjaaGreatDoorM15Vec2
import Derived.Test.YtgilnnipephfjaaGreatDoorM06Exp2
set_option linter.unusedSimpArgs false
set_option linter.unusedVariables false
namespace Go.Proofs.YtgilnnipephfjaaGreatDoor
open Go.RowKit

theorem gshift (t t' Y : Nat) (h' : 0 < t') (h : 0 < t) : Y / t' % (t * t') = (Y / (t * t') % (t * t')) * t % (t * t') + (Y % (t * t')) / t' := by
  have e := Nat.div_add_mod Y (t * t')
  have hl := Nat.mod_lt Y (Nat.mul_pos h h')
  generalize Y / (t * t') = q at *
  generalize Y % (t * t') = x at *
  subst e
  have hx : x / t' < t := Nat.div_lt_of_lt_mul (by rwa [Nat.mul_comm])
  rw [show t * t' * q + x = x + t' * (t * q) from by grind, Nat.add_mul_div_left _ _ h']
  generalize x / t' = z at *
  have e1 : q % (t * t') * t % (t * t') = t * (q % t') := by
    rw [Nat.mul_comm _ t, Nat.mul_mod_mul_left, Nat.mod_mul_left_mod]
  rw [e1]
  have e2 := Nat.div_add_mod q t'
  have hq := Nat.mod_lt q h'
  generalize q / t' = u at *
  generalize q % t' = v at *
  subst e2
  rw [show z + t * (t' * u + v) = (z + t * v) + t * t' * u from by grind, Nat.add_mul_mod_self_left, Nat.mod_eq_of_lt, Nat.add_comm]
  have : t * (v + 1) ≤ t * t' := Nat.mul_le_mul_left _ hq
  rw [Nat.mul_succ] at this
  omega
theorem B_split {s t : Nat} (h : s + t = 64) : B = 2 ^ s * 2 ^ t := by rw [← Nat.pow_add, h, B_two]
theorem wd_next (X i : Nat) : X / B ^ i / B % B = wd X (i + 1) := by unfold wd; rw [Nat.pow_succ, Nat.div_div_eq_div_mul]
theorem wd_shl_succ {s t : Nat} (h : s + t = 64) (X i : Nat) : wd (X * 2 ^ s) (i + 1) = wd X (i + 1) * 2 ^ s % B + wd X i / 2 ^ t := by
  have hb := B_split h
  have hs : 0 < 2 ^ s := Nat.pow_pos (by decide)
  have ht : 0 < 2 ^ t := Nat.pow_pos (by decide)
  have g := gshift (2 ^ s) (2 ^ t) (X / B ^ i) ht hs
  rw [← hb, wd_next] at g
  have e : X * 2 ^ s / B ^ (i + 1) = X / B ^ i / 2 ^ t := by
    rw [Nat.pow_succ, Nat.div_div_eq_div_mul]
    conv => lhs; rw [show B ^ i * B = B ^ i * 2 ^ t * 2 ^ s from by rw [hb]; grind]
    rw [Nat.mul_div_mul_right _ _ hs]
  conv => lhs; unfold wd
  rw [e, g]; rfl
theorem wd_shl_zero (s X : Nat) : wd (X * 2 ^ s) 0 = wd X 0 * 2 ^ s % B := by unfold wd; rw [Nat.pow_zero, Nat.div_one, Nat.div_one, Nat.mod_mul_mod]
theorem shl_top {s t : Nat} (h : s + t = 64) {X m : Nat} (hX : X < B ^ (m + 1)) : X * 2 ^ s / B ^ (m + 1) = wd X m / 2 ^ t := by
  have hb := B_split h
  have hs : 0 < 2 ^ s := Nat.pow_pos (by decide)
  have e : X * 2 ^ s / B ^ (m + 1) = X / B ^ m / 2 ^ t := by
    rw [Nat.pow_succ, Nat.div_div_eq_div_mul]
    conv => lhs; rw [show B ^ m * B = B ^ m * 2 ^ t * 2 ^ s from by rw [hb]; grind]
    rw [Nat.mul_div_mul_right _ _ hs]
  rw [e]; unfold wd
  rw [Nat.mod_eq_of_lt (Nat.div_lt_of_lt_mul (by rwa [Nat.pow_succ] at hX))]
theorem wd_shr {s t : Nat} (h : s + t = 64) (X i : Nat) : wd (X / 2 ^ s) i = wd X i / 2 ^ s + wd X (i + 1) * 2 ^ t % B := by
  have hb := B_split (s := t) (t := s) (by omega)
  have hs : 0 < 2 ^ s := Nat.pow_pos (by decide)
  have ht : 0 < 2 ^ t := Nat.pow_pos (by decide)
  have g := gshift (2 ^ t) (2 ^ s) (X / B ^ i) hs ht
  rw [← hb, wd_next] at g
  have e : X / 2 ^ s / B ^ i = X / B ^ i / 2 ^ s := by rw [Nat.div_div_eq_div_mul, Nat.div_div_eq_div_mul, Nat.mul_comm]
  conv => lhs; unfold wd
  rw [e, g, Nat.add_comm]; rfl
theorem or_words {s t : Nat} (h : s + t = 64) (x y : Nat) (hy : y < B) : bits .or .u64 (IntKind.u64.wrap ((x : Int) * 2 ^ s)) ((y : Int) / 2 ^ t) = ((x * 2 ^ s % B + y / 2 ^ t : Nat) : Int) ∧
    bits .or .u64 ((y : Int) / 2 ^ t) (IntKind.u64.wrap ((x : Int) * 2 ^ s)) = ((x * 2 ^ s % B + y / 2 ^ t : Nat) : Int) := by
  have hb := B_split h
  have hw : IntKind.u64.wrap ((x : Int) * 2 ^ s) = ((x * 2 ^ s % B : Nat) : Int) := by
    rw [show (x : Int) * 2 ^ s = ((x * 2 ^ s : Nat) : Int) from by simp, IntKind.wrap_u64]; simp [B]
  have hd : (y : Int) / 2 ^ t = ((y / 2 ^ t : Nat) : Int) := by simp
  have hlt : y / 2 ^ t < 2 ^ s := Nat.div_lt_of_lt_mul (by rw [Nat.mul_comm, ← hb]; exact hy)
  have hm : x * 2 ^ s % B < 18446744073709551616 := Nat.mod_lt _ B_pos
  have hy2 : y / 2 ^ t < 18446744073709551616 := Nat.lt_of_le_of_lt (Nat.div_le_self _ _) hy
  have e : x * 2 ^ s % B ||| y / 2 ^ t = x * 2 ^ s % B + y / 2 ^ t := by
    rw [hb, Nat.mul_comm x, Nat.mul_mod_mul_left, Nat.two_pow_add_eq_or_of_lt hlt]
  rw [hw, hd]
  refine ⟨by rw [u64_or_nat _ _ hm hy2, e], ?_⟩
  rw [u64_or_nat _ _ hy2 hm, Nat.or_comm, e]
theorem and63 (s : Nat) (h : s < 64) : bits .and .u64 (s : Int) 63 = s := by
  have := u64_and_nat s 63 (by omega) (by decide)
  rw [show (63 : Int) = ((63 : Nat) : Int) from rfl, this, show (63 : Nat) = 2 ^ 6 - 1 from rfl, Nat.and_two_pow_sub_one_eq_mod, Nat.mod_eq_of_lt (by omega)]

set_option maxHeartbeats 2000000 in
set_option maxRecDepth 100000 in
/-- z = x << s, the bits shifted out returned: in place or upwards. -/
theorem lshVU_any (zb zo zc xb xo xc n : Nat) (X s : Nat) (w : World) (hn0 : 0 < n) (hn : n < 1000000) (hs0 : 0 < s) (hs : s < 64) (hX : Words w xb xo n X) (hz : Own w zb zo n)
    (hal : zb ≠ xb ∨ xo ≤ zo ∨ zo + n ≤ xo) :
    Calls Tryz.prog 255 #[.slice (some ⟨zb, zo, none⟩) n zc, .slice (some ⟨xb, xo, none⟩) n xc, .int .u64 s] w fun e w' =>
      e = .returned (.int .u64 (X * 2 ^ s / B ^ n : Nat)) ∧ Words w' zb zo n (X * 2 ^ s % B ^ n) ∧ Fr (fun b o => b = zb ∧ zo ≤ o ∧ o < zo + n) w w' := by
  obtain ⟨m, rfl⟩ : ∃ m, n = m + 1 := ⟨n - 1, by omega⟩
  obtain ⟨t, ht⟩ : ∃ t, s + t = 64 := ⟨64 - s, by omega⟩
  have q0 : ((s : Int) == 0) = false := by simp; omega
  have q1 := and63 s hs
  have q2 : IntKind.u64.wrap (64 - (s : Int)) = (t : Int) := by rw [IntKind.wrap_u64]; omega
  have q3 := and63 t (by omega)
  have q4 : ((m : Int) + 1 == 0) = false := by simp; omega
  have hx := hX.cell m (by omega)
  have hr : Hid (((wd X m / 2 ^ t : Nat) : Int) = ((X * 2 ^ s / B ^ (m + 1) : Nat) : Int)) := Lib.hid (by rw [shl_top ht hX.lt])
  have HT := Lib.hid ht
  have ht64 : t < 64 := by omega
  clear ht
  have hm1 : ((m + 1 : Nat) : Int) - 1 = m := by omega
  have body : Hid (Calls Tryz.prog 290 #[.slice (some ⟨zb, zo, none⟩) (m + 1) zc, .slice (some ⟨xb, xo, none⟩) (m + 1) xc, .int .u64 s] w fun e w' =>
      e = .returned (.int .u64 (X * 2 ^ s / B ^ (m + 1) : Nat)) ∧ Words w' zb zo (m + 1) (X * 2 ^ s % B ^ (m + 1)) ∧ Fr (fun b o => b = zb ∧ zo ≤ o ∧ o < zo + (m + 1)) w w') := Lib.hid (by
    go_enter Tryz.func290, Tryz.ntmps290
    go_wp2_with fail
    clear q0
    go_loopw [8] (fun i wr => ∃ k : Nat, k ≤ m ∧ i = .int .i64 k ∧ Aside (Fr (fun b o => b = zb ∧ zo + k < o ∧ o < zo + (m + 1)) w wr ∧ ∀ j, k < j → j < m + 1 → wr.cell? ⟨zb, zo + j, none⟩ = some (.int .u64 (wd (X * 2 ^ s) j : Nat)))) (fun i _ => (intOf i).toNat)
    case atStart => exact ⟨m, by omega, by simp, ⟨Fr.refl _ w, fun j h1 h2 => by omega⟩⟩
    case round =>
      obtain ⟨k, hk, rfl, hI⟩ := hrel
      have hxc : ∀ i, i ≤ k → wr.cell? ⟨xb, xo + i, none⟩ = some (.int .u64 (wd X i : Nat)) := fun i hi => by
        have hc := hX.cell i (by omega)
        exact (hI.out.1.cell xb (xo + i) (World.block_lt_of_cell? w _ hc) (by omega)).trans hc
      obtain ⟨u, _, hu0⟩ := hz.cell k (by omega)
      have hu : wr.cell? ⟨zb, zo + k, none⟩ = some (.int .u64 (u : Nat)) := (hI.out.1.cell zb (zo + k) hz.kind.lt (by omega)).trans hu0
      have hf : wr.frozen? ⟨zb, zo + k, none⟩ = false := (hI.out.1.frozen zb (zo + k) hz.kind.lt).trans (hz.free k (by omega))
      by_cases h0 : 0 < k
      · obtain ⟨k, rfl⟩ : ∃ j, k = j + 1 := ⟨k - 1, by omega⟩
        have hx1 := hxc (k + 1) (by omega)
        have hx0 := hxc k (by omega)
        have ho := (or_words HT.out (wd X (k + 1)) (wd X k) (wd_lt _ _)).1
        rw [← wd_shl_succ HT.out] at ho
        obtain ⟨V, hV⟩ : ∃ v, wd (X * 2 ^ s) (k + 1) = v := ⟨_, rfl⟩
        rw [hV] at ho
        have HV := Aside.mk hV
        clear hxc hV
        have b1 : IntKind.i64.wrap (k : Int) = k := IntWalk.i64_in _ (by omega)
        have b2 : (k : Int) < (m : Int) + 1 := by omega
        have b3 : (k : Int) < (m : Int) := by omega
        have b4 : ((k : Int) + 1).toNat = k + 1 := by omega
        have b5 : 0 ≤ (k : Int) + 1 := by omega
        have b6 : IntKind.i64.wrap ((k : Int) + 1 - 1) = k := by rw [Int.add_sub_cancel]; exact b1
        go_wp2_with fail
        go_region_with (fail)
        all_goals
          go_wp2_with fail
          go_roundw
          case rel =>
            refine ⟨k, by omega, rfl, ⟨?_, ?_⟩⟩
            · exact ((hI.out.1.mono (fun b o _ h => ⟨h.1, by omega, h.2.2⟩)).drewN _).setCell zb (zo + (k + 1)) _ (fun _ => ⟨rfl, by omega, by omega⟩)
            · intro j h1 h2
              by_cases e : j = k + 1
              · subst e; rw [HV.out]; exact World.cell?_setCell_same wr _ _ hu
              · exact (World.cell?_setCell_other wr ⟨zb, zo + (k + 1), none⟩ ⟨zb, zo + j, none⟩ _ (by simp only [ne_eq, Addr.mk.injEq, and_true]; omega)).trans (hI.out.2 j (by omega) h2)
          case measure => simp [intOf]
      · obtain rfl : k = 0 := by omega
        have hx0 := hxc 0 (by omega)
        have hsz : IntKind.u64.wrap (((wd X 0 : Nat) : Int) * 2 ^ s) = ((wd (X * 2 ^ s) 0 : Nat) : Int) := by
          rw [wd_shl_zero, show ((wd X 0 : Nat) : Int) * 2 ^ s = ((wd X 0 * 2 ^ s : Nat) : Int) from by simp, IntKind.wrap_u64]; simp [B]
        rw [Nat.add_zero] at hx0 hu hf
        clear hxc
        go_wp2_with fail
        go_ret
        refine ⟨by rw [← hr.out]; simp, ⟨Nat.mod_lt _ (Bpow_pos _), fun i hi => ?_⟩, (hI.out.1.mono (fun b o _ h => ⟨h.1, by omega, h.2.2⟩)).setCell zb zo _ (fun _ => ⟨rfl, by omega, by omega⟩)⟩
        rw [wd_mod _ hi]
        by_cases e : i = 0
        · subst e; rw [Nat.add_zero]; exact World.cell?_setCell_same _ _ _ hu
        · rw [World.cell?_setCell_other _ _ _ _ (by simp only [ne_eq, Addr.mk.injEq, and_true]; omega)]
          exact hI.out.2 i (by omega) hi)
  clear q0 q1 q2 q3 q4 hx hX hz hal hm1
  go_enter Tryz.func255, Tryz.ntmps255
  go_wp2_with fail
  refine body.out.mono ?_
  rintro e w' ⟨rfl, k⟩
  have K := Aside.mk k
  clear k body
  go_wp2_with fail
  go_ret
  exact ⟨rfl, K.out⟩

set_option maxHeartbeats 2000000 in
set_option maxRecDepth 100000 in
/-- z = x >> s: in place or downwards. -/
theorem rshVU_any (zb zo zc xb xo xc n : Nat) (X s : Nat) (w : World) (hn0 : 0 < n) (hn : n < 1000000) (hs0 : 0 < s) (hs : s < 64) (hX : Words w xb xo n X) (hz : Own w zb zo n)
    (hal : zb ≠ xb ∨ zo ≤ xo ∨ xo + n ≤ zo) :
    Calls Tryz.prog 259 #[.slice (some ⟨zb, zo, none⟩) n zc, .slice (some ⟨xb, xo, none⟩) n xc, .int .u64 s] w fun e w' =>
      ∃ c, e = .returned c ∧ Words w' zb zo n (X / 2 ^ s) ∧ Fr (fun b o => b = zb ∧ zo ≤ o ∧ o < zo + n) w w' := by
  obtain ⟨m, rfl⟩ : ∃ m, n = m + 1 := ⟨n - 1, by omega⟩
  obtain ⟨t, ht⟩ : ∃ t, s + t = 64 := ⟨64 - s, by omega⟩
  have q0 : ((s : Int) == 0) = false := by simp; omega
  have q1 := and63 s hs
  have q2 : IntKind.u64.wrap (64 - (s : Int)) = (t : Int) := by rw [IntKind.wrap_u64]; omega
  have q3 := and63 t (by omega)
  have q4 : ((m : Int) + 1 == 0) = false := by simp; omega
  have hx := hX.cell 0 (by omega)
  have HT := Lib.hid ht
  have ht64 : t < 64 := by omega
  rw [Nat.add_zero] at hx
  clear ht
  have body : Hid (Calls Tryz.prog 293 #[.slice (some ⟨zb, zo, none⟩) (m + 1) zc, .slice (some ⟨xb, xo, none⟩) (m + 1) xc, .int .u64 s] w fun e w' =>
      ∃ c, e = .returned c ∧ Words w' zb zo (m + 1) (X / 2 ^ s) ∧ Fr (fun b o => b = zb ∧ zo ≤ o ∧ o < zo + (m + 1)) w w') := Lib.hid (by
    go_enter Tryz.func293, Tryz.ntmps293
    go_wp2_with fail
    clear q0
    go_loopw [8] (fun i wr => ∃ k : Nat, k ≤ m ∧ i = .int .i64 ((k : Int) + 1) ∧ Aside (Fr (fun b o => b = zb ∧ zo ≤ o ∧ o < zo + k) w wr ∧ ∀ j, j < k → wr.cell? ⟨zb, zo + j, none⟩ = some (.int .u64 (wd (X / 2 ^ s) j : Nat)))) (fun i _ => m + 1 - (intOf i).toNat)
    case atStart => exact ⟨0, by omega, by simp, ⟨Fr.refl _ w, fun j h1 => by omega⟩⟩
    case round =>
      obtain ⟨k, hk, rfl, hI⟩ := hrel
      have hxc : ∀ i, k ≤ i → i < m + 1 → wr.cell? ⟨xb, xo + i, none⟩ = some (.int .u64 (wd X i : Nat)) := fun i hi him => by
        have hc := hX.cell i him
        exact (hI.out.1.cell xb (xo + i) (World.block_lt_of_cell? w _ hc) (by omega)).trans hc
      obtain ⟨u, _, hu0⟩ := hz.cell k (by omega)
      have hu : wr.cell? ⟨zb, zo + k, none⟩ = some (.int .u64 (u : Nat)) := (hI.out.1.cell zb (zo + k) hz.kind.lt (by omega)).trans hu0
      have hf : wr.frozen? ⟨zb, zo + k, none⟩ = false := (hI.out.1.frozen zb (zo + k) hz.kind.lt).trans (hz.free k (by omega))
      by_cases h0 : k < m
      · have hx1 := hxc (k + 1) (by omega) (by omega)
        have hx0 := hxc k (by omega) (by omega)
        have ho := (or_words (s := t) (t := s) (by have := HT.out; omega) (wd X (k + 1)) (wd X k) (wd_lt _ _)).2
        rw [Nat.add_comm (wd X (k + 1) * 2 ^ t % B), ← wd_shr HT.out] at ho
        obtain ⟨V, hV⟩ : ∃ v, wd (X / 2 ^ s) k = v := ⟨_, rfl⟩
        rw [hV] at ho
        have HV := Aside.mk hV
        clear hxc hV
        have b1 : IntKind.i64.wrap (k : Int) = k := IntWalk.i64_in _ (by omega)
        have b2 : (k : Int) < (m : Int) + 1 := by omega
        have b3 : (k : Int) < (m : Int) := by omega
        have b4 : ((k : Int) + 1).toNat = k + 1 := by omega
        have b5 : 0 ≤ (k : Int) + 1 := by omega
        have b6 : IntKind.i64.wrap ((k : Int) + 1 - 1) = k := by rw [Int.add_sub_cancel]; exact b1
        go_wp2_with fail
        go_region_with (fail)
        all_goals
          go_wp2_with fail
          go_roundw
          case rel =>
            refine ⟨k + 1, by omega, by simp, ⟨?_, ?_⟩⟩
            · exact ((hI.out.1.mono (fun b o _ h => ⟨h.1, h.2.1, by omega⟩)).drewN _).setCell zb (zo + k) _ (fun _ => ⟨rfl, by omega, by omega⟩)
            · intro j h1
              by_cases e : j = k
              · subst e; rw [HV.out]; exact World.cell?_setCell_same wr _ _ hu
              · exact (World.cell?_setCell_other wr ⟨zb, zo + k, none⟩ ⟨zb, zo + j, none⟩ _ (by simp only [ne_eq, Addr.mk.injEq, and_true]; omega)).trans (hI.out.2 j (by omega))
          case measure => simp [intOf]; omega
      · obtain rfl : k = m := by omega
        have hx0 := hxc k (by omega) (by omega)
        have hsz : ((wd X k : Nat) : Int) / 2 ^ s = ((wd (X / 2 ^ s) k : Nat) : Int) := by
          rw [wd_shr HT.out, wd_ge (i := k + 1) X hX.lt (Nat.le_refl _), Nat.zero_mul, Nat.zero_mod, Nat.add_zero]; simp
        have HSZ := Aside.mk hsz
        have b1 : ((k : Int) + 1 - 1).toNat = k := by omega
        clear hxc hsz
        go_wp2_with fail
        go_ret
        refine ⟨_, rfl, ⟨Nat.lt_of_le_of_lt (Nat.div_le_self _ _) hX.lt, fun i hi => ?_⟩, (hI.out.1.mono (fun b o _ h => ⟨h.1, h.2.1, by omega⟩)).setCell zb (zo + k) _ (fun _ => ⟨rfl, by omega, by omega⟩)⟩
        by_cases e : i = k
        · subst e; rw [← HSZ.out]; exact World.cell?_setCell_same _ _ _ hu
        · rw [World.cell?_setCell_other _ _ _ _ (by simp only [ne_eq, Addr.mk.injEq, and_true]; omega)]
          exact hI.out.2 i (by omega))
  clear q0 q1 q2 q3 q4 hx hX hz hal
  go_enter Tryz.func259, Tryz.ntmps259
  go_wp2_with fail
  refine body.out.mono ?_
  rintro e w' ⟨c, rfl, k⟩
  have K := Aside.mk k
  clear k body
  go_wp2_with fail
  go_ret
  exact ⟨c, rfl, K.out⟩
end Go.Proofs.YtgilnnipephfjaaGreatDoor
namespace Go.Proofs.YtgilnnipephfjaaGreatDoor
open Go.RowKit

/-- What a stack at (sb, so) may write where n of its words are in use: its pointer, its head, its words from n on. -/
def sfree (w : World) (sb so n x y : Nat) : Prop :=
  (x = sb ∧ y = so) ∨ ∃ ib, w.cell? ⟨sb, so, none⟩ = some (.pointer (some ⟨ib, 0, none⟩)) ∧
    ((x = ib ∧ y = 0) ∨ ∃ ab ao l c, w.cell? ⟨ib, 0, none⟩ = some (.slice (some ⟨ab, ao, none⟩) l c) ∧ x = ab ∧ ao + n ≤ y ∧ y < ao + c)
/-- A stack of which n words are in use. -/
def Stk (w : World) (sb so n : Nat) : Prop :=
  Blk w sb ∧ ((w.cell? ⟨sb, so, none⟩ = some (.pointer none) ∧ n = 0) ∨
    ∃ ib a c, w.cell? ⟨sb, so, none⟩ = some (.pointer (some ⟨ib, 0, none⟩)) ∧ w.cell? ⟨ib, 0, none⟩ = some (.slice a n c) ∧ Blk w ib ∧ n ≤ c ∧ c ≤ maxLen ∧
      ((a = none ∧ c = 0) ∨ ∃ ab ao, a = some ⟨ab, ao, none⟩ ∧ Own w ab ao c))
/-- A cell that holds a word. -/
def WC (w : World) (x y : Nat) : Prop := ∃ u : Nat, u < B ∧ w.cell? ⟨x, y, none⟩ = some (.int .u64 (u : Nat))
theorem Own.wc {w : World} {b o n : Nat} (h : Own w b o n) {x y : Nat} (hx : x = b ∧ o ≤ y ∧ y < o + n) : WC w x y := by
  obtain ⟨rfl, h1, h2⟩ := hx
  have := h.cell (y - o) (by omega)
  rwa [show o + (y - o) = y from by omega] at this
theorem WC.lt {w : World} {x y : Nat} (h : WC w x y) : x < w.heap.size := let ⟨_, _, q⟩ := h; World.block_lt_of_cell? w _ q
/-- Where words alone are written, a stack stays as it is. -/
theorem Stk.fr {T : Nat → Nat → Prop} {w w' : World} {sb so n : Nat} (h : Stk w sb so n) (f : Fr T w w') (ht : ∀ x y, T x y → x < w.heap.size → WC w x y ∧ WC w' x y) :
    Stk w' sb so n ∧ ∀ k x y, sfree w' sb so k x y ↔ sfree w sb so k x y := by
  have key : ∀ x y v, w.cell? ⟨x, y, none⟩ = some v → (∀ u : Nat, v ≠ .int .u64 (u : Nat)) → w'.cell? ⟨x, y, none⟩ = some v := by
    intro x y v hv hn
    have hlt := World.block_lt_of_cell? w _ hv
    refine (f.cell x y hlt (fun k => ?_)).trans hv
    obtain ⟨⟨u, _, hu⟩, _⟩ := ht x y k hlt
    rw [hv] at hu
    exact hn u (Option.some.inj hu)
  have own : ∀ b o c, Own w b o c → Own w' b o c := fun b o c ho => ⟨fun i hi => by
    obtain ⟨x, hx, hc⟩ := ho.cell i hi
    by_cases k : T b (o + i)
    · exact (ht b (o + i) k ho.kind.lt).2
    · exact ⟨x, hx, (f.cell b (o + i) ho.kind.lt k).trans hc⟩, f.blk ho.kind⟩
  obtain ⟨hb, h⟩ := h
  rcases h with ⟨h1, rfl⟩ | ⟨ib, a, c, h1, h2, h3, h4, h5, h6⟩
  · have e1 := key _ _ _ h1 (fun _ => by simp)
    refine ⟨⟨f.blk hb, .inl ⟨e1, rfl⟩⟩, fun k x y => ?_⟩
    unfold sfree
    rw [e1, h1]
    simp
  · have e1 := key _ _ _ h1 (fun _ => by simp)
    have e2 := key _ _ _ h2 (fun _ => by simp)
    refine ⟨⟨f.blk hb, .inr ⟨ib, a, c, e1, e2, f.blk h3, h4, h5, ?_⟩⟩, fun k x y => ?_⟩
    · rcases h6 with k | ⟨ab, ao, rfl, ho⟩
      · exact .inl k
      · exact .inr ⟨ab, ao, rfl, own _ _ _ ho⟩
    · unfold sfree
      rw [e1, h1]
      constructor
      · rintro (k | ⟨ib', e, k⟩)
        · exact .inl k
        · cases e
          rw [e2] at k
          exact .inr ⟨ib, rfl, by rw [h2]; exact k⟩
      · rintro (k | ⟨ib', e, k⟩)
        · exact .inl k
        · cases e
          rw [h2] at k
          exact .inr ⟨ib, rfl, by rw [e2]; exact k⟩
/-- What is free later was free before, or is new. -/
def SSub (w w' : World) (sb so n : Nat) : Prop := ∀ k x y, k ≤ n → sfree w' sb so k x y → sfree w sb so k x y ∨ w.heap.size ≤ x
theorem SSub.refl (w : World) (sb so n : Nat) : SSub w w sb so n := fun _ _ _ _ h => .inl h
theorem SSub.trans {w w1 w2 : World} {sb so n : Nat} (h : SSub w w1 sb so n) (k : SSub w1 w2 sb so n) (hs : w.heap.size ≤ w1.heap.size) : SSub w w2 sb so n := fun j x y hj q => by
  rcases k j x y hj q with q | q
  · exact h j x y hj q
  · exact .inr (Nat.le_trans hs q)
theorem SSub.le {w w1 : World} {sb so n m : Nat} (h : SSub w w1 sb so n) (hm : m ≤ n) : SSub w w1 sb so m := fun j x y hj q => h j x y (by omega) q
theorem SSub.of_iff {w w' : World} {sb so n : Nat} (h : ∀ k x y, sfree w' sb so k x y ↔ sfree w sb so k x y) : SSub w w' sb so n := fun k x y _ q => .inl ((h k x y).1 q)
theorem sfree.le {w : World} {sb so n m x y : Nat} (h : sfree w sb so n x y) (hm : m ≤ n) : sfree w sb so m x y := by
  rcases h with h | ⟨ib, h1, h | ⟨ab, ao, l, c, h2, h3, h4, h5⟩⟩
  · exact .inl h
  · exact .inr ⟨ib, h1, .inl h⟩
  · exact .inr ⟨ib, h1, .inr ⟨ab, ao, l, c, h2, h3, by omega, h5⟩⟩
theorem Stk.free_lt {w : World} {sb so n k x y : Nat} (h : Stk w sb so n) (hf : sfree w sb so k x y) : x < w.heap.size := by
  obtain ⟨hb, h⟩ := h
  rcases hf with ⟨rfl, _⟩ | ⟨ib, h1, ⟨rfl, _⟩ | ⟨ab, ao, l, c, h2, rfl, h4, h5⟩⟩
  · exact hb.lt
  · rcases h with ⟨e, _⟩ | ⟨ib', a, c, e, e2, h3, _⟩
    · rw [e] at h1; cases h1
    · rw [e] at h1; cases h1; exact h3.lt
  · rcases h with ⟨e, _⟩ | ⟨ib', a, c', e, e2, h3, _, _, h6⟩
    · rw [e] at h1; cases h1
    · rw [e] at h1; cases h1
      rw [e2] at h2; cases h2
      rcases h6 with ⟨q, _⟩ | ⟨_, _, q, ho⟩
      · cases q
      · cases q; exact ho.kind.lt
theorem Stk.free_lo {w : World} {sb so n k x y : Nat} (h : Stk w sb so n) (hf : sfree w sb so k x y) : NG ≤ x := by
  obtain ⟨hb, h⟩ := h
  rcases hf with ⟨rfl, _⟩ | ⟨ib, h1, ⟨rfl, _⟩ | ⟨ab, ao, l, c, h2, rfl, h4, h5⟩⟩
  · exact hb.1
  · rcases h with ⟨e, _⟩ | ⟨ib', a, c, e, e2, h3, _⟩
    · rw [e] at h1; cases h1
    · rw [e] at h1; cases h1; exact h3.1
  · rcases h with ⟨e, _⟩ | ⟨ib', a, c', e, e2, h3, _, _, h6⟩
    · rw [e] at h1; cases h1
    · rw [e] at h1; cases h1
      rw [e2] at h2; cases h2
      rcases h6 with ⟨q, _⟩ | ⟨_, _, q, ho⟩
      · cases q
      · cases q; exact ho.kind.1
theorem Stk.drewN {w : World} {sb so n : Nat} (h : Stk w sb so n) (d : Nat) : Stk (w.drewN d) sb so n := by
  obtain ⟨hb, h⟩ := h
  refine ⟨⟨hb.1, hb.2⟩, h.imp (fun q => q) ?_⟩
  rintro ⟨ib, a, c, h1, h2, h3, h4, h5, h6⟩
  exact ⟨ib, a, c, h1, h2, ⟨h3.1, h3.2⟩, h4, h5, h6.imp (fun q => q) (fun ⟨ab, ao, e, ho⟩ => ⟨ab, ao, e, ho.cell, ho.kind⟩)⟩
/-- A new stack. -/
theorem Stk.new {w : World} (hG : NG ≤ w.heap.size) (t : TypeId) : Stk (w.alloc (.cells #[.pointer none] t)) w.heap.size 0 0 :=
  ⟨⟨hG, t, kind_alloc_new _ _ _ _⟩, .inl ⟨by rw [World.cell?_alloc_new]; rfl, rfl⟩⟩
end Go.Proofs.YtgilnnipephfjaaGreatDoor
