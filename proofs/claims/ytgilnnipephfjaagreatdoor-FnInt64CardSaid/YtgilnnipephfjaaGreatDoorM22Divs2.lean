/- Contract of natdiv.go: div, with a stack and without one. divisors for numbers of 9 to 17 words: one row, 10^154. Contract of divisors for numbers of 9 to 17 words. -/
import Derived.Test.YtgilnnipephfjaaGreatDoorM21DivL2
import Derived.Test.YtgilnnipephfjaaGreatDoorM11Cmp
import Derived.Test.YtgilnnipephfjaaGreatDoorM09Conv
set_option linter.unusedSimpArgs false
set_option linter.unusedVariables false
namespace Go.Proofs.YtgilnnipephfjaaGreatDoor
open Go.RowKit

theorem sg_neg {X Y : Nat} (h : X < Y) : decide (sg X Y < 0) = true := by unfold sg; rw [if_pos h]; decide
theorem sg_nn {X Y : Nat} (h : ¬ X < Y) : decide (sg X Y < 0) = false := by unfold sg; rw [if_neg h]; split <;> decide
set_option maxRecDepth 100000 in
set_option maxHeartbeats 1000000 in
theorem divBig_any {za ua xa ya : Option Addr} {zl zc ul uc0 xc yc X Y sb so k : Nat} {w : World} (g : Gl w) (hs : Stk w sb so k) (hk : k ≤ 500) (hz : Reg w za zc) (hzl : zl ≤ zc) (hu : Reg w ua uc0) (hul : ul ≤ uc0) (hX : Nt w xa xc X) (hY : Nt w ya yc Y)
    (h2 : 2 ≤ nlen Y) (h40 : nlen Y < 40) (hle : Y ≤ X) (hxl : nlen X < 1000) (hzu : Disj za zc ua uc0) (hux : Ap ua uc0 xa xc)
    (fz : ∀ x y, foot za zc x y → ¬ sfree w sb so k x y) (fu : ∀ x y, foot ua uc0 x y → ¬ sfree w sb so k x y) (fx : ∀ x y, foot xa xc x y → ¬ sfree w sb so k x y) (fy : ∀ x y, foot ya yc x y → ¬ sfree w sb so k x y) :
    Calls Tryz.prog 182 #[.slice za zl zc, .pointer (some ⟨sb, so, none⟩), .slice ua ul uc0, .slice xa (nlen X) xc, .slice ya (nlen Y) yc] w fun e w' => ∃ qb qo qc ub uo uc,
      e = .returned (.tuple #[.slice (some ⟨qb, qo, none⟩) (nlen (X / Y)) qc, .slice (some ⟨ub, uo, none⟩) (nlen (X % Y)) uc]) ∧ Nt w' (some ⟨qb, qo, none⟩) qc (X / Y) ∧ Nt w' (some ⟨ub, uo, none⟩) uc (X % Y) ∧
      Stk w' sb so k ∧ SSub w w' sb so k ∧ Fr (fun x y => foot za zc x y ∨ foot ua uc0 x y ∨ sfree w sb so k x y) w w' ∧ Out w za zc (some ⟨qb, qo, none⟩) qc ∧ Out w ua uc0 (some ⟨ub, uo, none⟩) uc ∧ Disj (some ⟨qb, qo, none⟩) qc (some ⟨ub, uo, none⟩) uc ∧
      NF w' sb so k qb qo qc ∧ NF w' sb so k ub uo uc := by
  have HC := Lib.hid (cmp_any hX hY)
  have HL : Hid (∀ d, Calls Tryz.prog 217 #[.slice za zl zc, .pointer (some ⟨sb, so, none⟩), .slice ua ul uc0, .slice xa (nlen X) xc, .slice ya (nlen Y) yc] (w.drewN d) fun e w' => ∃ qb qo qc ub uo uc,
      e = .returned (.tuple #[.slice (some ⟨qb, qo, none⟩) (nlen (X / Y)) qc, .slice (some ⟨ub, uo, none⟩) (nlen (X % Y)) uc]) ∧ Aside (Nt w' (some ⟨qb, qo, none⟩) qc (X / Y) ∧ Nt w' (some ⟨ub, uo, none⟩) uc (X % Y) ∧
      Stk w' sb so k ∧ SSub w w' sb so k ∧ Fr (fun x y => foot za zc x y ∨ foot ua uc0 x y ∨ sfree w sb so k x y) w w' ∧ Out w za zc (some ⟨qb, qo, none⟩) qc ∧ Out w ua uc0 (some ⟨ub, uo, none⟩) uc ∧ Disj (some ⟨qb, qo, none⟩) qc (some ⟨ub, uo, none⟩) uc ∧
      NF w' sb so k qb qo qc ∧ NF w' sb so k ub uo uc)) := Lib.hid (fun d => by
    refine (divLarge_any (g.drewN d) (hs.drewN d) hk (hz.drewN d) hzl (hu.drewN d) hul (hX.drewN d) (hY.drewN d) h2 h40 (nlen_mono hle) hxl hzu hux fz fu fx fy).mono ?_
    rintro e w' ⟨qb, qo, qc, ub, uo, uc, rfl, r1, r2, r3, r4, r5, r6⟩
    exact ⟨qb, qo, qc, ub, uo, uc, rfl, ⟨r1, r2, r3, r4, ((Fr.refl _ w).drewN d).trans r5, r6⟩⟩)
  have q0 : ((nlen Y : Int) == 0) = false := by simp; omega
  have q1 : ((nlen Y : Int) == 1) = false := by simp; omega
  have q2 := sg_nn (show ¬ X < Y by omega)
  obtain ⟨n, hn⟩ : ∃ z, nlen Y = z := ⟨_, rfl⟩
  obtain ⟨lx, hlx⟩ : ∃ z, nlen X = z := ⟨_, rfl⟩
  obtain ⟨sv, hsv⟩ : ∃ z, sg X Y = z := ⟨_, rfl⟩
  obtain ⟨nq, hnq⟩ : ∃ z, nlen (X / Y) = z := ⟨_, rfl⟩
  obtain ⟨nr, hnr⟩ : ∃ z, nlen (X % Y) = z := ⟨_, rfl⟩
  rw [hn, hlx] at HC HL ⊢
  rw [hsv] at HC q2
  rw [hnq, hnr] at HL ⊢
  rw [hn] at q0 q1
  clear g hs hz hu hX hY h2 h40 hle hxl hzu hux fz fu fx fy hn hlx hsv hnq hnr
  go_enter_defers Tryz.func182, Tryz.ntmps182
  go_wp2_with fail
  refine HC.out.mono ?_
  rintro e w1 ⟨rfl, d, rfl⟩
  go_wp2_with fail
  refine (HL.out d).mono ?_
  rintro e w2 ⟨qb, qo, qc, ub, uo, uc, rfl, hA⟩
  go_wp2_with fail
  exact ⟨_, results_tmp2 rfl _ _ _, qb, qo, qc, ub, uo, uc, rfl, hA.out⟩
end Go.Proofs.YtgilnnipephfjaaGreatDoor
namespace Go.Proofs.YtgilnnipephfjaaGreatDoor
open Go.RowKit

/-- The number by which a great one is split. -/
def half (j : Nat) : Nat := 10 ^ (152 + j)
theorem half_lt {j : Nat} (h : j ≤ 2) : half j < B ^ 8 := Nat.lt_of_le_of_lt (Nat.pow_le_pow_right (by decide) (by omega : 152 + j ≤ 154)) (by decide)
theorem half_ge (j : Nat) : B ^ 7 ≤ half j := Nat.le_trans (by decide : B ^ 7 ≤ 10 ^ 152) (Nat.pow_le_pow_right (by decide) (by omega))
theorem half_len {j : Nat} (h : j ≤ 2) : nlen (half j) = 8 := nlen_uniq (half_lt h) (.inr (half_ge j))
theorem half_ne (j : Nat) : half j ≠ 0 := by have := half_ge j; have := Bpow_pos 7; omega
theorem half_next (j : Nat) : half j * 10 = half (j + 1) := by unfold half; rw [← Nat.pow_succ]; rfl
theorem half_end : B ^ 8 ≤ half 3 := by decide
theorem half_pow : p10 19 ^ 8 = half 0 := by unfold p10 half; rw [← Nat.pow_mul]
theorem bl_eq {x m : Nat} (h1 : decide (x < 2 ^ (m + 1)) = true) (h2 : decide (x < 2 ^ m) = false) : bl x = m + 1 := by
  have g1 := (lt_two_iff x (m + 1)).1 (of_decide_eq_true h1)
  have g2 : ¬ bl x ≤ m := fun k => of_decide_eq_false h2 ((lt_two_iff x m).2 k)
  omega
theorem half_bl : bl (half 2) = 512 := bl_eq (m := 511) (by kernel_rfl) (by kernel_rfl)

set_option maxRecDepth 100000 in
theorem expWW_ten {sb so : Nat} {w : World} (g : Gl w) :
    Calls Tryz.prog 229 #[.slice none 0 0, .pointer (some ⟨sb, so, none⟩), .int .u64 (p10 19 : Nat), .int .u64 8] w fun e w' => ∃ a' c', e = .returned (.slice a' 8 c') ∧ Nt w' a' c' (half 0) ∧
      Fr (fun _ _ => False) w w' ∧ ∀ x y, foot a' c' x y → w.heap.size ≤ x := by
  have hb : p10 19 < B := by rw [p10_19]; decide
  have h1 : 1 < p10 19 := by rw [p10_19]; decide
  have H1 := Lib.hid (setWord_any none 0 0 (p10 19) w g.size (Reg.nil w) hb)
  have n1 : nlen (p10 19) = 1 := nlen_word (by omega) hb
  have n8 : nlen 8 = 1 := nlen_word (by omega) (by decide)
  have H2 : Hid (∀ w1, Fr (fun _ _ => False) w w1 → Calls Tryz.prog 204 #[.slice none 0 0, .int .u64 8] w1 fun e w' => ∃ a' c', e = .returned (.slice a' 1 c') ∧ Nt w' a' c' 8 ∧ Aside (Fr (fun _ _ => False) w1 w')) := Lib.hid (fun w1 f => by
    refine (setWord_any none 0 0 8 w1 (Nat.le_trans g.size f.size) (Reg.nil w1) (by decide)).mono ?_
    rintro e w' ⟨a', c', rfl, r1, r2, r3⟩
    exact ⟨a', c', by rw [n8], r1, ⟨r2.mono (fun x y _ k => foot_none _ _ _ k)⟩⟩)
  have H3 : Hid (∀ w2 xa xc ya yc, Fr (fun _ _ => False) w w2 → Nt w2 xa xc (p10 19) → Nt w2 ya yc 8 → Calls Tryz.prog 268 #[.slice none 0 0, .pointer (some ⟨sb, so, none⟩), .slice xa 1 xc, .slice ya 1 yc, .slice none 0 0, .bool false] w2 fun e w' => ∃ a' c', e = .returned (.slice a' 8 c') ∧ Aside (Nt w' a' c' (half 0) ∧ Fr (fun _ _ => False) w2 w' ∧ ∀ x y, foot a' c' x y → w2.heap.size ≤ x)) := Lib.hid (fun w2 xa xc ya yc f hx hy => by
    have E := expNN_stk (a := none) (zl := 0) (zc := 0) sb so (g.fr f (fun _ _ k => k.elim)) (Reg.nil w2) (Nat.le_refl 0) hx hy false h1 hb (by decide) (by decide) (by
      have : p10 19 ^ (8 / 2) < B ^ 5 := by rw [p10_19]; decide
      have := nlen_le this
      omega) (fun _ _ k => (foot_none _ _ _ k).elim) (fun _ _ k => (foot_none _ _ _ k).elim) rfl rfl
    rw [n1, n8, half_pow, half_len (by omega)] at E
    refine E.mono ?_
    rintro e w' ⟨a', c', rfl, r1, r2, r3⟩
    refine ⟨a', c', rfl, ⟨r1, r2.mono (fun x y _ k => foot_none _ _ _ k), fun x y k => ?_⟩⟩
    rcases r3 with ⟨rfl, rfl⟩ | ⟨b', o', rfl, hn⟩
    · exact (foot_none _ _ _ k).elim
    · rw [foot_some] at k; omega)
  rw [n1] at H1
  obtain ⟨P, hP⟩ : ∃ z, p10 19 = z := ⟨_, rfl⟩
  rw [hP] at H1 H3 ⊢
  clear g hb h1 n1 n8 hP
  go_enter Tryz.func229, Tryz.ntmps229
  go_wp2_with fail
  refine H1.out.mono ?_
  rintro e w1 ⟨xa, xc, rfl, r1, r2, r3⟩
  have F1 := Aside.mk (r2.mono (T := fun _ _ => False) (fun x y _ k => foot_none _ _ _ k))
  have N1 := Aside.mk r1
  clear r1 r2 r3 H1
  go_wp2_with fail
  refine (H2.out _ F1.out).mono ?_
  rintro e w2 ⟨ya, yc, rfl, r1, r2⟩
  have F2 := Aside.mk (F1.out.trans r2.out)
  have N2 := Aside.mk (r2.out.nt N1.out (fun _ _ _ k => k))
  have N3 := Aside.mk r1
  clear r1 r2 H2
  go_wp2_with fail
  refine (H3.out _ _ _ _ _ F2.out N2.out N3.out).mono ?_
  rintro e w3 ⟨a', c', rfl, hA⟩
  clear H3
  go_wp2_with fail
  go_ret
  exact ⟨a', c', rfl, hA.out.1, F2.out.trans hA.out.2.1, fun x y k => Nat.le_trans F2.out.size (hA.out.2.2 x y k)⟩

/-- A table of one row, that of half. -/
structure Tab (w0 w : World) (tb : Nat) (ba : Option Addr) (bc j : Nat) (bits : Int) : Prop where
  c0 : w.cell? ⟨tb, 0, none⟩ = some (.slice ba 8 bc)
  c1 : w.cell? ⟨tb, 1, none⟩ = some (.int .i64 bits)
  c2 : w.cell? ⟨tb, 2, none⟩ = some (.int .i64 ((152 + j : Nat) : Int))
  nt : Nt w ba bc (half j)
  blk : Blk w tb
  new : w0.heap.size ≤ tb
  far : ∀ x y, foot ba bc x y → w0.heap.size ≤ x
end Go.Proofs.YtgilnnipephfjaaGreatDoor
namespace Go.Proofs.YtgilnnipephfjaaGreatDoor
open Go.RowKit

theorem Reg.cell_w {w : World} {a : Option Addr} {c b o : Nat} (h : Reg w a c) (k : foot a c b o) : ∃ x : Nat, w.cell? ⟨b, o, none⟩ = some (.int .u64 (x : Nat)) := by
  obtain ⟨b', o', e, rfl, h1, h2⟩ := k
  rcases h.2 with ⟨k, _⟩ | ⟨b2, o2, k, hown⟩
  · rw [k] at e; cases e
  · rw [k] at e; cases e
    obtain ⟨x, _, hx⟩ := hown.cell (o - o') (by omega)
    exact ⟨x, by rwa [show o' + (o - o') = o from by omega] at hx⟩
/-- Writing where no word lies leaves a number as it is. -/
theorem Nt.other {w : World} {a : Option Addr} {c X b o : Nat} {v : Value} (h : Nt w a c X) (hc : w.cell? ⟨b, o, none⟩ = some v) (hv : ∀ x : Nat, v ≠ .int .u64 (x : Nat)) (v' : Value) : Nt (w.setCell ⟨b, o, none⟩ v') a c X := by
  refine ((Fr.refl (fun x y => x = b ∧ y = o) w).setCell b o v' (fun _ => ⟨rfl, rfl⟩)).nt h ?_
  rintro x y k ⟨rfl, rfl⟩
  obtain ⟨u, hu⟩ := h.reg.cell_w k
  rw [hc] at hu
  exact hv u (Option.some.inj hu)
/-- A row of a table: three cells. -/
structure Rw3 (w : World) (tb : Nat) (v0 v1 v2 : Value) : Prop where
  c0 : w.cell? ⟨tb, 0, none⟩ = some v0
  c1 : w.cell? ⟨tb, 1, none⟩ = some v1
  c2 : w.cell? ⟨tb, 2, none⟩ = some v2
  blk : Blk w tb
theorem Rw3.fr {S : Nat → Nat → Prop} {w w' : World} {tb : Nat} {v0 v1 v2 : Value} (h : Rw3 w tb v0 v1 v2) (f : Fr S w w') (hs : ∀ o, ¬ S tb o) : Rw3 w' tb v0 v1 v2 :=
  ⟨(f.cell tb 0 h.blk.lt (hs 0)).trans h.c0, (f.cell tb 1 h.blk.lt (hs 1)).trans h.c1, (f.cell tb 2 h.blk.lt (hs 2)).trans h.c2, f.blk h.blk⟩
theorem Rw3.set0 {w : World} {tb : Nat} {v0 v1 v2 : Value} (h : Rw3 w tb v0 v1 v2) (v : Value) : Rw3 (w.setCell ⟨tb, 0, none⟩ v) tb v v1 v2 :=
  ⟨World.cell?_setCell_same _ _ _ h.c0, (World.cell?_setCell_other _ _ _ _ (by simp)).trans h.c1, (World.cell?_setCell_other _ _ _ _ (by simp)).trans h.c2, h.blk.of_kind (kind_setCell _ _ _ _)⟩
theorem Rw3.set1 {w : World} {tb : Nat} {v0 v1 v2 : Value} (h : Rw3 w tb v0 v1 v2) (v : Value) : Rw3 (w.setCell ⟨tb, 1, none⟩ v) tb v0 v v2 :=
  ⟨(World.cell?_setCell_other _ _ _ _ (by simp)).trans h.c0, World.cell?_setCell_same _ _ _ h.c1, (World.cell?_setCell_other _ _ _ _ (by simp)).trans h.c2, h.blk.of_kind (kind_setCell _ _ _ _)⟩
theorem Rw3.set2 {w : World} {tb : Nat} {v0 v1 v2 : Value} (h : Rw3 w tb v0 v1 v2) (v : Value) : Rw3 (w.setCell ⟨tb, 2, none⟩ v) tb v0 v1 v :=
  ⟨(World.cell?_setCell_other _ _ _ _ (by simp)).trans h.c0, (World.cell?_setCell_other _ _ _ _ (by simp)).trans h.c1, World.cell?_setCell_same _ _ _ h.c2, h.blk.of_kind (kind_setCell _ _ _ _)⟩
theorem Rw3.new {w : World} (hG : NG ≤ w.heap.size) (v0 v1 v2 : Value) (t : TypeId) : Rw3 (w.alloc (.cells #[v0, v1, v2] t)) w.heap.size v0 v1 v2 :=
  ⟨by rw [World.cell?_alloc_new]; rfl, by rw [World.cell?_alloc_new]; rfl, by rw [World.cell?_alloc_new]; rfl, ⟨hG, t, kind_alloc_new _ _ _ _⟩⟩
/-- The table while it is filled, and the number that tries the next power. -/
structure TL (w0 w : World) (tb : Nat) (ba : Option Addr) (bc j : Nat) (la : Option Addr) (lc : Nat) : Prop where
  t : Rw3 w tb (.slice ba 8 bc) (.int .i64 0) (.int .i64 ((152 + j : Nat) : Int))
  b : Nt w ba bc (half j)
  bnew : ∀ x y, foot ba bc x y → w0.heap.size ≤ x
  l : Nt w la lc (half j)
  lnew : ∀ x y, foot la lc x y → w0.heap.size ≤ x
  fr : Fr (fun _ _ => False) w0 w
  ap : Disj la lc ba bc
  tnew : w0.heap.size ≤ tb
/-- The table made. -/
structure TD (w0 w : World) (tb : Nat) (ba : Option Addr) (bc : Nat) : Prop where
  t : Rw3 w tb (.slice ba 8 bc) (.int .i64 512) (.int .i64 154)
  b : Nt w ba bc (half 2)
  bnew : ∀ x y, foot ba bc x y → w0.heap.size ≤ x
  tnew : w0.heap.size ≤ tb
  fr : Fr (fun _ _ => False) w0 w
theorem Rw3.far {w : World} {tb : Nat} {v0 v1 v2 : Value} {a : Option Addr} {c : Nat} (h : Rw3 w tb v0 v1 v2) (hr : Reg w a c) (n0 : ∀ x : Nat, v0 ≠ .int .u64 (x : Nat)) (n1 : ∀ x : Nat, v1 ≠ .int .u64 (x : Nat)) (n2 : ∀ x : Nat, v2 ≠ .int .u64 (x : Nat)) (o : Nat) (ho : o < 3) : ¬ foot a c tb o := fun k => by
  obtain ⟨u, hu⟩ := hr.cell_w k
  match o, ho with
  | 0, _ => rw [h.c0] at hu; exact n0 u (Option.some.inj hu)
  | 1, _ => rw [h.c1] at hu; exact n1 u (Option.some.inj hu)
  | 2, _ => rw [h.c2] at hu; exact n2 u (Option.some.inj hu)
/-- What cell (b, o) counts. -/
def cnt (w : World) (b o : Nat) : Nat := match w.cell? ⟨b, o, none⟩ with
  | some (.int _ x) => x.toNat
  | _ => 0
theorem cnt_of {w : World} {b o n : Nat} {k : IntKind} (h : w.cell? ⟨b, o, none⟩ = some (.int k ((n : Nat) : Int))) : cnt w b o = n := by simp [cnt, h]

set_option maxRecDepth 1000000 in
set_option maxHeartbeats 4000000 in
theorem divisors_tab {sb so n : Nat} {w : World} (g : Gl w) (hn : 8 < n) (hn2 : n ≤ 17) :
    Calls Tryz.prog 196 #[.pointer (some ⟨sb, so, none⟩), .int .i64 n, .int .u64 10, .int .i64 19, .int .u64 (p10 19 : Nat)] w fun e w' => ∃ tb ba bc, e = .returned (.slice (some ⟨tb, 0, none⟩) 1 1) ∧ TD w w' tb ba bc := by
  have h1 := g.leaf
  have q1 : decide ((n : Int) ≤ 8) = false := by simp; omega
  have q2 : decide (8 < (n : Int) / 2) = false := by simp; omega
  have fm : ∀ w, (Instr.makeSlice 227 (.int .i64 1) (.int .i64 1)).run Tryz.prog w = .ok (.slice (some ⟨w.heap.size, 0, none⟩) 1 1) (w.alloc (.cells #[.slice none 0 0, .int .i64 0, .int .i64 0] 260)) := fun _ => by kernel_rfl
  have HA := Aside.mk (Rw3.new (w := w) g.size (.slice none 0 0) (.int .i64 0) (.int .i64 0) 260)
  have FA := Aside.mk ((Fr.refl (fun _ _ => False) w).alloc (.cells #[.slice none 0 0, .int .i64 0, .int .i64 0] 260))
  have HG := Aside.mk g
  obtain ⟨P, hP⟩ : ∃ z, p10 19 = z := ⟨_, rfl⟩
  have HP := Aside.mk hP
  rw [hP]
  clear g hP hn hn2
  go_enter Tryz.func196, Tryz.ntmps196
  go_wp2_with fail
  refine wp_loop_once ?_
  go_wp2_with fail
  obtain ⟨wA, hwA⟩ : ∃ x, w.alloc (.cells #[.slice none 0 0, .int .i64 0, .int .i64 0] 260) = x := ⟨_, rfl⟩
  obtain ⟨tb, htb⟩ : ∃ x, w.heap.size = x := ⟨_, rfl⟩
  rw [hwA, htb] at HA
  rw [hwA] at FA ⊢
  rw [htb]
  have HTB := Aside.mk htb
  clear hwA htb fm h1 q1 q2
  go_loopw [15, 14] (fun i l wr => (i = .int .i64 0 ∧ l = .slice none 0 0 ∧ Aside (wr = wA)) ∨ (i = .int .i64 1 ∧ Aside (∃ ba bc, TD w wr tb ba bc))) (fun i _ _ => (1 - intOf i).toNat)
  case atStart => exact .inl ⟨rfl, rfl, ⟨rfl⟩⟩
  case round =>
    rcases hrel with ⟨rfl, rfl, hW⟩ | ⟨rfl, hT⟩
    · have hg : Gl wr := by rw [hW.out]; exact HG.out.fr FA.out (fun _ _ k => k.elim)
      have ht : Rw3 wr tb (.slice none 0 0) (.int .i64 0) (.int .i64 0) := by rw [hW.out]; exact HA.out
      have fA : Fr (fun _ _ => False) w wr := by rw [hW.out]; exact FA.out
      have hle := hg.leaf
      obtain ⟨c0, c1, c2, cb⟩ := ht
      have cf : ∀ o, wr.frozen? ⟨tb, o, none⟩ = false := fun o => cb.free o
      have HE := Lib.hid (expWW_ten (sb := sb) (so := so) hg)
      rw [HP.out] at HE
      have HT0 : Aside (Rw3 wr tb (.slice none 0 0) (.int .i64 0) (.int .i64 0)) := ⟨⟨c0, c1, c2, cb⟩⟩
      have FA2 := Aside.mk fA
      have HG2 := Aside.mk hg
      clear fA hg cb cf hW
      go_wp2_with fail
      refine HE.out.mono ?_
      rintro e w2 ⟨ba, bc, rfl, r1, r2, r3⟩
      have T2 := HT0.out.fr r2 (fun _ k => k)
      have g2 := HG2.out.fr r2 (fun _ _ k => k.elim)
      have f2 := FA2.out.trans r2
      have k0 := T2.c0
      have kf := fun o => T2.blk.free o
      have hle2 : ∀ v, (w2.setCell ⟨tb, 0, none⟩ v).cell? ⟨7, 0, none⟩ = some (.int .i64 8) := fun v => by
        rw [World.cell?_setCell_other _ _ _ _ (by have := T2.blk.1; simp only [ne_eq, Addr.mk.injEq, and_true, not_and]; intro e; rw [e] at this; exact absurd this (by decide))]
        exact g2.leaf
      have T3 := T2.set0 (.slice ba 8 bc)
      have k2 := T3.c2
      have kf0 := kf 0
      have kf2 := T3.blk.free 2
      have T4 := T3.set2 (.int .i64 152)
      have k4 := T4.c0
      have n4 : Nt ((w2.setCell ⟨tb, 0, none⟩ (.slice ba 8 bc)).setCell ⟨tb, 2, none⟩ (.int .i64 152)) ba bc (half 0) := (r1.other k0 (fun _ => by simp) _).other k2 (fun x e => by cases e) _
      have f4 : Fr (fun _ _ => False) w ((w2.setCell ⟨tb, 0, none⟩ (.slice ba 8 bc)).setCell ⟨tb, 2, none⟩ (.int .i64 152)) := by
        have := HTB.out
        exact (f2.setCell tb 0 _ (fun k => by omega)).setCell tb 2 _ (fun k => by omega)
      have T4' := Aside.mk T4
      have N4 := Aside.mk n4
      have F4 := Aside.mk f4
      have R3 : Aside (∀ x y, foot ba bc x y → w.heap.size ≤ x) := ⟨fun x y k => Nat.le_trans FA2.out.size (r3 x y k)⟩
      clear T2 g2 f2 T3 T4 n4 f4 HE kf r1 r2 r3
      go_upto_region 21 with (fail)
      obtain ⟨w4, hw4⟩ : ∃ x, (w2.setCell ⟨tb, 0, none⟩ (.slice ba 8 bc)).setCell ⟨tb, 2, none⟩ (.int .i64 152) = x := ⟨_, rfl⟩
      rw [hw4] at k4 T4' N4 F4 ⊢
      clear hw4 kf0 kf2 k0 k2 hle2
      have hset := Lib.hid (set_any (a := none) (zl := 0) (xa := ba) (xc := bc) (X := half 0) (w := w4) (Nat.le_trans HG.out.size F4.out.size) (Reg.nil w4) N4.out.words (by rw [half_len (by omega)]; omega))
      rw [half_len (by omega)] at hset
      go_wp2_with fail
      refine hset.out.mono ?_
      rintro e w5 ⟨la, lc, rfl, s1, s2, s3, s4, s5⟩
      have f5 : Fr (fun _ _ => False) w4 w5 := s4.mono (fun x y _ k => foot_none _ _ _ k)
      have lnew : ∀ x y, foot la lc x y → w4.heap.size ≤ x := fun x y k => by
        rcases s5 with ⟨rfl, rfl⟩ | ⟨b', o', rfl, hn⟩
        · exact (foot_none _ _ _ k).elim
        · rw [foot_some] at k; omega
      have L0 : Aside (TL w w5 tb ba bc 0 la lc) := ⟨⟨T4'.out.fr f5 (fun _ k => k), f5.nt N4.out (fun _ _ _ k => k), R3.out, ⟨s2, by rw [half_len (by omega)]; exact s1, by rw [half_len (by omega)]; exact s3⟩,
        fun x y k => Nat.le_trans F4.out.size (lnew x y k), F4.out.trans f5, fun x y k1 k2 => by have := lnew x y k1; have := N4.out.reg.lt x y k2; omega, by rw [HTB.out]; exact Nat.le_refl _⟩⟩
      clear s1 s2 s3 s4 s5 f5 lnew hset T4' N4 F4 R3 k4
      go_wp2_with fail
      obtain ⟨lb, lo, hla, _, _⟩ := L0.out.l.pos (half_ne 0)
      subst hla
      go_loopw [] (fun wr => ∃ j ba bc, j ≤ 2 ∧ Aside (TL w wr tb ba bc j (some ⟨lb, lo, none⟩) lc)) (fun wr => 400 - cnt wr tb 2)
      case atStart => exact ⟨0, ba, bc, by omega, L0⟩
      case round =>
        obtain ⟨j, ba, bc, hj, hL⟩ := hrel
        obtain ⟨lb', lo', hla, hlo, hlW⟩ := hL.out.l.pos (half_ne j)
        cases hla
        rw [half_len hj] at hlW
        have hlen := hL.out.l.len
        rw [half_len hj] at hlen
        have HM := Lib.hid (mulAddVWW_any lb lo lc lb lo lc 8 (half j) 10 0 wr (by omega) hlW (hlo.le hlen) (.inr (.inl (Nat.le_refl _))) (by decide) (by decide))
        go_wp2_with fail
        refine HM.out.mono ?_
        rintro e w6 ⟨Z, c, rfl, hw6, hZ, hc, hE⟩
        rw [half_next, Nat.add_zero] at hE
        have hown6 : Own w6 lb lo lc := by rw [hw6]; exact hlo.put _ _ _ _
        have hl6 : Words w6 lb lo 8 Z := by rw [hw6]; exact Words_putW wr lb lo 8 Z hZ (hlo.le hlen)
        have f6 : Fr (foot (some ⟨lb, lo, none⟩) lc) wr w6 := by
          rw [hw6]; exact (Fr_putW wr lb lo 8 Z).mono (fun x y _ k => (foot_some _ _ _ _ _).2 ⟨k.1, k.2.1, by omega⟩)
        have t6 : Rw3 w6 tb (.slice ba 8 bc) (.int .i64 0) (.int .i64 ((152 + j : Nat) : Int)) := by
          have hfar := hL.out.t.far hL.out.l.reg (fun _ => by simp) (fun x e => by cases e) (fun x e => by cases e)
          refine ⟨(f6.cell tb 0 hL.out.t.blk.lt (hfar 0 (by omega))).trans hL.out.t.c0, (f6.cell tb 1 hL.out.t.blk.lt (hfar 1 (by omega))).trans hL.out.t.c1, (f6.cell tb 2 hL.out.t.blk.lt (hfar 2 (by omega))).trans hL.out.t.c2, f6.blk hL.out.t.blk⟩
        have b6 : Nt w6 ba bc (half j) := f6.nt hL.out.b (fun x y k1 k2 => hL.out.ap x y k2 k1)
        have g6 : Fr (fun _ _ => False) w w6 := hL.out.fr.trans' f6 (fun _ _ _ k => k) (fun x y hx k => by have := hL.out.lnew x y k; omega)
        by_cases hj2 : j < 2
        · have hlt := half_lt (j := j + 1) (by omega)
          obtain rfl : c = 0 := by
            apply Classical.byContradiction; intro k
            have : B ^ 8 * 1 ≤ B ^ 8 * c := Nat.mul_le_mul_left _ (by omega)
            omega
          obtain rfl : Z = half (j + 1) := by rw [Nat.mul_zero, Nat.add_zero] at hE; exact hE
          have l6 : Nt w6 (some ⟨lb, lo, none⟩) lc (half (j + 1)) := Nt.mk' hL.out.l.reg.1 hlen hown6 hl6
          have hset := Lib.hid (set_any (a := ba) (zl := 8) (zc := bc) (xa := some ⟨lb, lo, none⟩) (xc := lc) (X := half (j + 1)) (n := 8) (w := w6) (Nat.le_trans HG.out.size g6.size) b6.reg hl6.a (by omega))
          have c0 := t6.c0
          have c2 := t6.c2
          have HL := hL
          have T6 := Aside.mk t6
          have B6 := Aside.mk b6
          have G6 := Aside.mk g6
          have L6 := Aside.mk l6
          clear hw6 hown6 hl6 f6 t6 b6 g6 l6 hZ hc hE hlo hlW HM hL hlt
          go_wp2_with fail
          refine hset.out.mono ?_
          rintro e w7 ⟨a', c', rfl, s1, s2, s3, s4, s5⟩
          have hfar := T6.out.far B6.out.reg (fun _ => by simp) (fun x e => by cases e) (fun x e => by cases e)
          have t7 : Rw3 w7 tb (.slice ba 8 bc) (.int .i64 0) (.int .i64 ((152 + j : Nat) : Int)) :=
            ⟨(s4.cell tb 0 T6.out.blk.lt (hfar 0 (by omega))).trans T6.out.c0, (s4.cell tb 1 T6.out.blk.lt (hfar 1 (by omega))).trans T6.out.c1, (s4.cell tb 2 T6.out.blk.lt (hfar 2 (by omega))).trans T6.out.c2, s4.blk T6.out.blk⟩
          have t8 := t7.set0 (.slice a' 8 c')
          have t9 := t8.set2 (.int .i64 ((152 + (j + 1) : Nat) : Int))
          have k0 := t7.c0
          have kf0 := t7.blk.free 0
          have k2 := t8.c2
          have kf2 := t8.blk.free 2
          have n7 : Nt w7 a' c' (half (j + 1)) := ⟨s2, by rw [half_len (by omega)]; exact s1, by rw [half_len (by omega)]; exact s3⟩
          have l7 : Nt w7 (some ⟨lb, lo, none⟩) lc (half (j + 1)) := s4.nt L6.out (fun x y q1 q2 => HL.out.ap x y q1 q2)
          have n9 := (n7.other k0 (fun _ => by simp) (.slice a' 8 c')).other k2 (fun x e => by cases e) (.int .i64 ((152 + (j + 1) : Nat) : Int))
          have l9 := (l7.other k0 (fun _ => by simp) (.slice a' 8 c')).other k2 (fun x e => by cases e) (.int .i64 ((152 + (j + 1) : Nat) : Int))
          have htn := HL.out.tnew
          have f9 : Fr (fun _ _ => False) w ((w7.setCell ⟨tb, 0, none⟩ (.slice a' 8 c')).setCell ⟨tb, 2, none⟩ (.int .i64 ((152 + (j + 1) : Nat) : Int))) := by
            exact ((G6.out.trans' s4 (fun _ _ _ k => k) (fun x y hx k => by have := HL.out.bnew x y k; omega)).setCell tb 0 _ (fun k => by omega)).setCell tb 2 _ (fun k => by omega)
          have fin : Aside (TL w ((w7.setCell ⟨tb, 0, none⟩ (.slice a' 8 c')).setCell ⟨tb, 2, none⟩ (.int .i64 ((152 + (j + 1) : Nat) : Int))) tb a' c' (j + 1) (some ⟨lb, lo, none⟩) lc) := ⟨⟨t9, n9, fun x y k => by
            rcases s5 with ⟨rfl, rfl⟩ | ⟨b', o', rfl, hn⟩
            · exact HL.out.bnew x y k
            · rw [foot_some] at k; have := G6.out.size; omega, l9, HL.out.lnew, f9, fun x y q1 q2 => by
              rcases s5 with ⟨rfl, rfl⟩ | ⟨b', o', rfl, hn⟩
              · exact HL.out.ap x y q1 q2
              · have := L6.out.reg.lt x y q1; rw [foot_some] at q2; omega, htn⟩⟩
          have hcs : ((152 + (j + 1) : Nat) : Int) = 152 + (j : Int) + 1 := by omega
          have M1 := Aside.mk (cnt_of HL.out.t.c2)
          have M2 := Aside.mk (cnt_of t9.c2)
          rw [hcs] at fin M2
          clear s1 s2 s3 s4 s5 hfar t7 t8 t9 n7 l7 n9 l9 f9 htn hcs hset c0 c2
          go_wp2_with fail
          go_roundw
          case rel => exact ⟨j + 1, a', c', by omega, fin⟩
          case measure => rw [M1.out]; have := M2.out; omega
        · obtain rfl : j = 2 := by omega
          have hcz : ((c : Int) == 0) = false := by
            have : c ≠ 0 := by
              rintro rfl
              have := half_end
              have h3 : half (2 + 1) = half 3 := rfl
              rw [Nat.mul_zero, Nat.add_zero, h3] at hE
              omega
            simp; omega
          have hbl := Lib.hid (bitLen_any b6 (by rw [half_len (by omega)]; omega))
          rw [half_len (by omega), half_bl] at hbl
          have c0 := t6.c0
          have c1 := t6.c1
          have kf1 := t6.blk.free 1
          have fin : Aside (TD w (w6.setCell ⟨tb, 1, none⟩ (.int .i64 512)) tb ba bc) := ⟨⟨t6.set1 _, b6.other c1 (fun x e => by cases e) _, hL.out.bnew, hL.out.tnew, g6.setCell tb 1 _ (fun k => by have := hL.out.tnew; omega)⟩⟩
          clear hw6 hown6 hl6 f6 t6 b6 g6 hZ hc hE hlo hlW HM hL hj hj2
          go_wp2_with fail
          refine hbl.out.mono ?_
          rintro e w7 ⟨rfl, rfl⟩
          go_wp2_with fail
          go_roundw
          case rel => exact .inr ⟨rfl, ⟨ba, bc, fin.out⟩⟩
          case measure => simp [intOf]
    · go_wp2_with fail
      go_ret
      obtain ⟨ba, bc, hT⟩ := hT.out
      exact ⟨tb, ba, bc, rfl, hT⟩
end Go.Proofs.YtgilnnipephfjaaGreatDoor
