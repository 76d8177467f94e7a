/- The reference's Add, Sign, Zero, Abs. -/
import Derived.Test.YtgilnnipephfjaaGreatDoorT45SA1
import Derived.Test.YtgilnnipephfjaaGreatDoorT44SN7
set_option linter.unusedSimpArgs false
set_option linter.unusedVariables false
namespace Go.Proofs.YtgilnnipephfjaaGreatDoor
open Go.RowKit

/-- The sum of two numbers with signs. -/
def addS (s : Bool) (X : Nat) (t : Bool) (Y : Nat) : Bool × Nat := if s = t then (sg1 s (X + Y), X + Y) else if Y ≤ X then (sg1 s (X - Y), X - Y) else (sg1 t (Y - X), Y - X)
theorem sg_geq (X Y : Nat) : decide ((0 : Int) ≤ sg X Y) = decide (Y ≤ X) := by
  rw [decide_eq_decide]
  rcases Nat.lt_trichotomy X Y with h | h | h
  · rw [sg_lt h]; omega
  · subst h; rw [sg_eq]; omega
  · rw [sg_gt h]; omega
/-- Three boxes of the reference's numbers: two that are read, one for the answer. -/
theorem boxes3 {w w1 w2 w3 : World} {s t : Bool} {a a' : Option Addr} {n c n' c' : Nat} (hw1 : w.alloc (.cells #[.bool s, .slice a n c] 45) = w1) (hw2 : w1.alloc (.cells #[.bool t, .slice a' n' c'] 45) = w2) (hw3 : w2.alloc (.cells #[.bool false, .slice none 0 0] 45) = w3) :
    Fr (fun _ _ => False) w w3 ∧ w3.cell? ⟨w.heap.size, 0, none⟩ = some (.bool s) ∧ w3.cell? ⟨w.heap.size, 1, none⟩ = some (.slice a n c) ∧ w3.cell? ⟨w.heap.size + 1, 0, none⟩ = some (.bool t) ∧ w3.cell? ⟨w.heap.size + 1, 1, none⟩ = some (.slice a' n' c') ∧
      w2.heap.size = w.heap.size + 1 + 1 ∧ w3.heap.size = w.heap.size + 1 + 1 + 1 := by
  have hs1 : w1.heap.size = w.heap.size + 1 := by rw [← hw1]; simp
  have hs2 : w2.heap.size = w.heap.size + 1 + 1 := by rw [← hw2, ← hs1]; simp
  have hs3 : w3.heap.size = w.heap.size + 1 + 1 + 1 := by rw [← hw3, ← hs2]; simp
  have f1 : Fr (fun _ _ => False) w w1 := by rw [← hw1]; exact (Fr.refl _ w).alloc _
  have f2 : Fr (fun _ _ => False) w1 w2 := by rw [← hw2]; exact (Fr.refl _ w1).alloc _
  have f3 : Fr (fun _ _ => False) w2 w3 := by rw [← hw3]; exact (Fr.refl _ w2).alloc _
  have x0 : w3.cell? ⟨w.heap.size, 0, none⟩ = some (.bool s) := ((f2.trans f3).cell _ 0 (by omega) (fun q => q)).trans (by rw [← hw1, World.cell?_alloc_new]; rfl)
  have x1 : w3.cell? ⟨w.heap.size, 1, none⟩ = some (.slice a n c) := ((f2.trans f3).cell _ 1 (by omega) (fun q => q)).trans (by rw [← hw1, World.cell?_alloc_new]; rfl)
  have y0 : w3.cell? ⟨w.heap.size + 1, 0, none⟩ = some (.bool t) := (f3.cell _ 0 (by omega) (fun q => q)).trans (by rw [← hw2, ← hs1, World.cell?_alloc_new]; rfl)
  have y1 : w3.cell? ⟨w.heap.size + 1, 1, none⟩ = some (.slice a' n' c') := (f3.cell _ 1 (by omega) (fun q => q)).trans (by rw [← hw2, ← hs1, World.cell?_alloc_new]; rfl)
  exact ⟨f1.trans (f2.trans f3), x0, x1, y0, y1, hs2, hs3⟩
set_option maxRecDepth 100000 in
set_option maxHeartbeats 4000000 in
theorem add_any {w : World} {a a' : Option Addr} {n c n' c' X Y : Nat} (s t : Bool) (hG : NG ≤ w.heap.size) (h : Bf w a n c (dlow X)) (h' : Bf w a' n' c' (dlow Y)) (hn : n ≤ 20000) (hn' : n' ≤ 20000) :
    Calls Tryz.prog 45 #[.agg #[.bool s, .slice a n c], .agg #[.bool t, .slice a' n' c']] w fun e1 w' => ∃ a2 m c2, e1 = .returned (.agg #[.bool (addS s X t Y).1, .slice a2 m c2]) ∧ m ≤ n + n' + 1 ∧ Bf w' a2 m c2 (dlow (addS s X t Y).2) ∧ Fr (fun _ _ => False) w w' := by
  obtain ⟨w1, hw1⟩ : ∃ x, w.alloc (.cells #[.bool s, .slice a n c] 45) = x := ⟨_, rfl⟩
  obtain ⟨w2, hw2⟩ : ∃ x, w1.alloc (.cells #[.bool t, .slice a' n' c'] 45) = x := ⟨_, rfl⟩
  obtain ⟨w3, hw3⟩ : ∃ x, w2.alloc (.cells #[.bool false, .slice none 0 0] 45) = x := ⟨_, rfl⟩
  obtain ⟨f3, x0, x1, y0, y1, hs2, hs3⟩ := boxes3 hw1 hw2 hw3
  have F3 := Aside.mk f3
  have hG3 := Nat.le_trans hG f3.size
  have B1 := h.fr f3 (fun _ _ _ q => q)
  have B2 := h'.fr f3 (fun _ _ _ q => q)
  have HS2 := Aside.mk hs2
  have HR := Aside.mk hw3
  have hs1 : w1.heap.size = w.heap.size + 1 := by rw [← hw1]; simp
  -- the last step: signed of a result, in the answer's box
  have KEY : Hid (∀ (u : Bool) (Z : Nat) (a2 : Option Addr) (m c2 : Nat) (l : List UInt8) (wx : World), Fr (fun _ _ => False) w3 wx → Bf wx a2 m c2 l → D10 l → val l = Z → m ≤ n + n' + 1 →
      Calls Tryz.prog 44 #[.bool u, .slice a2 m c2] wx fun e1 w5 => ∃ k, e1 = .returned (.agg #[.bool (sg1 u Z), .slice a2 k c2]) ∧ (w5.cell? ⟨w.heap.size + 1 + 1, 0, none⟩ = some (.bool false) ∧ w5.cell? ⟨w.heap.size + 1 + 1, 1, none⟩ = some (.slice none 0 0) ∧ w5.frozen? ⟨w.heap.size + 1 + 1, 0, none⟩ = false ∧ w5.frozen? ⟨w.heap.size + 1 + 1, 1, none⟩ = false) ∧ Aside (k ≤ n + n' + 1 ∧ Bf w5 a2 k c2 (dlow Z) ∧ Fr (fun _ _ => False) w3 w5)) := Lib.hid (by
    intro u Z a2 m c2 l wx fx hb hd hv hm
    refine (signed_any u hb hd (by omega)).mono ?_
    rintro e1 w5 ⟨k, rfl, hk, k1, k2⟩
    rw [hv] at k1 ⊢
    obtain ⟨r0, r1, r2, r3, r4⟩ := res2' hw3.symm (fx.trans k2) (fun o q => q)
    rw [hs2] at r0 r1 r2 r3
    exact ⟨k, rfl, ⟨r0, r1, r2, r3⟩, ⟨by omega, k1, fx.trans k2⟩⟩)
  by_cases hst : s = t
  · subst hst
    have hadd : addS s X s Y = (sg1 s (X + Y), X + Y) := by unfold addS; rw [if_pos rfl]
    rw [hadd]
    have H1 : Hid (∀ wx, Fr (fun _ _ => False) w3 wx → Calls Tryz.prog 78 #[.slice a n c, .slice a' n' c'] wx fun e1 w4 => ∃ a2 m c2, e1 = .returned (.slice a2 m c2) ∧ (w4.cell? ⟨w.heap.size, 0, none⟩ = some (.bool s) ∧ w4.cell? ⟨w.heap.size + 1, 0, none⟩ = some (.bool s)) ∧
        Hid (∀ wy, Fr (fun _ _ => False) w4 wy → Calls Tryz.prog 44 #[.bool s, .slice a2 m c2] wy fun e1 w5 => ∃ k, e1 = .returned (.agg #[.bool (sg1 s (X + Y)), .slice a2 k c2]) ∧ (w5.cell? ⟨w.heap.size + 1 + 1, 0, none⟩ = some (.bool false) ∧ w5.cell? ⟨w.heap.size + 1 + 1, 1, none⟩ = some (.slice none 0 0) ∧ w5.frozen? ⟨w.heap.size + 1 + 1, 0, none⟩ = false ∧ w5.frozen? ⟨w.heap.size + 1 + 1, 1, none⟩ = false) ∧ Aside (k ≤ n + n' + 1 ∧ Bf w5 a2 k c2 (dlow (X + Y)) ∧ Fr (fun _ _ => False) w3 w5))) := Lib.hid (fun wx fx => by
      refine (plus_any (Nat.le_trans hG3 fx.size) (B1.fr fx (fun _ _ _ q => q)) (B2.fr fx (fun _ _ _ q => q)) (dlow_d10 X) (dlow_d10 Y) hn hn').mono ?_
      rintro e1 w4 ⟨a2, m, c2, rfl, hm, l, k1, k2, k3, k4⟩
      rw [val_dlow, val_dlow] at k3
      exact ⟨a2, m, c2, rfl, ⟨((fx.trans k4).cell _ 0 (by omega) (fun q => q)).trans x0, ((fx.trans k4).cell _ 0 (by omega) (fun q => q)).trans y0⟩, Lib.hid (fun wy fy => KEY.out s (X + Y) a2 m c2 l wy ((fx.trans k4).trans fy) (k1.fr fy (fun _ _ _ q => q)) k2 k3 hm)⟩)
    have heq : (s == s) = true := by simp
    clear KEY h h' B1 B2 f3 hs3 hadd
    go_enter Tryz.func45, Tryz.ntmps45
    go_wp2_with fail
    go_region_with (first | (go_at_call 78; go_must (refine (H1.out _ (by repeat first | exact Fr.refl _ _ | refine Fr.drewN ?_ _ | refine Fr.drew ?_)).mono ?_; rintro e1 w4 ⟨a2, m, c2, rfl, ⟨z0, z1⟩, H2⟩)) | (go_at_call 44; go_must (refine (H2.out _ (by repeat first | exact Fr.refl _ _ | refine Fr.drewN ?_ _ | refine Fr.drew ?_)).mono ?_; rintro e1 w5 ⟨k, rfl, ⟨r0, r1, r2, r3⟩, q⟩)))
    all_goals
      clear H1 H2
      go_wp2_with fail
      refine bodyPost_ret (v := .agg #[.bool (sg1 s (X + Y)), .slice a2 k c2]) (by simp [results, Tryz.results45, go_sem, r0, r1]) rfl ⟨a2, k, c2, rfl, q.out.1, ?_, ?_⟩
      · exact q.out.2.1.res (by intro z q; cases q) r0 r1 _ _
      · exact ((F3.out.trans q.out.2.2).setCell (w.heap.size + 1 + 1) 0 _ (fun q => by omega)).setCell (w.heap.size + 1 + 1) 1 _ (fun q => by omega)
  · have hns : (s == t) = false := by simpa using hst
    have HC : Hid (Calls Tryz.prog 46 #[.slice a n c, .slice a' n' c'] w3 fun e1 w' => e1 = .returned (.int .i64 (sg X Y)) ∧ ∃ d, w' = w3.drewN d) := Lib.hid (compare_any B1 B2 (by omega) (by omega))
    have hge := sg_geq X Y
    by_cases hle : Y ≤ X
    · have hadd : addS s X t Y = (sg1 s (X - Y), X - Y) := by unfold addS; rw [if_neg hst, if_pos hle]
      rw [hadd]
      have hd : decide ((0 : Int) ≤ sg X Y) = true := by rw [hge]; simpa using hle
      have H1 : Hid (∀ wx, Fr (fun _ _ => False) w3 wx → Calls Tryz.prog 72 #[.slice a n c, .slice a' n' c'] wx fun e1 w4 => ∃ a2 m c2, e1 = .returned (.slice a2 m c2) ∧ (w4.cell? ⟨w.heap.size, 0, none⟩ = some (.bool s) ∧ w4.cell? ⟨w.heap.size + 1, 0, none⟩ = some (.bool t)) ∧
          Hid (∀ wy, Fr (fun _ _ => False) w4 wy → Calls Tryz.prog 44 #[.bool s, .slice a2 m c2] wy fun e1 w5 => ∃ k, e1 = .returned (.agg #[.bool (sg1 s (X - Y)), .slice a2 k c2]) ∧ (w5.cell? ⟨w.heap.size + 1 + 1, 0, none⟩ = some (.bool false) ∧ w5.cell? ⟨w.heap.size + 1 + 1, 1, none⟩ = some (.slice none 0 0) ∧ w5.frozen? ⟨w.heap.size + 1 + 1, 0, none⟩ = false ∧ w5.frozen? ⟨w.heap.size + 1 + 1, 1, none⟩ = false) ∧ Aside (k ≤ n + n' + 1 ∧ Bf w5 a2 k c2 (dlow (X - Y)) ∧ Fr (fun _ _ => False) w3 w5))) := Lib.hid (fun wx fx => by
        refine (less_any (Nat.le_trans hG3 fx.size) (B1.fr fx (fun _ _ _ q => q)) (B2.fr fx (fun _ _ _ q => q)) (dlow_d10 X) (dlow_d10 Y) hn hn' (by rw [val_dlow, val_dlow]; omega)).mono ?_
        rintro e1 w4 ⟨a2, m, c2, rfl, hm, k1, k4⟩
        rw [val_dlow, val_dlow] at k1
        exact ⟨a2, m, c2, rfl, ⟨((fx.trans k4).cell _ 0 (by omega) (fun q => q)).trans x0, ((fx.trans k4).cell _ 0 (by omega) (fun q => q)).trans y0⟩, Lib.hid (fun wy fy => KEY.out s (X - Y) a2 m c2 _ wy ((fx.trans k4).trans fy) (k1.fr fy (fun _ _ _ q => q)) (dlow_d10 _) (val_dlow _) (by omega))⟩)
      clear KEY h h' B1 B2 f3 hs3 hadd hge hle hst
      go_enter Tryz.func45, Tryz.ntmps45
      go_wp2_with fail
      refine HC.out.mono ?_
      rintro e1 wc ⟨rfl, dd, rfl⟩
      clear HC
      go_wp2_with fail
      go_region_with (first | (go_at_call 72; go_must (refine (H1.out _ (by repeat first | exact Fr.refl _ _ | refine Fr.drewN ?_ _ | refine Fr.drew ?_)).mono ?_; rintro e1 w4 ⟨a2, m, c2, rfl, ⟨z0, z1⟩, H2⟩)) | (go_at_call 44; go_must (refine (H2.out _ (by repeat first | exact Fr.refl _ _ | refine Fr.drewN ?_ _ | refine Fr.drew ?_)).mono ?_; rintro e1 w5 ⟨k, rfl, ⟨r0, r1, r2, r3⟩, q⟩)))
      all_goals
        clear H1 H2
        go_wp2_with fail
        refine bodyPost_ret (v := .agg #[.bool (sg1 s (X - Y)), .slice a2 k c2]) (by simp [results, Tryz.results45, go_sem, r0, r1]) rfl ⟨a2, k, c2, rfl, q.out.1, ?_, ?_⟩
        · exact q.out.2.1.res (by intro z q; cases q) r0 r1 _ _
        · exact ((F3.out.trans q.out.2.2).setCell (w.heap.size + 1 + 1) 0 _ (fun q => by omega)).setCell (w.heap.size + 1 + 1) 1 _ (fun q => by omega)
    · have hadd : addS s X t Y = (sg1 t (Y - X), Y - X) := by unfold addS; rw [if_neg hst, if_neg hle]
      rw [hadd]
      have hd : decide ((0 : Int) ≤ sg X Y) = false := by rw [hge]; simpa using hle
      have H1 : Hid (∀ wx, Fr (fun _ _ => False) w3 wx → Calls Tryz.prog 72 #[.slice a' n' c', .slice a n c] wx fun e1 w4 => ∃ a2 m c2, e1 = .returned (.slice a2 m c2) ∧ (w4.cell? ⟨w.heap.size, 0, none⟩ = some (.bool s) ∧ w4.cell? ⟨w.heap.size + 1, 0, none⟩ = some (.bool t)) ∧
          Hid (∀ wy, Fr (fun _ _ => False) w4 wy → Calls Tryz.prog 44 #[.bool t, .slice a2 m c2] wy fun e1 w5 => ∃ k, e1 = .returned (.agg #[.bool (sg1 t (Y - X)), .slice a2 k c2]) ∧ (w5.cell? ⟨w.heap.size + 1 + 1, 0, none⟩ = some (.bool false) ∧ w5.cell? ⟨w.heap.size + 1 + 1, 1, none⟩ = some (.slice none 0 0) ∧ w5.frozen? ⟨w.heap.size + 1 + 1, 0, none⟩ = false ∧ w5.frozen? ⟨w.heap.size + 1 + 1, 1, none⟩ = false) ∧ Aside (k ≤ n + n' + 1 ∧ Bf w5 a2 k c2 (dlow (Y - X)) ∧ Fr (fun _ _ => False) w3 w5))) := Lib.hid (fun wx fx => by
        refine (less_any (Nat.le_trans hG3 fx.size) (B2.fr fx (fun _ _ _ q => q)) (B1.fr fx (fun _ _ _ q => q)) (dlow_d10 Y) (dlow_d10 X) hn' hn (by rw [val_dlow, val_dlow]; omega)).mono ?_
        rintro e1 w4 ⟨a2, m, c2, rfl, hm, k1, k4⟩
        rw [val_dlow, val_dlow] at k1
        exact ⟨a2, m, c2, rfl, ⟨((fx.trans k4).cell _ 0 (by omega) (fun q => q)).trans x0, ((fx.trans k4).cell _ 0 (by omega) (fun q => q)).trans y0⟩, Lib.hid (fun wy fy => KEY.out t (Y - X) a2 m c2 _ wy ((fx.trans k4).trans fy) (k1.fr fy (fun _ _ _ q => q)) (dlow_d10 _) (val_dlow _) (by omega))⟩)
      clear KEY h h' B1 B2 f3 hs3 hadd hge hle hst
      go_enter Tryz.func45, Tryz.ntmps45
      go_wp2_with fail
      refine HC.out.mono ?_
      rintro e1 wc ⟨rfl, dd, rfl⟩
      clear HC
      go_wp2_with fail
      go_region_with (first | (go_at_call 72; go_must (refine (H1.out _ (by repeat first | exact Fr.refl _ _ | refine Fr.drewN ?_ _ | refine Fr.drew ?_)).mono ?_; rintro e1 w4 ⟨a2, m, c2, rfl, ⟨z0, z1⟩, H2⟩)) | (go_at_call 44; go_must (refine (H2.out _ (by repeat first | exact Fr.refl _ _ | refine Fr.drewN ?_ _ | refine Fr.drew ?_)).mono ?_; rintro e1 w5 ⟨k, rfl, ⟨r0, r1, r2, r3⟩, q⟩)))
      all_goals
        clear H1 H2
        go_wp2_with fail
        refine bodyPost_ret (v := .agg #[.bool (sg1 t (Y - X)), .slice a2 k c2]) (by simp [results, Tryz.results45, go_sem, r0, r1]) rfl ⟨a2, k, c2, rfl, q.out.1, ?_, ?_⟩
        · exact q.out.2.1.res (by intro z q; cases q) r0 r1 _ _
        · exact ((F3.out.trans q.out.2.2).setCell (w.heap.size + 1 + 1) 0 _ (fun q => by omega)).setCell (w.heap.size + 1 + 1) 1 _ (fun q => by omega)
end Go.Proofs.YtgilnnipephfjaaGreatDoor
