/- The reference's Zero. laws.FnCompose. -/
import Derived.Test.YtfhnkcdlphfbpaaGreatDoorT46SA2
import Derived.Test.YtfhnkcdlphfbpaaGreatDoorU50Co3
import Derived.Test.YtfhnkcdlphfbpaaGreatDoorT42Spec4
import Derived.Test.YtfhnkcdlphfbpaaGreatDoorM33Eql
set_option linter.unusedSimpArgs false
set_option linter.unusedVariables false
namespace Go.Proofs.YtfhnkcdlphfbpaaGreatDoor
open Go.RowKit

theorem len_zero {w : World} {a : Option Addr} {n c X : Nat} (h : Bf w a n c (dlow X)) : ((n : Int) == 0) = decide (X = 0) := by
  have hl := h.len
  by_cases hx : X = 0
  · have := dlow_nil.2 hx
    obtain rfl : n = 0 := by omega
    simp [hx]
  · have : (dlow X).length ≠ 0 := fun q => hx (dlow_nil.1 q)
    simp [hx]; omega
set_option maxRecDepth 100000 in
theorem zero_any {w : World} {a : Option Addr} {n c X : Nat} (s : Bool) (h : Bf w a n c (dlow X)) :
    Calls Tryz.prog 16 #[.agg #[.bool s, .slice a n c]] w fun e1 w' => e1 = .returned (.bool (decide (X = 0))) ∧ Fr (fun _ _ => False) w w' := by
  have hq := len_zero h
  obtain ⟨b, hb⟩ : ∃ b, decide (X = 0) = b := ⟨_, rfl⟩
  rw [hb] at hq ⊢
  have F := Aside.mk ((Fr.refl (fun _ _ => False) w).alloc (.cells #[.bool s, .slice a n c] 30))
  clear h hb
  go_enter Tryz.func16, Tryz.ntmps16
  go_wp2_with fail
  go_ret
  exact ⟨rfl, F.out⟩
end Go.Proofs.YtfhnkcdlphfbpaaGreatDoor
namespace Go.Proofs.YtfhnkcdlphfbpaaGreatDoor
open Go.RowKit

set_option maxRecDepth 100000 in
theorem fnCompose_big {w : World} {n : Bool} {a : Option Addr} {nb cb : Nat} {e : Int} (h : 2147483647 < nb) : Calls Tryz.prog 5 #[.bool n, .slice a nb cb, .int .i32 e] w fun e1 w' => e1 = .returned (.bool true) ∧ Fr (fun _ _ => False) w w' := by
  have h1 : (2147483647 : Int) < (nb : Int) := by omega
  go_enter Tryz.func5, Tryz.ntmps5
  go_wp2_with fail
  go_ret
  exact ⟨rfl, Fr.refl _ _⟩
set_option maxRecDepth 100000 in
theorem fnCompose_skip {w : World} {n : Bool} {a : Option Addr} {nb cb : Nat} {e : Int} (g : Gv w) (h : nb ≤ 2147483647) (hq : 100 < nb ∨ (nb ≤ 100 ∧ e < -2500) ∨ (nb ≤ 100 ∧ ¬ e < -2500 ∧ 2500 < e)) : Calls Tryz.prog 5 #[.bool n, .slice a nb cb, .int .i32 e] w fun e1 w' => e1 = .returned (.bool true) ∧ Fr (fun _ _ => False) w w' := by
  have h1 : ¬ (2147483647 : Int) < (nb : Int) := by omega
  have hA : Hid (Calls Tryz.prog 10 #[] w fun e1 w2 => e1 = .returned (.bool true) ∧ Fr (fun _ _ => False) w w2) := Lib.hid (alive g)
  clear g
  rcases hq with q | ⟨q, q2⟩ | ⟨q, q2, q3⟩
  case' inl => have h2 : (100 : Int) < (nb : Int) := by omega
  case' inr.inl => have h2 : ¬ (100 : Int) < (nb : Int) := by omega
  case' inr.inr =>
    have h2 : ¬ (100 : Int) < (nb : Int) := by omega
    have h3 : e > 2500 := q3
  all_goals
    clear q h
    go_enter Tryz.func5, Tryz.ntmps5
    go_wp2_with fail
    refine hA.out.mono ?_
    rintro e1 w5 ⟨rfl, k5⟩
    have F5 := Aside.mk k5
    clear k5
    go_wp2_with fail
    go_ret
    exact ⟨rfl, F5.out⟩
set_option maxRecDepth 100000 in
set_option maxHeartbeats 2000000 in
theorem fnCompose_end {w : World} {n : Bool} {a : Option Addr} {nb cb : Nat} {e : Int} {l : List UInt8} (g : Gv w) (hB : RdB w a nb cb l) (h : nb ≤ 100) (he0 : -2500 ≤ e) (he1 : e ≤ 2500) :
    Calls Tryz.prog 5 #[.bool n, .slice a nb cb, .int .i32 e] w fun e1 w' => e1 = .returned (.bool true) ∧ Fr (fun _ _ => False) w w' := by
  have h1 : ¬ (2147483647 : Int) < (nb : Int) := by omega
  have h2 : ¬ (100 : Int) < (nb : Int) := by omega
  have h3 : ¬ e < -2500 := by omega
  have h4 : ¬ e > 2500 := by omega
  have h5 : ¬ (2500 : Int) < e := by omega
  have hA : Hid (∀ w1, Fr (fun _ _ => False) w w1 → Calls Tryz.prog 10 #[] w1 fun e1 w2 => e1 = .returned (.bool true) ∧ Fr (fun _ _ => False) w1 w2) := Lib.hid (fun w1 q => alive (g.new q))
  have HF := Lib.hid (fromBig_any g.g.size hB (by omega))
  have HC := Lib.hid (fun w1 (q : Fr (fun _ _ => False) w w1) => composeI_any (w := w1) (n := n) (e := e) (g.new q) (hB.fr q) h)
  have hG : ∀ w1, Fr (fun _ _ => False) w w1 → NG ≤ w1.heap.size := fun w1 f => Nat.le_trans g.g.size f.size
  have HGG := Aside.mk hG
  obtain ⟨V, hV⟩ : ∃ V, beN l = V := ⟨_, rfl⟩
  obtain ⟨T, hT⟩ : ∃ T, mk (natText V) = T := ⟨_, rfl⟩
  rw [hV] at HF HC
  rw [hT] at HC
  have HT := Aside.mk hT
  have hq := fun w => eql_dec w 0 e n T
  clear g hB h he0 he1 hG hV hT
  go_enter Tryz.func5, Tryz.ntmps5
  go_wp2_with fail
  refine HF.out.mono ?_
  rintro e1 w2 ⟨aN, mN, cN, rfl, hm, k1, k2⟩
  obtain ⟨w3, hw3⟩ : ∃ x, w2.alloc (.cells #[.bool false, .slice aN mN cN] 30) = x := ⟨_, rfl⟩
  have f3 : Fr (fun _ _ => False) w2 w3 := by rw [← hw3]; exact (Fr.refl _ w2).alloc _
  have hs3 : w3.heap.size = w2.heap.size + 1 := by rw [← hw3]; simp
  obtain ⟨pn, hpn⟩ : ∃ p, w2.heap.size = p := ⟨_, rfl⟩
  have n0 : w3.cell? ⟨pn, 0, none⟩ = some (.bool false) := by rw [← hw3, ← hpn, World.cell?_alloc_new]; rfl
  have n1 : w3.cell? ⟨pn, 1, none⟩ = some (.slice aN mN cN) := by rw [← hw3, ← hpn, World.cell?_alloc_new]; rfl
  rw [hpn] at hs3
  have F3 := Aside.mk (k2.trans f3)
  have K1 := Aside.mk (k1.fr f3 (fun _ _ _ q => q))
  have HM := Aside.mk hm
  clear k1 k2 f3 hm HF
  go_upto_region 6 with fail
  try rw [hpn]
  clear hw3 hpn
  go_wp2_with fail
  refine (HC.out _ F3.out).mono ?_
  rintro e1 w4 ⟨rfl, k4⟩
  have A4 := (Fr.refl (fun _ _ => False) w4).alloc (.cells #[.int .i64 0, .bool n, .int .i32 e, .string T] 23)
  have L4 := D4.new (w := w4) 0 e n T 23
  have hpl : pn < w3.heap.size := by omega
  have n0' := ((k4.trans A4).cell pn 0 hpl (fun q => q)).trans n0
  have n1' := ((k4.trans A4).cell pn 1 hpl (fun q => q)).trans n1
  have F4 := Aside.mk (F3.out.trans (k4.trans A4))
  have K4 := Aside.mk (K1.out.fr (k4.trans A4) (fun _ _ _ q => q))
  have hs4 : pn < w4.heap.size := Nat.lt_of_lt_of_le hpl k4.size
  obtain ⟨d0, d1, d2, d3, _⟩ := E8.of L4
  have HL4 := Aside.mk L4
  have HZ := Lib.hid (zero_any false K4.out)
  clear n0 n1 k4 A4 L4 HC hs3
  go_wp2_with fail
  refine HZ.out.mono ?_
  rintro e1 w5 ⟨rfl, k5⟩
  have F5 := Aside.mk (F4.out.trans k5)
  have K5 := Aside.mk (K4.out.fr k5 (fun _ _ _ q => q))
  obtain ⟨d0, d1, d2, d3, _⟩ := E8.of (HL4.out.fr k5 (fun _ q => q))
  have hpl5 : pn < (w4.alloc (.cells #[.int .i64 0, .bool n, .int .i32 e, .string T] 23)).heap.size := by simp; omega
  have n0 := (k5.cell pn 0 hpl5 (fun q => q)).trans n0'
  have n1 := (k5.cell pn 1 hpl5 (fun q => q)).trans n1'
  have H9 : Hid (∀ w1, Fr (fun _ _ => False) w5 w1 → Calls Tryz.prog 10 #[] w1 fun e1 w2 => e1 = .returned (.bool true) ∧ E8 w2 w4.heap.size 0 n e T ∧ (w2.cell? ⟨pn, 0, none⟩ = some (.bool false) ∧ w2.cell? ⟨pn, 1, none⟩ = some (.slice aN mN cN)) ∧ (binOp .eql 23 (.agg #[.int .i64 0, .bool n, .int .i32 e, .string T]) (.agg #[.int .i64 0, .bool n, .int .i32 e, .string T])).run Tryz.prog w2 = .ok (.bool true) w2 ∧
      Hid (∀ w3, Fr (fun _ _ => False) w2 w3 → Calls Tryz.prog 24 #[.agg #[.bool false, .slice aN mN cN]] w3 fun e1 w6 => e1 = .returned (.string T) ∧ E8 w6 w4.heap.size 0 n e T ∧ (binOp .eql 23 (.agg #[.int .i64 0, .bool n, .int .i32 e, .string T]) (.agg #[.int .i64 0, .bool n, .int .i32 e, .string T])).run Tryz.prog w6 = .ok (.bool true) w6 ∧ Aside (Fr (fun _ _ => False) w w6))) := Lib.hid (fun w1 f => by
    have hp5 : pn < w5.heap.size := Nat.lt_of_lt_of_le hpl5 k5.size
    have HL5 := HL4.out.fr k5 (fun _ q => q)
    refine (hA.out w1 (F5.out.trans f)).mono ?_
    rintro e1 w2 ⟨rfl, k⟩
    have g1 := f.trans k
    refine ⟨rfl, E8.of (HL5.fr g1 (fun _ q => q)), ⟨(g1.cell pn 0 hp5 (fun q => q)).trans n0, (g1.cell pn 1 hp5 (fun q => q)).trans n1⟩, hq w2, Lib.hid (fun w3 f3 => ?_)⟩
    have g2 := g1.trans f3
    have TT := numText_any (w := w3) (HGG.out _ (F5.out.trans g2)) (K5.out.fr g2 (fun _ _ _ q => q)) (by have := HM.out; omega)
    rw [HT.out] at TT
    refine TT.mono ?_
    rintro e1 w6 ⟨rfl, k6⟩
    exact ⟨rfl, E8.of (HL5.fr (g2.trans k6) (fun _ q => q)), hq w6, ⟨F5.out.trans (g2.trans k6)⟩⟩)
  obtain ⟨bz, hbz⟩ : ∃ b, decide (V = 0) = b := ⟨_, rfl⟩
  rw [hbz]
  clear k5 HZ n0' n1' hA hq F3 F4 K1 K4 K5 hpl hpl5 hs4 hbz HL4 HGG HM HT
  cases bz
  case' false => go_wp2_with fail
  case' true => go_wp2_with fail
  all_goals
    go_region_with (first
      | (go_at_call 10; go_must (refine (H9.out _ (by repeat first | exact Fr.refl _ _ | refine Fr.drewN ?_ _ | refine Fr.drew ?_)).mono ?_; rintro e1 w7 ⟨rfl, ⟨a0, a1, a2, a3, _⟩, ⟨b0, b1⟩, hq7, H10⟩))
      | (go_at_call 24; go_must (refine (H10.out _ (by repeat first | exact Fr.refl _ _ | refine Fr.drewN ?_ _ | refine Fr.drew ?_)).mono ?_; rintro e1 w8 ⟨rfl, ⟨c0, c1, c2, c3, _⟩, hq8, F8⟩)))
    all_goals
      clear H9 H10
      go_wp2_with fail
      go_ret
      exact ⟨rfl, F8.out⟩
theorem fnCompose_any {w : World} {n : Bool} {a : Option Addr} {nb cb : Nat} {e : Int} {l : List UInt8} (g : Gv w) (hB : RdB w a nb cb l) :
    Calls Tryz.prog 5 #[.bool n, .slice a nb cb, .int .i32 e] w fun e1 w' => e1 = .returned (.bool true) ∧ Fr (fun _ _ => False) w w' := by
  by_cases h1 : 2147483647 < nb
  · exact fnCompose_big h1
  · by_cases h2 : 100 < nb
    · exact fnCompose_skip g (by omega) (.inl h2)
    · by_cases h3 : e < -2500
      · exact fnCompose_skip g (by omega) (.inr (.inl ⟨by omega, h3⟩))
      · by_cases h4 : 2500 < e
        · exact fnCompose_skip g (by omega) (.inr (.inr ⟨by omega, h3, h4⟩))
        · exact fnCompose_end g hB (by omega) (by omega) (by omega)
end Go.Proofs.YtfhnkcdlphfbpaaGreatDoor
