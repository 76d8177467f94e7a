/- laws.FnShorten. -/
import Derived.Test.YtfhnkcdlphfbpaaGreatDoorS38Red4
import Derived.Test.YtfhnkcdlphfbpaaGreatDoorS39Tell3
import Derived.Test.YtfhnkcdlphfbpaaGreatDoorM33Eql
set_option linter.unusedSimpArgs false
set_option linter.unusedVariables false
namespace Go.Proofs.YtfhnkcdlphfbpaaGreatDoor
open Go.RowKit

set_option maxRecDepth 100000 in
theorem fnShorten_big {w : World} {f e : Int} {n : Bool} {s : ByteArray} (h : ¬ s.size ≤ 2147483647) : Calls Tryz.prog 6 #[.agg #[.int .i64 f, .bool n, .int .i32 e, .string s]] w fun e1 w' => e1 = .returned (.bool true) ∧ Fr (fun _ _ => False) w w' := by
  have HZ := Lib.hid (fun w1 => zz_big (w := w1) (f := f) (e := e) (n := n) h)
  clear h
  go_enter Tryz.func6, Tryz.ntmps6
  go_wp2_with fail
  refine (HZ.out _).mono ?_
  rintro e1 w2 ⟨rfl, k2⟩
  have K2 := Aside.mk k2
  clear k2
  go_wp2_with fail
  go_ret
  exact ⟨rfl, ((Fr.refl _ w).alloc _).trans K2.out⟩
set_option maxRecDepth 100000 in
theorem fnShorten_not {w : World} {f e : Int} {n : Bool} {s : ByteArray} (g : Gv w) (h : s.size ≤ 2147483647) (hn : ¬ ClearP f e s) : Calls Tryz.prog 6 #[.agg #[.int .i64 f, .bool n, .int .i32 e, .string s]] w fun e1 w' => e1 = .returned (.bool true) ∧ Fr (fun _ _ => False) w w' := by
  have HZ := Lib.hid (fun w1 => zz_small (w := w1) (f := f) (e := e) (n := n) h)
  have hA : Hid (∀ w1, Fr (fun _ _ => False) w w1 → Calls Tryz.prog 10 #[] w1 fun e1 w2 => e1 = .returned (.bool true) ∧ Fr (fun _ _ => False) w1 w2) := Lib.hid (fun w1 q => alive (g.new q))
  have hC : Hid (∀ w1, Calls Tryz.prog 9 #[.agg #[.int .i64 f, .bool n, .int .i32 e, .string s]] w1 fun e1 w' => e1 = .returned (.bool false) ∧ Fr (fun _ _ => False) w1 w') := Lib.hid (fun w1 => by
    refine (clear_any (w := w1)).mono ?_
    rintro e1 w2 ⟨k, rfl | ⟨rfl, q⟩⟩
    · exact ⟨rfl, k⟩
    · exact absurd q hn)
  have B1 := D4.new (w := w) f e n s 23
  have F1 := (Fr.refl (fun _ _ => False) w).alloc (.cells #[.int .i64 f, .bool n, .int .i32 e, .string s] 23)
  have HB := Aside.mk B1
  have HF := Aside.mk F1
  clear h hn g B1 F1
  go_enter Tryz.func6, Tryz.ntmps6
  go_wp2_with fail
  refine (HZ.out _).mono ?_
  rintro e1 w2 ⟨rfl, k2⟩
  obtain ⟨d0, d1, d2, d3, _⟩ := E8.of (HB.out.fr k2 (fun _ q => q))
  have K2 := Aside.mk (HF.out.trans k2)
  clear k2 HZ
  go_wp2_with fail
  refine (hC.out _).mono ?_
  rintro e1 w3 ⟨rfl, k3⟩
  have K3 := Aside.mk (K2.out.trans k3)
  clear k3 hC
  go_wp2_with fail
  refine (hA.out _ K3.out).mono ?_
  rintro e1 w5 ⟨rfl, k5⟩
  have F5 := Aside.mk (K3.out.trans k5)
  clear k5
  go_wp2_with fail
  go_ret
  exact ⟨rfl, F5.out⟩
set_option maxRecDepth 100000 in
set_option maxHeartbeats 2000000 in
theorem fnShorten_skip {w : World} {f e : Int} {n : Bool} {s : ByteArray} (g : Gv w) (h : s.size ≤ 2147483647) (hq : (f != 0) = true ∨ (f != 0) = false ∧ (s.toList == [48]) = true) : Calls Tryz.prog 6 #[.agg #[.int .i64 f, .bool n, .int .i32 e, .string s]] w fun e1 w' => e1 = .returned (.bool true) ∧ Fr (fun _ _ => False) w w' := by
  have HZ := Lib.hid (fun w1 => zz_small (w := w1) (f := f) (e := e) (n := n) h)
  have hA : Hid (∀ w1, Fr (fun _ _ => False) w w1 → Calls Tryz.prog 10 #[] w1 fun e1 w2 => e1 = .returned (.bool true) ∧ Fr (fun _ _ => False) w1 w2) := Lib.hid (fun w1 q => alive (g.new q))
  have hC : Hid (∀ w1, Calls Tryz.prog 9 #[.agg #[.int .i64 f, .bool n, .int .i32 e, .string s]] w1 fun e1 w' => Fr (fun _ _ => False) w1 w' ∧ (e1 = .returned (.bool false) ∨ e1 = .returned (.bool true))) := Lib.hid (fun w1 => by
    refine (clear_any (w := w1)).mono ?_
    rintro e1 w2 ⟨k, rfl | ⟨rfl, q⟩⟩
    · exact ⟨k, .inl rfl⟩
    · exact ⟨k, .inr rfl⟩)
  have B1 := D4.new (w := w) f e n s 23
  have F1 := (Fr.refl (fun _ _ => False) w).alloc (.cells #[.int .i64 f, .bool n, .int .i32 e, .string s] 23)
  have HB := Aside.mk B1
  have HF := Aside.mk F1
  clear h g B1 F1
  go_enter Tryz.func6, Tryz.ntmps6
  go_wp2_with fail
  refine (HZ.out _).mono ?_
  rintro e1 w2 ⟨rfl, k2⟩
  have B2 := HB.out.fr k2 (fun _ q => q)
  obtain ⟨d0, d1, d2, d3, _⟩ := E8.of B2
  have HB2 := Aside.mk B2
  have K2 := Aside.mk (HF.out.trans k2)
  clear k2 HZ B2
  go_wp2_with fail
  refine (hC.out _).mono ?_
  rintro e1 w3 ⟨k3, hb⟩
  obtain ⟨d0, d1, d2, d3, _⟩ := E8.of (HB2.out.fr k3 (fun _ q => q))
  have K3 := Aside.mk (K2.out.trans k3)
  clear k3 hC
  rcases hb with rfl | rfl <;> rcases hq with hq | ⟨hq, hq2⟩
  all_goals
    go_wp2_with fail
    refine (hA.out _ K3.out).mono ?_
    rintro e1 w5 ⟨rfl, k5⟩
    have F5 := Aside.mk (K3.out.trans k5)
    clear k5
    go_wp2_with fail
    go_ret
    exact ⟨rfl, F5.out⟩
set_option maxRecDepth 100000 in
set_option maxHeartbeats 2000000 in
theorem fnShorten_end {w : World} {e : Int} {n : Bool} {s : ByteArray} (g : Gv w) (hdg : Digs s.data.toList) (h0 : 0 < s.size) (hs : s.size ≤ 300) (hT : mk (natText (numOf s.data.toList)) = s) (hX0 : numOf s.data.toList ≠ 0) (he0 : -2500 ≤ e) (he1 : e ≤ 2500)
    (hq48 : (s.toList == [48]) = false) : Calls Tryz.prog 6 #[.agg #[.int .i64 0, .bool n, .int .i32 e, .string s]] w fun e1 w' => e1 = .returned (.bool true) ∧ Fr (fun _ _ => False) w w' := by
  obtain ⟨X, hX⟩ : ∃ X, numOf s.data.toList = X := ⟨_, rfl⟩
  obtain ⟨e2, he2⟩ : ∃ e2, e + ((tz X : Nat) : Int) = e2 := ⟨_, rfl⟩
  obtain ⟨s2, hs2⟩ : ∃ s2, mk (natText (X / 10 ^ tz X)) = s2 := ⟨_, rfl⟩
  have HZ := Lib.hid (fun w1 => zz_small (w := w1) (f := 0) (e := e) (n := n) (s := s) (by omega))
  have hC : Hid (∀ w1, Calls Tryz.prog 9 #[.agg #[.int .i64 0, .bool n, .int .i32 e, .string s]] w1 fun e1 w' => Fr (fun _ _ => False) w1 w' ∧ (e1 = .returned (.bool false) ∨ e1 = .returned (.bool true))) := Lib.hid (fun w1 => by
    refine (clear_any (w := w1)).mono ?_
    rintro e1 w2 ⟨k, rfl | ⟨rfl, q⟩⟩
    · exact ⟨k, .inl rfl⟩
    · exact ⟨k, .inr rfl⟩)
  have hA : Hid (∀ w1, Fr (fun _ _ => False) w w1 → Calls Tryz.prog 10 #[] w1 fun e1 w2 => e1 = .returned (.bool true) ∧ Fr (fun _ _ => False) w1 w2) := Lib.hid (fun w1 q => alive (g.new q))
  have HT := Lib.hid (fun w1 (q : Fr (fun _ _ => False) w w1) => shorten_any (w := w1) (e := e) (n := n) (g.new q) hdg h0 hs hX0 he0 he1)
  have hnd : ndig X ≤ 1000 := by
    have := natText_length X
    have h2 := mk_size (natText X)
    rw [← hX, hT] at h2
    rw [hX] at h2
    omega
  have hR : Hid (∀ w1, Calls Tryz.prog 26 #[.agg #[.int .i64 0, .bool n, .int .i32 e, .string s]] w1 fun ex w' =>
      ex = .returned (.tuple #[.agg #[.int .i64 0, .bool n, .int .i32 e2, .string s2], .int .i64 (tz X : Nat)]) ∧ Fr (fun _ _ => False) w1 w') := Lib.hid (fun w1 => by
    have := reduced_any (w := w1) (e := e) (n := n) (X := X) (by rw [← hX]; exact hX0) hnd (by omega) (by omega)
    rw [he2, hs2, ← hX, hT] at this
    rw [hX] at this
    exact this)
  rw [hX, he2, hs2] at HT
  have B1 := D4.new (w := w) 0 e n s 23
  have F1 := (Fr.refl (fun _ _ => False) w).alloc (.cells #[.int .i64 0, .bool n, .int .i32 e, .string s] 23)
  have HB := Aside.mk B1
  have HF := Aside.mk F1
  have hq := fun w => eql_dec w 0 e2 n s2
  obtain ⟨d0, d1, d2, d3, _⟩ := E8.of B1
  clear hT g B1 F1 hdg h0 hs hX0 hX he2 hs2 he0 he1 hnd
  go_enter Tryz.func6, Tryz.ntmps6
  go_wp2_with fail
  refine (HZ.out _).mono ?_
  rintro e1 w2 ⟨rfl, k2⟩
  have B2 := HB.out.fr k2 (fun _ q => q)
  have K2 := Aside.mk (HF.out.trans k2)
  have HB2 := Aside.mk B2
  obtain ⟨d0, d1, d2, d3, _⟩ := E8.of B2
  clear k2 B2 HZ
  go_wp2_with fail
  refine (hC.out _).mono ?_
  rintro e1 w3 ⟨k3, rfl | rfl⟩
  · have K3 := Aside.mk (K2.out.trans k3)
    clear k3 hC
    go_wp2_with fail
    refine (hA.out _ K3.out).mono ?_
    rintro e1 w5 ⟨rfl, k5⟩
    have F5 := Aside.mk (K3.out.trans k5)
    clear k5
    go_wp2_with fail
    go_ret
    exact ⟨rfl, F5.out⟩
  have B3 := HB2.out.fr k3 (fun _ q => q)
  have K3 := Aside.mk (K2.out.trans k3)
  have HB3 := Aside.mk B3
  obtain ⟨d0, d1, d2, d3, _⟩ := E8.of B3
  clear k3 B3 hC
  go_wp2_with fail
  refine (HT.out _ K3.out).mono ?_
  rintro e1 w4 ⟨rfl, k4⟩
  have A4 := (Fr.refl (fun _ _ => False) w4).alloc (.cells #[.int .i64 0, .bool n, .int .i32 e2, .string s2] 23)
  have L4 := D4.new (w := w4) 0 e2 n s2 23
  have B4 := HB3.out.fr (k4.trans A4) (fun _ q => q)
  have K4 := Aside.mk ((K3.out.trans k4).trans A4)
  obtain ⟨d0, d1, d2, d3, _⟩ := E8.of B4
  have HL4 := Aside.mk L4
  clear k4 B4 HT L4 A4
  go_wp2_with fail
  refine (hR.out _).mono ?_
  rintro e1 w6 ⟨rfl, k6⟩
  have A6 := (Fr.refl (fun _ _ => False) w6).alloc (.cells #[.int .i64 0, .bool n, .int .i32 e2, .string s2] 23)
  have L6 := D4.new (w := w6) 0 e2 n s2 23
  have K6 := Aside.mk ((K4.out.trans k6).trans A6)
  have HL5 := Aside.mk (HL4.out.fr (k6.trans A6) (fun _ q => q))
  have HL6 := Aside.mk L6
  clear k6 A6 L6 d0 d1 d2 d3 hR
  go_wp2_with fail
  refine (hA.out _ K6.out).mono ?_
  rintro e1 w7 ⟨rfl, k7⟩
  obtain ⟨a0, a1, a2, a3, _⟩ := E8.of (HL5.out.fr k7 (fun _ q => q))
  obtain ⟨b0, b1, b2, b3, _⟩ := E8.of (HL6.out.fr k7 (fun _ q => q))
  have hq7 := hq w7
  have F7 := Aside.mk (K6.out.trans k7)
  clear k7 hA hq
  go_wp2_with fail
  go_ret
  exact ⟨rfl, F7.out⟩
theorem fnShorten_any {w : World} {f e : Int} {n : Bool} {s : ByteArray} (g : Gv w) : Calls Tryz.prog 6 #[.agg #[.int .i64 f, .bool n, .int .i32 e, .string s]] w fun e1 w' => e1 = .returned (.bool true) ∧ Fr (fun _ _ => False) w w' := by
  by_cases hz : s.size ≤ 2147483647
  case neg => exact fnShorten_big hz
  by_cases hc : ClearP f e s
  case neg => exact fnShorten_not g hz hc
  obtain ⟨hdg, hp, h300, hfr, hnt, he, _⟩ := hc.all
  by_cases hf : f = 0
  case neg => exact fnShorten_skip g hz (.inl (by simp [hf]))
  subst hf
  by_cases hl : s.data.toList = [48]
  case pos => exact fnShorten_skip g hz (.inr ⟨rfl, by rw [ByteArray.toList_eq, hl]; rfl⟩)
  have hX0 : numOf s.data.toList ≠ 0 := fun q => by
    rw [q, natText_zero] at hnt
    exact hl hnt.symm
  exact fnShorten_end g hdg hp h300 (by rw [hnt]; exact (mk_of s).symm) hX0 he.1 he.2 (by rw [ByteArray.toList_eq, beq_eq_false_iff_ne]; exact hl)
end Go.Proofs.YtfhnkcdlphfbpaaGreatDoor
