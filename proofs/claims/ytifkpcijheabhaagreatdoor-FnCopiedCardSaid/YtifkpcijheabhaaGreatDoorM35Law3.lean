/- laws.FnCopied. -/
import Derived.Test.YtifkpcijheabhaaGreatDoorM34Tell3
import Derived.Test.YtifkpcijheabhaaGreatDoorM33Eql
set_option linter.unusedSimpArgs false
set_option linter.unusedVariables false
namespace Go.Proofs.YtifkpcijheabhaaGreatDoor
open Go.RowKit

set_option maxRecDepth 100000 in
theorem fnCopied_big {w : World} {f e : Int} {n : Bool} {s : ByteArray} (h : ¬ s.size ≤ 2147483647) : Calls Tryz.prog 5 #[.agg #[.int .i64 f, .bool n, .int .i32 e, .string s]] w fun e1 w' => e1 = .returned (.bool true) ∧ Fr (fun _ _ => False) w w' := by
  have HZ := Lib.hid (fun w1 => zz_big (w := w1) (f := f) (e := e) (n := n) h)
  clear h
  go_enter Tryz.func5, Tryz.ntmps5
  go_wp2_with fail
  refine (HZ.out _).mono ?_
  rintro e1 w2 ⟨rfl, k2⟩
  have K2 := Aside.mk k2
  clear k2
  go_wp2_with fail
  go_ret
  exact ⟨rfl, ((Fr.refl _ w).alloc _).trans K2.out⟩
set_option maxRecDepth 100000 in
theorem fnCopied_not {w : World} {f e : Int} {n : Bool} {s : ByteArray} (g : Gv w) (h : s.size ≤ 2147483647) (hn : ¬ ClearP f s) : Calls Tryz.prog 5 #[.agg #[.int .i64 f, .bool n, .int .i32 e, .string s]] w fun e1 w' => e1 = .returned (.bool true) ∧ Fr (fun _ _ => False) w w' := by
  have HZ := Lib.hid (fun w1 => zz_small (w := w1) (f := f) (e := e) (n := n) h)
  have hA : Hid (∀ w1, Fr (fun _ _ => False) w w1 → Calls Tryz.prog 8 #[] w1 fun e1 w2 => e1 = .returned (.bool true) ∧ Fr (fun _ _ => False) w1 w2) := Lib.hid (fun w1 q => alive (g.new q))
  have hC : Hid (∀ w1, Calls Tryz.prog 11 #[.agg #[.int .i64 f, .bool n, .int .i32 e, .string s]] w1 fun e1 w' => e1 = .returned (.bool false) ∧ Fr (fun _ _ => False) w1 w') := Lib.hid (fun w1 => by
    refine (clear_any (w := w1)).mono ?_
    rintro e1 w2 ⟨k, rfl | ⟨rfl, q⟩⟩
    · exact ⟨rfl, k⟩
    · exact absurd q hn)
  have B1 := D4.new (w := w) f e n s 23
  have F1 := (Fr.refl (fun _ _ => False) w).alloc (.cells #[.int .i64 f, .bool n, .int .i32 e, .string s] 23)
  have HB := Aside.mk B1
  have HF := Aside.mk F1
  clear h hn g B1 F1
  go_enter Tryz.func5, Tryz.ntmps5
  go_wp2_with fail
  refine (HZ.out _).mono ?_
  rintro e1 w2 ⟨rfl, k2⟩
  obtain ⟨d0, d1, d2, d3, _⟩ := E8.of (HB.out.fr k2 (fun _ q => q))
  have K2 := Aside.mk (HF.out.trans k2)
  clear k2 HZ
  go_wp2_with fail
  refine (hC.out _).mono ?_
  rintro e1 w3 ⟨rfl, k3⟩
  have K3 := Aside.mk (K2.out.trans k3)
  clear k3 hC
  go_wp2_with fail
  refine (hA.out _ K3.out).mono ?_
  rintro e1 w5 ⟨rfl, k5⟩
  have F5 := Aside.mk (K3.out.trans k5)
  clear k5
  go_wp2_with fail
  go_ret
  exact ⟨rfl, F5.out⟩
theorem two_d4 {w4 w5 : World} {f e : Int} {n : Bool} {s : ByteArray} {t t' : TypeId} (k : Fr (fun _ _ => False) ((w4.alloc (.cells #[.int .i64 f, .bool n, .int .i32 e, .string s] t)).alloc (.cells #[.int .i64 f, .bool n, .int .i32 e, .string s] t')) w5) : D4 w5 w4.heap.size f n e s ∧ D4 w5 (w4.heap.size + 1) f n e s := by
  refine ⟨((D4.new f e n s t).fr ((Fr.refl (fun _ _ => False) _).alloc _) (fun _ q => q)).fr k (fun _ q => q), ?_⟩
  have := (D4.new (w := w4.alloc (.cells #[.int .i64 f, .bool n, .int .i32 e, .string s] t)) f e n s t').fr k (fun _ q => q)
  rw [World.size_alloc] at this
  exact this
set_option maxRecDepth 100000 in
set_option maxHeartbeats 2000000 in
theorem fnCopied_end {w : World} {f : Nat} {e : Int} {n : Bool} {s : ByteArray} (hf : f ≤ 3) (g : Gv w) (hdg : Digs s.data.toList) (h0 : 0 < s.size) (hs : s.size ≤ 300) (hT : mk (natText (numOf s.data.toList)) = s)
    : Calls Tryz.prog 5 #[.agg #[.int .i64 f, .bool n, .int .i32 e, .string s]] w fun e1 w' => e1 = .returned (.bool true) ∧ Fr (fun _ _ => False) w w' := by
  have HZ := Lib.hid (fun w1 => zz_small (w := w1) (f := f) (e := e) (n := n) (s := s) (by omega))
  have hC : Hid (∀ w1, Calls Tryz.prog 11 #[.agg #[.int .i64 f, .bool n, .int .i32 e, .string s]] w1 fun e1 w' => Fr (fun _ _ => False) w1 w' ∧ (e1 = .returned (.bool false) ∨ e1 = .returned (.bool true))) := Lib.hid (fun w1 => by
    refine (clear_any (w := w1)).mono ?_
    rintro e1 w2 ⟨k, rfl | ⟨rfl, q⟩⟩
    · exact ⟨k, .inl rfl⟩
    · exact ⟨k, .inr rfl⟩)
  have hA : Hid (∀ w1, Fr (fun _ _ => False) w w1 → Calls Tryz.prog 8 #[] w1 fun e1 w2 => e1 = .returned (.bool true) ∧ Fr (fun _ _ => False) w1 w2) := Lib.hid (fun w1 q => alive (g.new q))
  have HT := Lib.hid (fun w1 (q : Fr (fun _ _ => False) w w1) => copied_any (w := w1) (e := e) (n := n) hf (g.new q) hdg h0 hs hT)
  have B1 := D4.new (w := w) f e n s 23
  have F1 := (Fr.refl (fun _ _ => False) w).alloc (.cells #[.int .i64 f, .bool n, .int .i32 e, .string s] 23)
  have HB := Aside.mk B1
  have HF := Aside.mk F1
  have hq := fun w => eql_dec w f e n s
  obtain ⟨d0, d1, d2, d3, _⟩ := E8.of B1
  clear hT g B1 F1 hf hdg h0 hs
  go_enter Tryz.func5, Tryz.ntmps5
  go_wp2_with fail
  refine (HZ.out _).mono ?_
  rintro e1 w2 ⟨rfl, k2⟩
  have B2 := HB.out.fr k2 (fun _ q => q)
  have K2 := Aside.mk (HF.out.trans k2)
  have HB2 := Aside.mk B2
  obtain ⟨d0, d1, d2, d3, _⟩ := E8.of B2
  clear k2 B2 HZ
  go_wp2_with fail
  refine (hC.out _).mono ?_
  rintro e1 w3 ⟨k3, rfl | rfl⟩
  · have K3 := Aside.mk (K2.out.trans k3)
    clear k3 hC
    go_wp2_with fail
    refine (hA.out _ K3.out).mono ?_
    rintro e1 w5 ⟨rfl, k5⟩
    have F5 := Aside.mk (K3.out.trans k5)
    clear k5
    go_wp2_with fail
    go_ret
    exact ⟨rfl, F5.out⟩
  have B3 := HB2.out.fr k3 (fun _ q => q)
  have K3 := Aside.mk (K2.out.trans k3)
  have HB3 := Aside.mk B3
  obtain ⟨d0, d1, d2, d3, _⟩ := E8.of B3
  clear k3 B3 hC
  go_wp2_with fail
  refine (HT.out _ K3.out).mono ?_
  rintro e1 w4 ⟨rfl, k4⟩
  have B4 := HB3.out.fr k4 (fun _ q => q)
  have K4 := Aside.mk (K3.out.trans k4)
  obtain ⟨d0, d1, d2, d3, _⟩ := E8.of B4
  have hlt := B4.c0.lt
  have hlt1 : w.heap.size < w4.heap.size + 1 := by omega
  have HB4 := Aside.mk B4
  clear k4 B4 HT
  go_wp2_with fail
  refine (hA.out _ ((K4.out.alloc _).alloc _)).mono ?_
  rintro e1 w5 ⟨rfl, k5⟩
  obtain ⟨t1, t2⟩ := two_d4 k5
  have B5 := ((HB4.out.fr ((Fr.refl (fun _ _ => False) _).alloc _) (fun _ q => q)).fr ((Fr.refl (fun _ _ => False) _).alloc _) (fun _ q => q)).fr k5 (fun _ q => q)
  obtain ⟨a0, a1, a2, a3, _⟩ := E8.of t1
  obtain ⟨b0, b1, b2, b3, _⟩ := E8.of t2
  obtain ⟨d0, d1, d2, d3, _⟩ := E8.of B5
  have hq5 := hq w5
  have F5 := Aside.mk (((K4.out.alloc _).alloc _).trans k5)
  clear t1 t2 k5 K4 hA HB4 hlt hlt1 B5 hq
  go_wp2_with fail
  go_ret
  exact ⟨rfl, F5.out⟩
theorem fnCopied_any {w : World} {f e : Int} {n : Bool} {s : ByteArray} (g : Gv w) : Calls Tryz.prog 5 #[.agg #[.int .i64 f, .bool n, .int .i32 e, .string s]] w fun e1 w' => e1 = .returned (.bool true) ∧ Fr (fun _ _ => False) w w' := by
  by_cases hz : s.size ≤ 2147483647
  case neg => exact fnCopied_big hz
  by_cases hc : ClearP f s
  case neg => exact fnCopied_not g hz hc
  have hd : Digs s.data.toList ∧ 0 < s.size ∧ s.size ≤ 300 ∧ (0 ≤ f ∧ f ≤ 3) ∧ natText (numOf s.data.toList) = s.data.toList := by
    have hsl : s.data.toList.length = s.size := rfl
    rcases hc with ⟨h1, h2, h3⟩ | ⟨h1, h2, h3, h4, h5⟩
    · refine ⟨by rw [h3]; intro c hc; simp at hc; subst hc; decide, by rw [← hsl, h3]; decide, by rw [← hsl, h3]; decide, ⟨by omega, h2⟩, by rw [h3]; exact natText_zero⟩
    · have hne : s.data.toList ≠ [] := by intro k; rw [k] at hsl; simp at hsl; omega
      exact ⟨h2, h3, h4, by omega, natText_numOf h2 hne (by
        rcases h5 with k | k
        · exact .inl (by omega)
        · exact .inr (fun hp => by have := k (by omega); simpa [ByteArray.getElem_eq_getElem_data] using this))⟩
  obtain ⟨hdg, hp, h300, hfr, hnt⟩ := hd
  obtain ⟨f', rfl⟩ : ∃ f' : Nat, f = f' := ⟨f.toNat, by omega⟩
  exact fnCopied_end (by omega) g hdg hp h300 (by rw [hnt]; exact mk_of s)
end Go.Proofs.YtifkpcijheabhaaGreatDoor
