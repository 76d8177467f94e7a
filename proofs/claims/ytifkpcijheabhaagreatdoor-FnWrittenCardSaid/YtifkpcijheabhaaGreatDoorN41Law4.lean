/- laws.FnWritten. -/
import Derived.Test.YtifkpcijheabhaaGreatDoorN37Writ2
import Derived.Test.YtifkpcijheabhaaGreatDoorN39SpecT3
import Derived.Test.YtifkpcijheabhaaGreatDoorN40Tell3
set_option linter.unusedSimpArgs false
set_option linter.unusedVariables false
namespace Go.Proofs.YtifkpcijheabhaaGreatDoor
open Go.RowKit

theorem sText_any {w : World} {f : Nat} {e : Int} {n : Bool} {s : ByteArray} (hG : NG ≤ w.heap.size) (hf : f ≤ 3) (he : -5000 ≤ e ∧ e ≤ 5000) (h0 : 0 < s.size) (hs : s.size ≤ 300) :
    Calls Tryz.prog 12 #[.agg #[.int .i64 f, .bool n, .int .i32 e, .string s], .int .u8 71] w fun e1 w' => e1 = .returned (.string (mk (textL f n e s.data.toList 71))) ∧ Fr (fun _ _ => False) w w' := by
  by_cases h : f = 0
  · subst h
    exact sText_G hG he h0 hs
  · have e1 : textL (f : Int) n e s.data.toList 71 = markL n ++ formL f := by unfold textL; rw [if_neg (by omega)]
    rw [e1]
    exact sText_nf (fm := 71) ⟨by omega, hf⟩
set_option maxRecDepth 100000 in
theorem fnWritten_big {w : World} {f e : Int} {n : Bool} {s : ByteArray} (h : ¬ s.size ≤ 2147483647) : Calls Tryz.prog 6 #[.agg #[.int .i64 f, .bool n, .int .i32 e, .string s]] w fun e1 w' => e1 = .returned (.bool true) ∧ Fr (fun _ _ => False) w w' := by
  have HZ := Lib.hid (fun w1 => zz_big (w := w1) (f := f) (e := e) (n := n) h)
  clear h
  go_enter Tryz.func6, Tryz.ntmps6
  go_wp2_with fail
  refine (HZ.out _).mono ?_
  rintro e1 w2 ⟨rfl, k2⟩
  have K2 := Aside.mk k2
  clear k2
  go_wp2_with fail
  go_ret
  exact ⟨rfl, ((Fr.refl _ w).alloc _).trans K2.out⟩
set_option maxRecDepth 100000 in
theorem fnWritten_not {w : World} {f e : Int} {n : Bool} {s : ByteArray} (g : Gv w) (h : s.size ≤ 2147483647) (hn : ¬ ClearP f e s) : Calls Tryz.prog 6 #[.agg #[.int .i64 f, .bool n, .int .i32 e, .string s]] w fun e1 w' => e1 = .returned (.bool true) ∧ Fr (fun _ _ => False) w w' := by
  have HZ := Lib.hid (fun w1 => zz_small (w := w1) (f := f) (e := e) (n := n) h)
  have hA : Hid (∀ w1, Fr (fun _ _ => False) w w1 → Calls Tryz.prog 8 #[] w1 fun e1 w2 => e1 = .returned (.bool true) ∧ Fr (fun _ _ => False) w1 w2) := Lib.hid (fun w1 q => alive (g.new q))
  have hC : Hid (∀ w1, Calls Tryz.prog 11 #[.agg #[.int .i64 f, .bool n, .int .i32 e, .string s]] w1 fun e1 w' => e1 = .returned (.bool false) ∧ Fr (fun _ _ => False) w1 w') := Lib.hid (fun w1 => by
    refine (clear_any (w := w1)).mono ?_
    rintro e1 w2 ⟨k, rfl | ⟨rfl, q⟩⟩
    · exact ⟨rfl, k⟩
    · exact absurd q hn)
  have HB := Aside.mk (D4.new (w := w) f e n s 23)
  have HF := Aside.mk ((Fr.refl (fun _ _ => False) w).alloc (.cells #[.int .i64 f, .bool n, .int .i32 e, .string s] 23))
  clear h hn g
  go_enter Tryz.func6, Tryz.ntmps6
  go_wp2_with fail
  refine (HZ.out _).mono ?_
  rintro e1 w2 ⟨rfl, k2⟩
  obtain ⟨d0, d1, d2, d3, _⟩ := E8.of (HB.out.fr k2 (fun _ q => q))
  have K2 := Aside.mk (HF.out.trans k2)
  clear k2 HZ
  go_wp2_with fail
  refine (hC.out _).mono ?_
  rintro e1 w3 ⟨rfl, k3⟩
  have K3 := Aside.mk (K2.out.trans k3)
  clear k3 hC
  go_wp2_with fail
  refine (hA.out _ K3.out).mono ?_
  rintro e1 w5 ⟨rfl, k5⟩
  have F5 := Aside.mk (K3.out.trans k5)
  clear k5
  go_wp2_with fail
  go_ret
  exact ⟨rfl, F5.out⟩
set_option maxRecDepth 100000 in
set_option maxHeartbeats 2000000 in
theorem fnWritten_end {w : World} {f : Nat} {e : Int} {n : Bool} {s T : ByteArray} (g : Gv w) (hz : s.size ≤ 2147483647)
    (hW : ∀ w1, Fr (fun _ _ => False) w w1 → Calls Tryz.prog 17 #[.agg #[.int .i64 f, .bool n, .int .i32 e, .string s]] w1 fun e1 w' => e1 = .returned (.tuple #[.string T, .string T, .bool true]) ∧ Fr (fun _ _ => False) w1 w')
    (hX : ∀ w1, Fr (fun _ _ => False) w w1 → Calls Tryz.prog 12 #[.agg #[.int .i64 f, .bool n, .int .i32 e, .string s], .int .u8 71] w1 fun e1 w' => e1 = .returned (.string T) ∧ Fr (fun _ _ => False) w1 w')
    (f0 s0 : Bool) (hf0 : ((f : Int) == 0) = f0) (hs0 : (s.toList == [48]) = s0) :
    Calls Tryz.prog 6 #[.agg #[.int .i64 f, .bool n, .int .i32 e, .string s]] w fun e1 w' => e1 = .returned (.bool true) ∧ Fr (fun _ _ => False) w w' := by
  have HZ := Lib.hid (fun w1 => zz_small (w := w1) (f := f) (e := e) (n := n) (s := s) hz)
  have hC : Hid (∀ w1, Calls Tryz.prog 11 #[.agg #[.int .i64 f, .bool n, .int .i32 e, .string s]] w1 fun e1 w' => Fr (fun _ _ => False) w1 w' ∧ (e1 = .returned (.bool false) ∨ e1 = .returned (.bool true))) := Lib.hid (fun w1 => by
    refine (clear_any (w := w1)).mono ?_
    rintro e1 w2 ⟨k, rfl | ⟨rfl, q⟩⟩
    · exact ⟨k, .inl rfl⟩
    · exact ⟨k, .inr rfl⟩)
  have hA : Hid (∀ w1, Fr (fun _ _ => False) w w1 → Calls Tryz.prog 8 #[] w1 fun e1 w2 => e1 = .returned (.bool true) ∧ Fr (fun _ _ => False) w1 w2) := Lib.hid (fun w1 q => alive (g.new q))
  have HW := Lib.hid hW
  have HX := Lib.hid hX
  have HB := Aside.mk (D4.new (w := w) f e n s 23)
  have HF := Aside.mk ((Fr.refl (fun _ _ => False) w).alloc (.cells #[.int .i64 f, .bool n, .int .i32 e, .string s] 23))
  clear g hW hX hz
  go_enter Tryz.func6, Tryz.ntmps6
  go_wp2_with fail
  refine (HZ.out _).mono ?_
  rintro e1 w2 ⟨rfl, k2⟩
  have B2 := HB.out.fr k2 (fun _ q => q)
  have K2 := Aside.mk (HF.out.trans k2)
  have HB2 := Aside.mk B2
  obtain ⟨d0, d1, d2, d3, _⟩ := E8.of B2
  clear k2 B2 HZ
  go_wp2_with fail
  refine (hC.out _).mono ?_
  rintro e1 w3 ⟨k3, rfl | rfl⟩
  · have K3 := Aside.mk (K2.out.trans k3)
    clear k3 hC
    go_wp2_with fail
    refine (hA.out _ K3.out).mono ?_
    rintro e1 w5 ⟨rfl, k5⟩
    have F5 := Aside.mk (K3.out.trans k5)
    clear k5
    go_wp2_with fail
    go_ret
    exact ⟨rfl, F5.out⟩
  have B3 := HB2.out.fr k3 (fun _ q => q)
  have K3 := Aside.mk (K2.out.trans k3)
  have HB3 := Aside.mk B3
  obtain ⟨d0, d1, d2, d3, _⟩ := E8.of B3
  clear k3 B3 hC
  cases f0
  · go_wp2_with fail
    refine (HW.out _ K3.out).mono ?_
    rintro e1 w4 ⟨rfl, k4⟩
    have B4 := HB3.out.fr k4 (fun _ q => q)
    have K4 := Aside.mk (K3.out.trans k4)
    obtain ⟨d0, d1, d2, d3, _⟩ := E8.of B4
    clear k4 B4 HW
    go_wp2_with fail
    refine (HX.out _ K4.out).mono ?_
    rintro e1 w5 ⟨rfl, k5⟩
    have K5 := Aside.mk (K4.out.trans k5)
    clear k5 HX
    go_wp2_with fail
    refine (hA.out _ K5.out).mono ?_
    rintro e1 w6 ⟨rfl, k6⟩
    have F6 := Aside.mk (K5.out.trans k6)
    clear k6
    go_wp2_with fail
    go_ret
    exact ⟨rfl, F6.out⟩
  cases s0
  · go_wp2_with fail
    refine (HW.out _ K3.out).mono ?_
    rintro e1 w4 ⟨rfl, k4⟩
    have B4 := HB3.out.fr k4 (fun _ q => q)
    have K4 := Aside.mk (K3.out.trans k4)
    obtain ⟨d0, d1, d2, d3, _⟩ := E8.of B4
    clear k4 B4 HW
    go_wp2_with fail
    refine (HX.out _ K4.out).mono ?_
    rintro e1 w5 ⟨rfl, k5⟩
    have K5 := Aside.mk (K4.out.trans k5)
    clear k5 HX
    go_wp2_with fail
    refine (hA.out _ K5.out).mono ?_
    rintro e1 w6 ⟨rfl, k6⟩
    have F6 := Aside.mk (K5.out.trans k6)
    clear k6
    go_wp2_with fail
    go_ret
    exact ⟨rfl, F6.out⟩
  by_cases hle : e < -6
  · have he1 : decide (e < -6) = true := decide_eq_true hle
    go_wp2_with fail
    refine (hA.out _ K3.out).mono ?_
    rintro e1 w5 ⟨rfl, k5⟩
    have F5 := Aside.mk (K3.out.trans k5)
    clear k5
    go_wp2_with fail
    go_ret
    exact ⟨rfl, F5.out⟩
  · have he1 : decide (e < -6) = false := decide_eq_false hle
    go_wp2_with fail
    refine (HW.out _ K3.out).mono ?_
    rintro e1 w4 ⟨rfl, k4⟩
    have B4 := HB3.out.fr k4 (fun _ q => q)
    have K4 := Aside.mk (K3.out.trans k4)
    obtain ⟨d0, d1, d2, d3, _⟩ := E8.of B4
    clear k4 B4 HW
    go_wp2_with fail
    refine (HX.out _ K4.out).mono ?_
    rintro e1 w5 ⟨rfl, k5⟩
    have K5 := Aside.mk (K4.out.trans k5)
    clear k5 HX
    go_wp2_with fail
    refine (hA.out _ K5.out).mono ?_
    rintro e1 w6 ⟨rfl, k6⟩
    have F6 := Aside.mk (K5.out.trans k6)
    clear k6
    go_wp2_with fail
    go_ret
    exact ⟨rfl, F6.out⟩
theorem fnWritten_any {w : World} {f e : Int} {n : Bool} {s : ByteArray} (g : Gv w) (hp : PT w) : Calls Tryz.prog 6 #[.agg #[.int .i64 f, .bool n, .int .i32 e, .string s]] w fun e1 w' => e1 = .returned (.bool true) ∧ Fr (fun _ _ => False) w w' := by
  by_cases hz : s.size ≤ 2147483647
  case neg => exact fnWritten_big hz
  by_cases hc : ClearP f e s
  case neg => exact fnWritten_not g hz hc
  obtain ⟨hdg, h0, h300, hfr, hnt, he, _⟩ := hc.all
  obtain ⟨f', rfl⟩ : ∃ f' : Nat, f = f' := ⟨f.toNat, by omega⟩
  have hG := g.g.size
  have hsl : s.data.toList.length = s.size := rfl
  have hlen : ndig (numOf s.data.toList) = s.size := by rw [← natText_length, hnt]; exact hsl
  refine fnWritten_end (T := mk (textL f' n e s.data.toList 71)) g hz (fun w1 q => ?_) (fun w1 q => sText_any (Nat.le_trans hG q.size) (by omega) (by omega) h0 h300) _ _ rfl rfl
  exact written_any (by omega) (g.new q) (hp.new hG q) hdg h0 (by omega) (appG (by omega) (sm_digs hdg (by omega)) (bl_digs hdg h300) (by omega) (by omega)) (by rw [hnt])
end Go.Proofs.YtifkpcijheabhaaGreatDoor
