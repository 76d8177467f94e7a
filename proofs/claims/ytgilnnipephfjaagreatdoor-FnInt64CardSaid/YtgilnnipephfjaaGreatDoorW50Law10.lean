/- laws.FnInt64. -/
import Derived.Test.YtgilnnipephfjaaGreatDoorW44In3
import Derived.Test.YtgilnnipephfjaaGreatDoorW49Si3
import Derived.Test.YtgilnnipephfjaaGreatDoorS39Tell3
import Derived.Test.YtgilnnipephfjaaGreatDoorM33Eql
set_option linter.unusedSimpArgs false
set_option linter.unusedVariables false
namespace Go.Proofs.YtgilnnipephfjaaGreatDoor
open Go.RowKit

set_option maxRecDepth 100000 in
theorem fnInt64_big {w : World} {f e : Int} {n : Bool} {s : ByteArray} (h : ¬ s.size ≤ 2147483647) : Calls Tryz.prog 4 #[.agg #[.int .i64 f, .bool n, .int .i32 e, .string s]] w fun e1 w' => e1 = .returned (.bool true) ∧ Fr (fun _ _ => False) w w' := by
  have HZ := Lib.hid (fun w1 => zz_big (w := w1) (f := f) (e := e) (n := n) h)
  clear h
  go_enter Tryz.func4, Tryz.ntmps4
  go_wp2_with fail
  refine (HZ.out _).mono ?_
  rintro e1 w2 ⟨rfl, k2⟩
  have K2 := Aside.mk k2
  clear k2
  go_wp2_with fail
  go_ret
  exact ⟨rfl, ((Fr.refl _ w).alloc _).trans K2.out⟩
set_option maxRecDepth 100000 in
theorem fnInt64_not {w : World} {f e : Int} {n : Bool} {s : ByteArray} (g : Gv w) (h : s.size ≤ 2147483647) (hn : ¬ ClearP f e s) : Calls Tryz.prog 4 #[.agg #[.int .i64 f, .bool n, .int .i32 e, .string s]] w fun e1 w' => e1 = .returned (.bool true) ∧ Fr (fun _ _ => False) w w' := by
  have HZ := Lib.hid (fun w1 => zz_small (w := w1) (f := f) (e := e) (n := n) h)
  have hA : Hid (∀ w1, Fr (fun _ _ => False) w w1 → Calls Tryz.prog 8 #[] w1 fun e1 w2 => e1 = .returned (.bool true) ∧ Fr (fun _ _ => False) w1 w2) := Lib.hid (fun w1 q => alive (g.new q))
  have hC : Hid (∀ w1, Calls Tryz.prog 7 #[.agg #[.int .i64 f, .bool n, .int .i32 e, .string s]] w1 fun e1 w' => e1 = .returned (.bool false) ∧ Fr (fun _ _ => False) w1 w') := Lib.hid (fun w1 => by
    refine (clear_any (w := w1)).mono ?_
    rintro e1 w2 ⟨k, rfl | ⟨rfl, q⟩⟩
    · exact ⟨rfl, k⟩
    · exact absurd q hn)
  have B1 := D4.new (w := w) f e n s 24
  have F1 := (Fr.refl (fun _ _ => False) w).alloc (.cells #[.int .i64 f, .bool n, .int .i32 e, .string s] 24)
  have HB := Aside.mk B1
  have HF := Aside.mk F1
  clear h hn g B1 F1
  go_enter Tryz.func4, Tryz.ntmps4
  go_wp2_with fail
  refine (HZ.out _).mono ?_
  rintro e1 w2 ⟨rfl, k2⟩
  obtain ⟨d0, d1, d2, d3, _⟩ := E8.of (HB.out.fr k2 (fun _ q => q))
  have K2 := Aside.mk (HF.out.trans k2)
  clear k2 HZ
  go_wp2_with fail
  refine (hC.out _).mono ?_
  rintro e1 w3 ⟨rfl, k3⟩
  have K3 := Aside.mk (K2.out.trans k3)
  clear k3 hC
  go_wp2_with fail
  refine (hA.out _ K3.out).mono ?_
  rintro e1 w5 ⟨rfl, k5⟩
  have F5 := Aside.mk (K3.out.trans k5)
  clear k5
  go_wp2_with fail
  go_ret
  exact ⟨rfl, F5.out⟩
set_option maxRecDepth 100000 in
set_option maxHeartbeats 2000000 in
theorem fnInt64_end {w : World} {f : Nat} {e : Int} {n : Bool} {s : ByteArray} (g : Gv w) (hf : f ≤ 3) (hdg : Digs s.data.toList) (h0 : 0 < s.size) (hs : s.size ≤ 300) (he0 : -2500 ≤ e) (he1 : e ≤ 2500) :
    Calls Tryz.prog 4 #[.agg #[.int .i64 f, .bool n, .int .i32 e, .string s]] w fun e1 w' => e1 = .returned (.bool true) ∧ Fr (fun _ _ => False) w w' := by
  obtain ⟨X, hX⟩ : ∃ X, numOf s.data.toList = X := ⟨_, rfl⟩
  obtain ⟨ok, hok⟩ : ∃ x, okI f n e X = x := ⟨_, rfl⟩
  obtain ⟨Z, hZ⟩ : ∃ x : Int, flip n (szI e X : Nat) = x := ⟨_, rfl⟩
  have HZ := Lib.hid (fun w1 => zz_small (w := w1) (f := f) (e := e) (n := n) (s := s) (by omega))
  have hC : Hid (∀ w1, Calls Tryz.prog 7 #[.agg #[.int .i64 f, .bool n, .int .i32 e, .string s]] w1 fun e1 w' => Fr (fun _ _ => False) w1 w' ∧ (e1 = .returned (.bool false) ∨ e1 = .returned (.bool true))) := Lib.hid (fun w1 => by
    refine (clear_any (w := w1)).mono ?_
    rintro e1 w2 ⟨k, rfl | ⟨rfl, q⟩⟩
    · exact ⟨k, .inl rfl⟩
    · exact ⟨k, .inr rfl⟩)
  have hA : Hid (∀ w1, Fr (fun _ _ => False) w w1 → Calls Tryz.prog 8 #[] w1 fun e1 w2 => e1 = .returned (.bool true) ∧ Fr (fun _ _ => False) w1 w2) := Lib.hid (fun w1 q => alive (g.new q))
  have HT : Hid (∀ w1, Fr (fun _ _ => False) w w1 → Calls Tryz.prog 11 #[.agg #[.int .i64 f, .bool n, .int .i32 e, .string s]] w1 fun e1 w' => ∃ v, e1 = .returned (.tuple #[.int .i64 v, .bool ok]) ∧ Aside (ok = true → v = Z) ∧ Aside (Fr (fun _ _ => False) w1 w')) := Lib.hid (fun w1 q => by
    have := int64_any (w := w1) (e := e) (n := n) (g.new q) hf hdg h0 hs he0 he1
    rwa [hX, hok, hZ] at this)
  have hR : Hid (∀ w1, Fr (fun _ _ => False) w w1 → Calls Tryz.prog 12 #[.agg #[.int .i64 0, .bool n, .int .i32 e, .string s]] w1 fun ex w' => ∃ v, ex = .returned (.tuple #[.int .i64 v, .bool (isI n e X)]) ∧ Aside (isI n e X = true → v = Z) ∧ Aside (Fr (fun _ _ => False) w1 w')) := Lib.hid (fun w1 q => by
    have := integer_any (w := w1) (e := e) (n := n) (Nat.le_trans g.g.size q.size) hdg h0 hs he0 he1 hX
    rwa [hZ] at this)
  have hff : (((f : Nat) : Int) != 0) = true ∧ ok = false ∨ f = 0 ∧ isI n e X = ok := by
    by_cases q : f = 0
    · right; refine ⟨q, ?_⟩; rw [← hok]; unfold okI; rw [decide_eq_true q]; rfl
    · left; refine ⟨by simp [q], ?_⟩; rw [← hok]; unfold okI; rw [decide_eq_false q]; rfl
  have B1 := D4.new (w := w) f e n s 24
  have F1 := (Fr.refl (fun _ _ => False) w).alloc (.cells #[.int .i64 f, .bool n, .int .i32 e, .string s] 24)
  have HB := Aside.mk B1
  have HF := Aside.mk F1
  obtain ⟨d0, d1, d2, d3, _⟩ := E8.of B1
  clear g B1 F1 hdg h0 hs hX hok hZ he0 he1 hf
  rcases hff with ⟨hq, rfl⟩ | ⟨rfl, hq⟩
  case inl =>
    go_enter Tryz.func4, Tryz.ntmps4
    go_wp2_with fail
    refine (HZ.out _).mono ?_
    rintro e1 w2 ⟨rfl, k2⟩
    have B2 := HB.out.fr k2 (fun _ q => q)
    have K2 := Aside.mk (HF.out.trans k2)
    have HB2 := Aside.mk B2
    obtain ⟨d0, d1, d2, d3, _⟩ := E8.of B2
    clear k2 B2 HZ
    go_wp2_with fail
    refine (hC.out _).mono ?_
    rintro e1 w3 ⟨k3, rfl | rfl⟩
    · have K3 := Aside.mk (K2.out.trans k3)
      clear k3 hC
      go_wp2_with fail
      refine (hA.out _ K3.out).mono ?_
      rintro e1 w5 ⟨rfl, k5⟩
      have F5 := Aside.mk (K3.out.trans k5)
      clear k5
      go_wp2_with fail
      go_ret
      exact ⟨rfl, F5.out⟩
    have B3 := HB2.out.fr k3 (fun _ q => q)
    have K3 := Aside.mk (K2.out.trans k3)
    have HB3 := Aside.mk B3
    obtain ⟨d0, d1, d2, d3, _⟩ := E8.of B3
    clear k3 B3 hC
    go_wp2_with fail
    refine (HT.out _ K3.out).mono ?_
    rintro e1 w4 ⟨v, rfl, hv, k4⟩
    have B4 := HB3.out.fr k4.out (fun _ q => q)
    have K4 := Aside.mk (K3.out.trans k4.out)
    obtain ⟨d0, d1, d2, d3, _⟩ := E8.of B4
    clear B4 HT hv
    go_wp2_with fail
    refine (hA.out _ K4.out).mono ?_
    rintro e1 w5 ⟨rfl, k5⟩
    have F5 := Aside.mk (K4.out.trans k5)
    clear k5
    go_wp2_with fail
    go_ret
    exact ⟨rfl, F5.out⟩
  case inr =>
    rw [hq] at hR
    clear hq
    go_enter Tryz.func4, Tryz.ntmps4
    go_wp2_with fail
    refine (HZ.out _).mono ?_
    rintro e1 w2 ⟨rfl, k2⟩
    have B2 := HB.out.fr k2 (fun _ q => q)
    have K2 := Aside.mk (HF.out.trans k2)
    have HB2 := Aside.mk B2
    obtain ⟨d0, d1, d2, d3, _⟩ := E8.of B2
    clear k2 B2 HZ
    go_wp2_with fail
    refine (hC.out _).mono ?_
    rintro e1 w3 ⟨k3, rfl | rfl⟩
    · have K3 := Aside.mk (K2.out.trans k3)
      clear k3 hC
      go_wp2_with fail
      refine (hA.out _ K3.out).mono ?_
      rintro e1 w5 ⟨rfl, k5⟩
      have F5 := Aside.mk (K3.out.trans k5)
      clear k5
      go_wp2_with fail
      go_ret
      exact ⟨rfl, F5.out⟩
    have B3 := HB2.out.fr k3 (fun _ q => q)
    have K3 := Aside.mk (K2.out.trans k3)
    have HB3 := Aside.mk B3
    obtain ⟨d0, d1, d2, d3, _⟩ := E8.of B3
    clear k3 B3 hC
    go_wp2_with fail
    refine (HT.out _ K3.out).mono ?_
    rintro e1 w4 ⟨v, rfl, hv, k4⟩
    have B4 := HB3.out.fr k4.out (fun _ q => q)
    have K4 := Aside.mk (K3.out.trans k4.out)
    obtain ⟨d0, d1, d2, d3, _⟩ := E8.of B4
    clear B4 HT
    go_wp2_with fail
    refine (hR.out _ K4.out).mono ?_
    rintro e1 w6 ⟨v2, rfl, hv2, k6⟩
    have K6 := Aside.mk (K4.out.trans k6.out)
    clear d0 d1 d2 d3 hR
    cases ok
    · go_wp2_with fail
      refine (hA.out _ K6.out).mono ?_
      rintro e1 w7 ⟨rfl, k7⟩
      have F7 := Aside.mk (K6.out.trans k7)
      clear k7 hA
      go_wp2_with fail
      go_ret
      exact ⟨rfl, F7.out⟩
    · have e1 := hv.out rfl
      have e2 := hv2.out rfl
      subst e1
      subst e2
      go_wp2_with fail
      refine (hA.out _ K6.out).mono ?_
      rintro e1 w7 ⟨rfl, k7⟩
      have F7 := Aside.mk (K6.out.trans k7)
      clear k7 hA
      go_wp2_with fail
      go_ret
      exact ⟨rfl, F7.out⟩
theorem fnInt64_any {w : World} {f e : Int} {n : Bool} {s : ByteArray} (g : Gv w) : Calls Tryz.prog 4 #[.agg #[.int .i64 f, .bool n, .int .i32 e, .string s]] w fun e1 w' => e1 = .returned (.bool true) ∧ Fr (fun _ _ => False) w w' := by
  by_cases hz : s.size ≤ 2147483647
  case neg => exact fnInt64_big hz
  by_cases hc : ClearP f e s
  case neg => exact fnInt64_not g hz hc
  obtain ⟨hdg, hp, h300, hfr, hnt, he, _⟩ := hc.all
  obtain ⟨k, rfl⟩ : ∃ k : Nat, f = (k : Int) := ⟨f.toNat, by omega⟩
  exact fnInt64_end g (by omega) hdg hp h300 he.1 he.2
end Go.Proofs.YtgilnnipephfjaaGreatDoor
