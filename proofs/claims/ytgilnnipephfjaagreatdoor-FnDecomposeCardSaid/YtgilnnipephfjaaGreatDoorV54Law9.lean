/- laws.FnDecompose. -/
import Derived.Test.YtgilnnipephfjaaGreatDoorV52By4
import Derived.Test.YtgilnnipephfjaaGreatDoorT44SN7
import Derived.Test.YtgilnnipephfjaaGreatDoorU47SB1
import Derived.Test.YtgilnnipephfjaaGreatDoorS39Tell3
import Derived.Test.YtgilnnipephfjaaGreatDoorM33Eql
set_option linter.unusedSimpArgs false
set_option linter.unusedVariables false
namespace Go.Proofs.YtgilnnipephfjaaGreatDoor
open Go.RowKit

set_option maxRecDepth 100000 in
theorem fnDecompose_big {w : World} {f e : Int} {n : Bool} {s : ByteArray} (h : ¬ s.size ≤ 2147483647) : Calls Tryz.prog 5 #[.agg #[.int .i64 f, .bool n, .int .i32 e, .string s]] w fun e1 w' => e1 = .returned (.bool true) ∧ Fr (fun _ _ => False) w w' := by
  have HZ := Lib.hid (fun w1 => zz_big (w := w1) (f := f) (e := e) (n := n) h)
  clear h
  go_enter Tryz.func5, Tryz.ntmps5
  go_wp2_with fail
  refine (HZ.out _).mono ?_
  rintro e1 w2 ⟨rfl, k2⟩
  have K2 := Aside.mk k2
  clear k2
  go_wp2_with fail
  go_ret
  exact ⟨rfl, ((Fr.refl _ w).alloc _).trans K2.out⟩
set_option maxRecDepth 100000 in
theorem fnDecompose_not {w : World} {f e : Int} {n : Bool} {s : ByteArray} (g : Gv w) (h : s.size ≤ 2147483647) (hn : ¬ ClearP f e s) : Calls Tryz.prog 5 #[.agg #[.int .i64 f, .bool n, .int .i32 e, .string s]] w fun e1 w' => e1 = .returned (.bool true) ∧ Fr (fun _ _ => False) w w' := by
  have HZ := Lib.hid (fun w1 => zz_small (w := w1) (f := f) (e := e) (n := n) h)
  have hA : Hid (∀ w1, Fr (fun _ _ => False) w w1 → Calls Tryz.prog 8 #[] w1 fun e1 w2 => e1 = .returned (.bool true) ∧ Fr (fun _ _ => False) w1 w2) := Lib.hid (fun w1 q => alive (g.new q))
  have hC : Hid (∀ w1, Calls Tryz.prog 7 #[.agg #[.int .i64 f, .bool n, .int .i32 e, .string s]] w1 fun e1 w' => e1 = .returned (.bool false) ∧ Fr (fun _ _ => False) w1 w') := Lib.hid (fun w1 => by
    refine (clear_any (w := w1)).mono ?_
    rintro e1 w2 ⟨k, rfl | ⟨rfl, q⟩⟩
    · exact ⟨rfl, k⟩
    · exact absurd q hn)
  have B1 := D4.new (w := w) f e n s 24
  have F1 := (Fr.refl (fun _ _ => False) w).alloc (.cells #[.int .i64 f, .bool n, .int .i32 e, .string s] 24)
  have HB := Aside.mk B1
  have HF := Aside.mk F1
  clear h hn g B1 F1
  go_enter Tryz.func5, Tryz.ntmps5
  go_wp2_with fail
  refine (HZ.out _).mono ?_
  rintro e1 w2 ⟨rfl, k2⟩
  obtain ⟨d0, d1, d2, d3, _⟩ := E8.of (HB.out.fr k2 (fun _ q => q))
  have K2 := Aside.mk (HF.out.trans k2)
  clear k2 HZ
  go_wp2_with fail
  refine (hC.out _).mono ?_
  rintro e1 w3 ⟨rfl, k3⟩
  have K3 := Aside.mk (K2.out.trans k3)
  clear k3 hC
  go_wp2_with fail
  refine (hA.out _ K3.out).mono ?_
  rintro e1 w5 ⟨rfl, k5⟩
  have F5 := Aside.mk (K3.out.trans k5)
  clear k5
  go_wp2_with fail
  go_ret
  exact ⟨rfl, F5.out⟩
theorem D4.setForm {w : World} {b : Nat} {f f' e : Int} {n : Bool} {s : ByteArray} (h : D4 w b f n e s) : D4 (w.setCell ⟨b, 0, none⟩ (.int .i64 f')) b f' n e s :=
  ⟨h.c0.set _, h.c1.other b 0 _ (by omega), h.c2.other b 0 _ (by omega), h.c3.other b 0 _ (by omega)⟩
set_option maxRecDepth 100000 in
set_option maxHeartbeats 2000000 in
theorem fnDecompose_oth {w : World} {f : Nat} {fo F : Int} {n : Bool} {s : ByteArray} (g : Gv w) (hs : s.size ≤ 300) (hf : (f = 1 ∧ fo = 1 ∧ F = 1) ∨ (f = 2 ∧ fo = 2 ∧ F = 3) ∨ (f = 3 ∧ fo = 2 ∧ F = 3))
    (HT : Hid (∀ w1, Fr (fun _ _ => False) w w1 → Calls Tryz.prog 13 #[.agg #[.int .i64 f, .bool n, .int .i32 0, .string s]] w1 fun e1 w' => ∃ a c, e1 = .returned (.agg #[.int .u8 fo, .bool n, .slice a 0 c, .int .i32 0]) ∧ Fr (fun _ _ => False) w1 w'))
    (HP : Hid (∀ w1 a c, Fr (fun _ _ => False) w w1 → Calls Tryz.prog 14 #[.agg #[.int .u8 fo, .bool n, .slice a 0 c, .int .i32 0]] w1 fun e1 w' => e1 = .returned (.tuple #[.agg #[.int .i64 F, .bool n, .int .i32 0, .string s], .bool true]) ∧ Fr (fun _ _ => False) w1 w')) :
    Calls Tryz.prog 5 #[.agg #[.int .i64 f, .bool n, .int .i32 0, .string s]] w fun e1 w' => e1 = .returned (.bool true) ∧ Fr (fun _ _ => False) w w' := by
  have HZ := Lib.hid (fun w1 => zz_small (w := w1) (f := f) (e := 0) (n := n) (s := s) (by omega))
  have hC : Hid (∀ w1, Calls Tryz.prog 7 #[.agg #[.int .i64 f, .bool n, .int .i32 0, .string s]] w1 fun e1 w' => Fr (fun _ _ => False) w1 w' ∧ (e1 = .returned (.bool false) ∨ e1 = .returned (.bool true))) := Lib.hid (fun w1 => by
    refine (clear_any (w := w1)).mono ?_
    rintro e1 w2 ⟨k, rfl | ⟨rfl, q⟩⟩
    · exact ⟨k, .inl rfl⟩
    · exact ⟨k, .inr rfl⟩)
  have hA : Hid (∀ w1, Fr (fun _ _ => False) w w1 → Calls Tryz.prog 8 #[] w1 fun e1 w2 => e1 = .returned (.bool true) ∧ Fr (fun _ _ => False) w1 w2) := Lib.hid (fun w1 q => alive (g.new q))
  have B1 := D4.new (w := w) f 0 n s 24
  have F1 := (Fr.refl (fun _ _ => False) w).alloc (.cells #[.int .i64 f, .bool n, .int .i32 0, .string s] 24)
  have HB := Aside.mk B1
  have HF := Aside.mk F1
  have hq := fun w => eql_dec w F 0 n s
  obtain ⟨d0, d1, d2, d3, _⟩ := E8.of B1
  clear g B1 F1 hs
  go_enter Tryz.func5, Tryz.ntmps5
  go_wp2_with fail
  refine (HZ.out _).mono ?_
  rintro e1 w2 ⟨rfl, k2⟩
  have B2 := HB.out.fr k2 (fun _ q => q)
  have K2 := Aside.mk (HF.out.trans k2)
  have HB2 := Aside.mk B2
  obtain ⟨d0, d1, d2, d3, _⟩ := E8.of B2
  clear k2 B2 HZ
  go_wp2_with fail
  refine (hC.out _).mono ?_
  rintro e1 w3 ⟨k3, rfl | rfl⟩
  · have K3 := Aside.mk (K2.out.trans k3)
    clear k3 hC
    go_wp2_with fail
    refine (hA.out _ K3.out).mono ?_
    rintro e1 w5 ⟨rfl, k5⟩
    have F5 := Aside.mk (K3.out.trans k5)
    clear k5
    go_wp2_with fail
    go_ret
    exact ⟨rfl, F5.out⟩
  have B3 := HB2.out.fr k3 (fun _ q => q)
  have K3 := Aside.mk (K2.out.trans k3)
  have HB3 := Aside.mk B3
  obtain ⟨d0, d1, d2, d3, _⟩ := E8.of B3
  clear k3 B3 hC
  go_wp2_with fail
  refine (HT.out _ K3.out).mono ?_
  rintro e1 w4 ⟨aC, cC, rfl, k4⟩
  have A4 := (Fr.refl (fun _ _ => False) w4).alloc (.cells #[.int .u8 fo, .bool n, .slice aC 0 cC, .int .i32 0] 40)
  have L4 := P4.new (w := w4) fo n aC 0 cC 0 40
  have HB4 := Aside.mk (HB3.out.fr (k4.trans A4) (fun _ q => q))
  have K4 := Aside.mk ((K3.out.trans k4).trans A4)
  have HL4 := Aside.mk L4
  have HP4 : Aside (w.heap.size < w4.heap.size) := ⟨Nat.lt_of_lt_of_le HB3.out.c0.lt k4.size⟩
  obtain ⟨⟨x0, _⟩, ⟨x1, _⟩, ⟨x2, _⟩, ⟨x3, _⟩⟩ := L4
  clear k4 HT A4 d0 d1 d2 d3
  go_wp2_with fail
  refine (HP.out _ _ _ K4.out).mono ?_
  rintro e1 w6 ⟨rfl, k6⟩
  have A6 := (Fr.refl (fun _ _ => False) w6).alloc (.cells #[.int .i64 F, .bool n, .int .i32 0, .string s] 24)
  have L6 := D4.new (w := w6) F 0 n s 24
  have K6 := Aside.mk ((K4.out.trans k6).trans A6)
  have HB6 := Aside.mk (HB4.out.fr (k6.trans A6) (fun _ q => q))
  have HL5 := Aside.mk (HL4.out.fr (k6.trans A6) (fun _ q => q))
  have HL6 := Aside.mk L6
  have HP6 : Aside (w4.heap.size < w6.heap.size) := ⟨by have := k6.size; rw [World.size_alloc] at this; omega⟩
  obtain ⟨d0, d1, d2, d3, _⟩ := E8.of HB6.out
  clear k6 A6 L6 HP x0 x1 x2 x3 HB4 HL4
  rcases hf with ⟨rfl, rfl, rfl⟩ | ⟨rfl, rfl, rfl⟩ | ⟨rfl, rfl, rfl⟩
  · go_wp2_with fail
    refine (hA.out _ K6.out).mono ?_
    rintro e1 w7 ⟨rfl, k7⟩
    obtain ⟨a0, a1, a2, a3, _⟩ := E8.of (HB6.out.fr k7 (fun _ q => q))
    obtain ⟨b0, b1, b2, b3, _⟩ := E8.of (HL6.out.fr k7 (fun _ q => q))
    obtain ⟨⟨x0, _⟩, ⟨x1, _⟩, ⟨x2, _⟩, ⟨x3, _⟩⟩ := HL5.out.fr k7 (fun _ q => q)
    have hq7 := hq w7
    have F7 := Aside.mk (K6.out.trans k7)
    clear k7 hA hq d0 d1 d2 d3
    go_wp2_with fail
    go_ret
    exact ⟨rfl, F7.out⟩
  all_goals
    go_wp2_with fail
    have hst : ∀ v, Fr (fun b _ => b = w.heap.size) (w6.alloc (.cells #[.int .i64 3, .bool n, .int .i32 0, .string s] 24)) ((w6.alloc (.cells #[.int .i64 3, .bool n, .int .i32 0, .string s] 24)).setCell ⟨w.heap.size, 0, none⟩ v) := fun v => (Fr.refl _ _).setCell w.heap.size 0 v (fun _ => rfl)
    have L5 := HL5.out.fr (hst (.int .i64 3)) (fun _ q => by have := HP4.out; omega)
    have L6 := HL6.out.fr (hst (.int .i64 3)) (fun _ q => by have := HP4.out; have := HP6.out; omega)
    have B6 := HB6.out.setForm (f' := 3)
    refine (hA.out _ (K6.out.setCell w.heap.size 0 _ (fun q => absurd q (Nat.lt_irrefl _)))).mono ?_
    rintro e1 w7 ⟨rfl, k7⟩
    obtain ⟨a0, a1, a2, a3, _⟩ := E8.of (B6.fr k7 (fun _ q => q))
    obtain ⟨b0, b1, b2, b3, _⟩ := E8.of (L6.fr k7 (fun _ q => q))
    obtain ⟨⟨x0, _⟩, ⟨x1, _⟩, ⟨x2, _⟩, ⟨x3, _⟩⟩ := L5.fr k7 (fun _ q => q)
    have hq7 := hq w7
    have F7 := Aside.mk ((K6.out.setCell w.heap.size 0 _ (fun q => absurd q (Nat.lt_irrefl _))).trans k7)
    clear k7 hA hq d0 d1 d2 d3 B6 L5 L6 hst
    go_wp2_with fail
    go_ret
    exact ⟨rfl, F7.out⟩
/-- What stands in the law's boxes. -/
structure LB (w : World) (p q r : Nat) (n : Bool) (e : Int) (s : ByteArray) (aC : Option Addr) (lC cC : Nat) (aN : Option Addr) (mN cN : Nat) : Prop where
  d : D4 w p 0 n e s
  x : P4 w q 0 n aC lC cC e
  n0 : Cl w r 0 (.bool false)
  n1 : Cl w r 1 (.slice aN mN cN)
theorem LB.fr {w w' : World} {p q r : Nat} {n : Bool} {e : Int} {s : ByteArray} {aC aN : Option Addr} {lC cC mN cN : Nat} (h : LB w p q r n e s aC lC cC aN mN cN) (f : Fr (fun _ _ => False) w w') : LB w' p q r n e s aC lC cC aN mN cN :=
  ⟨h.d.fr f (fun _ q => q), h.x.fr f (fun _ q => q), h.n0.fr f (fun q => q), h.n1.fr f (fun q => q)⟩
def LC (w : World) (p q r : Nat) (n : Bool) (e : Int) (s : ByteArray) (aC : Option Addr) (lC cC : Nat) (aN : Option Addr) (mN cN : Nat) : Prop :=
  (w.cell? ⟨p, 0, none⟩ = some (.int .i64 0) ∧ w.cell? ⟨p, 1, none⟩ = some (.bool n) ∧ w.cell? ⟨p, 2, none⟩ = some (.int .i32 e) ∧ w.cell? ⟨p, 3, none⟩ = some (.string s)) ∧
  (w.cell? ⟨q, 0, none⟩ = some (.int .u8 0) ∧ w.cell? ⟨q, 1, none⟩ = some (.bool n) ∧ w.cell? ⟨q, 2, none⟩ = some (.slice aC lC cC) ∧ w.cell? ⟨q, 3, none⟩ = some (.int .i32 e)) ∧
  (w.cell? ⟨r, 0, none⟩ = some (.bool false) ∧ w.cell? ⟨r, 1, none⟩ = some (.slice aN mN cN))
theorem LB.c {w : World} {p q r : Nat} {n : Bool} {e : Int} {s : ByteArray} {aC aN : Option Addr} {lC cC mN cN : Nat} (h : LB w p q r n e s aC lC cC aN mN cN) : LC w p q r n e s aC lC cC aN mN cN :=
  ⟨⟨h.d.c0.cell, h.d.c1.cell, h.d.c2.cell, h.d.c3.cell⟩, ⟨h.x.c0.cell, h.x.c1.cell, h.x.c2.cell, h.x.c3.cell⟩, h.n0.cell, h.n1.cell⟩
set_option maxRecDepth 100000 in
set_option maxHeartbeats 4000000 in
theorem fnDecompose_fin {w : World} {e : Int} {n : Bool} {s : ByteArray} (g : Gv w) (hdg : Digs s.data.toList) (h0 : 0 < s.size) (hs : s.size ≤ 300) (hT : mk (natText (numOf s.data.toList)) = s) :
    Calls Tryz.prog 5 #[.agg #[.int .i64 0, .bool n, .int .i32 e, .string s]] w fun e1 w' => e1 = .returned (.bool true) ∧ Fr (fun _ _ => False) w w' := by
  have HZ := Lib.hid (fun w1 => zz_small (w := w1) (f := 0) (e := e) (n := n) (s := s) (by omega))
  have hC : Hid (∀ w1, Calls Tryz.prog 7 #[.agg #[.int .i64 0, .bool n, .int .i32 e, .string s]] w1 fun e1 w' => Fr (fun _ _ => False) w1 w' ∧ (e1 = .returned (.bool false) ∨ e1 = .returned (.bool true))) := Lib.hid (fun w1 => by
    refine (clear_any (w := w1)).mono ?_
    rintro e1 w2 ⟨k, rfl | ⟨rfl, q⟩⟩
    · exact ⟨k, .inl rfl⟩
    · exact ⟨k, .inr rfl⟩)
  have hA : Hid (∀ w1, Fr (fun _ _ => False) w w1 → Calls Tryz.prog 8 #[] w1 fun e1 w2 => e1 = .returned (.bool true) ∧ Fr (fun _ _ => False) w1 w2) := Lib.hid (fun w1 q => alive (g.new q))
  have HT := Lib.hid (fun w1 (q : Fr (fun _ _ => False) w w1) => decomposeI_fin (w := w1) (e := e) (n := n) (g.new q) hdg h0 hs)
  have hsm : Sm (numOf s.data.toList) := sm_digs hdg (by have : s.data.toList.length = s.size := rfl
                                                         omega)
  have HP : Hid (∀ w1 a c (l : List UInt8), Fr (fun _ _ => False) w w1 → RdB w1 a l.length c l → l.length ≤ 8 * 16 → beN l = numOf s.data.toList → Calls Tryz.prog 14 #[.agg #[.int .u8 0, .bool n, .slice a l.length c, .int .i32 e]] w1 fun e1 w' => e1 = .returned (.tuple #[.agg #[.int .i64 0, .bool n, .int .i32 e, .string s], .bool true]) ∧ Fr (fun _ _ => False) w1 w') := Lib.hid (fun w1 a c l f hB hl hb => by
    have := composeI_fin (w := w1) (n := n) (e := e) (by rw [hb]; exact hsm) (g.new f) hB (by omega)
    rwa [hb, hT] at this)
  have HDG := Lib.hid (fun w1 (q : Fr (fun _ _ => False) w w1) => digits_any (w := w1) (Nat.le_trans g.g.size q.size) hdg h0 (by omega))
  have hG : ∀ w1, Fr (fun _ _ => False) w w1 → NG ≤ w1.heap.size := fun w1 q => Nat.le_trans g.g.size q.size
  have HG := Aside.mk hG
  have HS := Aside.mk hs
  have B1 := D4.new (w := w) 0 e n s 24
  have F1 := (Fr.refl (fun _ _ => False) w).alloc (.cells #[.int .i64 0, .bool n, .int .i32 e, .string s] 24)
  have HB := Aside.mk B1
  have HF := Aside.mk F1
  have hq := fun w => eql_dec w 0 e n s
  obtain ⟨d0, d1, d2, d3, _⟩ := E8.of B1
  obtain ⟨X, hX⟩ : ∃ X, numOf s.data.toList = X := ⟨_, rfl⟩
  rw [hX] at HT HP HDG
  clear g B1 F1 hs hdg h0 hT hsm hG hX
  go_enter Tryz.func5, Tryz.ntmps5
  go_wp2_with fail
  refine (HZ.out _).mono ?_
  rintro e1 w2 ⟨rfl, k2⟩
  have B2 := HB.out.fr k2 (fun _ q => q)
  have K2 := Aside.mk (HF.out.trans k2)
  have HB2 := Aside.mk B2
  obtain ⟨d0, d1, d2, d3, _⟩ := E8.of B2
  clear k2 B2 HZ
  go_wp2_with fail
  refine (hC.out _).mono ?_
  rintro e1 w3 ⟨k3, rfl | rfl⟩
  · have K3 := Aside.mk (K2.out.trans k3)
    clear k3 hC
    go_wp2_with fail
    refine (hA.out _ K3.out).mono ?_
    rintro e1 w5 ⟨rfl, k5⟩
    have F5 := Aside.mk (K3.out.trans k5)
    clear k5
    go_wp2_with fail
    go_ret
    exact ⟨rfl, F5.out⟩
  have B3 := HB2.out.fr k3 (fun _ q => q)
  have K3 := Aside.mk (K2.out.trans k3)
  have HB3 := Aside.mk B3
  obtain ⟨d0, d1, d2, d3, _⟩ := E8.of B3
  clear k3 B3 hC
  go_wp2_with fail
  refine (HT.out _ K3.out).mono ?_
  rintro e1 w4 ⟨aC, cC, l, rfl, hRB, hlb, k4⟩
  have A4 := (Fr.refl (fun _ _ => False) w4).alloc (.cells #[.int .u8 0, .bool n, .slice aC l.length cC, .int .i32 e] 40)
  have L4 := P4.new (w := w4) 0 n aC l.length cC e 40
  have HB4 := Aside.mk (HB3.out.fr (k4.trans A4) (fun _ q => q))
  have K4 := Aside.mk ((K3.out.trans k4).trans A4)
  have HL4 := Aside.mk L4
  have HRB := Aside.mk (hRB.fr A4)
  have HLB := Aside.mk hlb
  obtain ⟨⟨x0, _⟩, ⟨x1, _⟩, ⟨x2, _⟩, ⟨x3, _⟩⟩ := L4
  clear k4 HT A4 d0 d1 d2 d3 hRB hlb
  have HP2 := Lib.hid (HP.out _ _ _ _ K4.out HRB.out HLB.out.1 HLB.out.2)
  obtain ⟨lC, hlC⟩ : ∃ n, l.length = n := ⟨_, rfl⟩
  rw [hlC] at HL4 HP2 HRB K4 HB4 x0 x1 x2 x3 ⊢
  clear HP
  go_wp2_with fail
  refine HP2.out.mono ?_
  rintro e1 w6 ⟨rfl, k6⟩
  have A6 := (Fr.refl (fun _ _ => False) w6).alloc (.cells #[.int .i64 0, .bool n, .int .i32 e, .string s] 24)
  have L6 := D4.new (w := w6) 0 e n s 24
  have K6 := Aside.mk ((K4.out.trans k6).trans A6)
  have HB6 := Aside.mk (HB4.out.fr (k6.trans A6) (fun _ q => q))
  have HL5 := Aside.mk (HL4.out.fr (k6.trans A6) (fun _ q => q))
  have HRB6 := Aside.mk (HRB.out.fr (k6.trans A6))
  have HL6 := Aside.mk L6
  obtain ⟨d0, d1, d2, d3, _⟩ := E8.of HB6.out
  clear k6 A6 L6 HP2 x0 x1 x2 x3 HB4 HL4 HRB
  go_wp2_with fail
  refine (HDG.out _ K6.out).mono ?_
  rintro e1 w7 ⟨aN, mN, cN, rfl, hmN, kb, k7⟩
  obtain ⟨p, hp⟩ : ∃ p, w.heap.size = p := ⟨_, rfl⟩
  obtain ⟨q, hqq⟩ : ∃ p, w4.heap.size = p := ⟨_, rfl⟩
  obtain ⟨r, hr⟩ : ∃ p, w7.heap.size = p := ⟨_, rfl⟩
  obtain ⟨t, ht⟩ : ∃ p, w6.heap.size = p := ⟨_, rfl⟩
  obtain ⟨w8, hw8⟩ : ∃ x, w7.alloc (.cells #[.bool false, .slice aN mN cN] 45) = x := ⟨_, rfl⟩
  have A8 : Fr (fun _ _ => False) w7 w8 := by rw [← hw8]; exact (Fr.refl _ w7).alloc _
  have hLB : LB w8 p q r n e s aC lC cC aN mN cN := by
    have e0 : (w7.alloc (.cells #[.bool false, .slice aN mN cN] 45)).cell? ⟨w7.heap.size, 0, none⟩ = some (.bool false) := by rw [World.cell?_alloc_new]; rfl
    have e1 : (w7.alloc (.cells #[.bool false, .slice aN mN cN] 45)).cell? ⟨w7.heap.size, 1, none⟩ = some (.slice aN mN cN) := by rw [World.cell?_alloc_new]; rfl
    have ek := kind_alloc_new w7 #[.bool false, .slice aN mN cN] 45 (0, 0)
    rw [hw8, hr] at e0 e1 ek
    exact ⟨hp ▸ HB6.out.fr (k7.trans A8) (fun _ q => q), hqq ▸ HL5.out.fr (k7.trans A8) (fun _ q => q), ⟨e0, free_of_kind ek 0⟩, ⟨e1, free_of_kind ek 1⟩⟩
  have K8 := Aside.mk ((K6.out.trans k7).trans A8)
  have HL8 : Aside (D4 w8 t 0 n e s) := ⟨ht ▸ HL6.out.fr (k7.trans A8) (fun _ q => q)⟩
  have HLB8 := Aside.mk hLB
  have HFB : Hid (∀ w1, Fr (fun _ _ => False) w8 w1 → Calls Tryz.prog 16 #[.slice aC lC cC] w1 fun e1 w2 => ∃ a m c, e1 = .returned (.agg #[.bool false, .slice a m c]) ∧ LC w2 p q r n e s aC lC cC aN mN cN ∧
      Hid (∀ w3, Fr (fun _ _ => False) w2 w3 → Calls Tryz.prog 17 #[.agg #[.bool false, .slice a m c], .agg #[.bool false, .slice aN mN cN]] w3 fun e1 w4 => e1 = .returned (.int .i64 0) ∧ LC w4 p q r n e s aC lC cC aN mN cN ∧ Aside (Fr (fun _ _ => False) w8 w4))) := Lib.hid (fun w1 f => by
    refine (fromBig_any (HG.out _ (K8.out.trans f)) (HRB6.out.fr ((k7.trans A8).trans f)) (by have := HLB.out.1; omega)).mono ?_
    rintro e1 w2 ⟨a, m, c, rfl, hm, z1, z2⟩
    refine ⟨a, m, c, rfl, (hLB.fr (f.trans z2)).c, Lib.hid (fun w3 f3 => ?_)⟩
    have hlen : l.length ≤ 8 * 16 := HLB.out.1
    have cc := ncmp_any (w := w3) false false (z1.fr f3 (fun _ _ _ q => q)) (kb.fr ((A8.trans f).trans (z2.trans f3)) (fun _ _ _ q => q)) (by omega) (by have := HS.out; omega)
    have hz : cmpS false (beN l) false X = 0 := by
      rw [HLB.out.2]
      simp [cmpS, sg]
    rw [hz] at cc
    refine cc.mono ?_
    rintro e1 w4 ⟨rfl, f4⟩
    have ff := (f.trans z2).trans (f3.trans f4)
    exact ⟨rfl, (hLB.fr ff).c, ⟨ff⟩⟩)
  have H9 : Hid (∀ w1, Fr (fun _ _ => False) w8 w1 → Calls Tryz.prog 8 #[] w1 fun e1 w2 => e1 = .returned (.bool true) ∧ LC w2 p q r n e s aC lC cC aN mN cN ∧ E8 w2 t 0 n e s ∧ (binOp .eql 24 (.agg #[.int .i64 0, .bool n, .int .i32 e, .string s]) (.agg #[.int .i64 0, .bool n, .int .i32 e, .string s])).run Tryz.prog w2 = .ok (.bool true) w2 ∧ Aside (Fr (fun _ _ => False) w w2)) := Lib.hid (fun w1 f => by
    refine (hA.out w1 (K8.out.trans f)).mono ?_
    rintro e1 w2 ⟨rfl, k⟩
    exact ⟨rfl, (hLB.fr (f.trans k)).c, E8.of (HL8.out.fr (f.trans k) (fun _ q => q)), hq w2, ⟨K8.out.trans (f.trans k)⟩⟩)
  obtain ⟨⟨d0, d1, d2, d3⟩, ⟨x0, x1, x2, x3⟩, n0, n1⟩ := hLB.c
  clear k7 A8 hLB kb HDG hmN hA hq HB HF HB2 HB3
  go_upto_region 13 with fail
  try rw [hw8]
  try rw [hr]
  try rw [hp]
  try rw [hqq]
  try rw [ht]
  clear hw8 hr hp hqq ht
  go_wp2_with fail
  go_region_with (first
      | (go_at_call 16; go_must (refine (HFB.out _ (by repeat first | exact Fr.refl _ _ | refine Fr.drewN ?_ _ | refine Fr.drew ?_)).mono ?_; rintro e1 w9 ⟨aB, mB, cB, rfl, ⟨⟨a0, a1, a2, a3⟩, ⟨b0, b1, b2, b3⟩, c0, c1⟩, H10⟩))
      | (go_at_call 17; go_must (refine (H10.out _ (by repeat first | exact Fr.refl _ _ | refine Fr.drewN ?_ _ | refine Fr.drew ?_)).mono ?_; rintro e1 w10 ⟨rfl, ⟨⟨a0, a1, a2, a3⟩, ⟨b0, b1, b2, b3⟩, c0, c1⟩, F8⟩)))
  all_goals
    clear H10 HFB
    go_wp2_with fail
    refine (H9.out _ (by repeat first | exact F8.out | refine Fr.drewN ?_ _ | refine Fr.drew ?_)).mono ?_
    clear a0 a1 a2 a3 b0 b1 b2 b3 c0 c1
    rintro e1 w11 ⟨rfl, ⟨⟨a0, a1, a2, a3⟩, ⟨b0, b1, b2, b3⟩, c0, c1⟩, ⟨d0, d1, d2, d3, _⟩, hq9, F9⟩
    clear H9
    go_wp2_with fail
    go_ret
    exact ⟨rfl, F9.out⟩
theorem fnDecompose_any {w : World} {f e : Int} {n : Bool} {s : ByteArray} (g : Gv w) : Calls Tryz.prog 5 #[.agg #[.int .i64 f, .bool n, .int .i32 e, .string s]] w fun e1 w' => e1 = .returned (.bool true) ∧ Fr (fun _ _ => False) w w' := by
  by_cases hz : s.size ≤ 2147483647
  case neg => exact fnDecompose_big hz
  by_cases hc : ClearP f e s
  case neg => exact fnDecompose_not g hz hc
  obtain ⟨hdg, hp, h300, hfr, hnt, he, hnf⟩ := hc.all
  by_cases hf : f = 0
  · subst hf
    exact fnDecompose_fin g hdg hp h300 (by rw [hnt]; exact (mk_of s).symm)
  · obtain ⟨h48, rfl⟩ := hnf hf
    have hs0 : mk (natText 0) = s := by
      rw [natText_zero, ← h48]
      exact (mk_of s).symm
    have hk : f = 1 ∨ f = 2 ∨ f = 3 := by omega
    rcases hk with rfl | rfl | rfl
    · refine fnDecompose_oth (f := 1) (fo := 1) (F := 1) g h300 (by omega) (Lib.hid (fun w1 q => (decomposeI_inf (g.new q) hdg hp h300).mono ?_)) (Lib.hid (fun w1 a c q => ?_))
      · rintro e1 w2 ⟨a, c, l, rfl, _, rfl, k⟩
        exact ⟨a, c, rfl, k⟩
      · have := composeI_inf (w := w1) (n := n) (a := a) (c := c) (g.new q)
        rwa [hs0] at this
    · refine fnDecompose_oth (f := 2) (fo := 2) (F := 3) g h300 (by omega) (Lib.hid (fun w1 q => (decomposeI_nan 2 (by omega) (g.new q) hdg hp h300).mono ?_)) (Lib.hid (fun w1 a c q => ?_))
      · rintro e1 w2 ⟨a, c, l, rfl, _, rfl, k⟩
        exact ⟨a, c, rfl, k⟩
      · have := composeI_nan (w := w1) (n := n) (a := a) (c := c) (g.new q)
        rwa [hs0] at this
    · refine fnDecompose_oth (f := 3) (fo := 2) (F := 3) g h300 (by omega) (Lib.hid (fun w1 q => (decomposeI_nan 3 (by omega) (g.new q) hdg hp h300).mono ?_)) (Lib.hid (fun w1 a c q => ?_))
      · rintro e1 w2 ⟨a, c, l, rfl, _, rfl, k⟩
        exact ⟨a, c, rfl, k⟩
      · have := composeI_nan (w := w1) (n := n) (a := a) (c := c) (g.new q)
        rwa [hs0] at this
end Go.Proofs.YtgilnnipephfjaaGreatDoor
