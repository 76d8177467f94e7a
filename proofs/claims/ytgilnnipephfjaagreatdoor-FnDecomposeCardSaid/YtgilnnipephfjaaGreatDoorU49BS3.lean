/- SetBytes of Int and BigInt; Decimal.Compose of a finite one. -/
import Derived.Test.YtgilnnipephfjaaGreatDoorU48BS2
import Derived.Test.YtgilnnipephfjaaGreatDoorM26Dec3
set_option linter.unusedSimpArgs false
set_option linter.unusedVariables false
namespace Go.Proofs.YtgilnnipephfjaaGreatDoor
open Go.RowKit

set_option maxRecDepth 100000 in
theorem iSetBytes_any {b o : Nat} {neg : Bool} {w : World} {a : Option Addr} {nb cb : Nat} {l : List UInt8} (hG : NG ≤ w.heap.size) (h : IA w b o neg none 0 0) (hb : Bf w a nb cb l) (hn : nb ≤ 100000) :
    Calls Tryz.prog 108 #[.pointer (some ⟨b, o, none⟩), .slice a nb cb] w fun e w' => ∃ a' c', e = .returned (.pointer (some ⟨b, o, none⟩)) ∧ IA w' b o false a' c' (beN l) ∧ Fr (ifoot b o none 0) w w' ∧ Out w none 0 a' c' := by
  have hS := Lib.hid (setBytes_all hG hb hn)
  have hn' := h.neg
  have ha := h.abs
  rw [nlen_zero] at ha
  have HI := Aside.mk h
  clear h hb hn hG
  go_enter Tryz.func108, Tryz.ntmps108
  go_wp2_with fail
  refine hS.out.mono ?_
  rintro e w1 ⟨a', c', rfl, s1, s2, s3⟩
  have s2' : Fr (foot none 0) w w1 := s2.mono (fun _ _ _ q => q.elim)
  have M := Aside.mk (HI.out.made false s1 s2' s3)
  have HO := Aside.mk s3
  obtain ⟨k1, k2, k3, k4⟩ := HI.out.open HI.out.nt.reg s2'
  rw [nlen_zero] at k2
  clear s1 s2 s3 s2' hn' ha
  go_wp2_with fail
  go_ret
  exact ⟨a', c', rfl, M.out.1, M.out.2, HO.out⟩
set_option maxRecDepth 100000 in
theorem bSetBytes_any {b o : Nat} {neg : Bool} {w : World} {a : Option Addr} {nb cb : Nat} {l : List UInt8} (hG : NG ≤ w.heap.size) (h : IA w b o neg none 0 0) (hb : Bf w a nb cb l) (hn : nb ≤ 100000) :
    Calls Tryz.prog 77 #[.pointer (some ⟨b, o, none⟩), .slice a nb cb] w fun e w' => ∃ a' c', e = .returned (.pointer (some ⟨b, o, none⟩)) ∧ IA w' b o false a' c' (beN l) ∧ Fr (ifoot b o none 0) w w' ∧ Out w none 0 a' c' := by
  have H := Lib.hid (iSetBytes_any hG h hb hn)
  clear h hb hn
  go_enter Tryz.func77, Tryz.ntmps77
  go_wp2_with fail
  refine H.out.mono ?_
  rintro e w1 ⟨a', c', rfl, s⟩
  have S := Aside.mk s
  clear s H
  go_wp2_with fail
  go_ret
  exact ⟨a', c', rfl, S.out⟩
set_option maxRecDepth 100000 in
set_option maxHeartbeats 1000000 in
theorem compose_any {z : Nat} {neg0 : Bool} {e0 : Int} {w : World} {a : Option Addr} {nb cb : Nat} {l : List UInt8} (n : Bool) (e : Int) (hG : NG ≤ w.heap.size) (h : DA w z 0 neg0 e0 none 0 0) (hb : Bf w a nb cb l) (hn : nb ≤ 100000) (hz : ∀ x y, foot a cb x y → x ≠ z) :
    Calls Tryz.prog 43 #[.pointer (some ⟨z, 0, none⟩), .int .u8 0, .bool n, .slice a nb cb, .int .i32 e] w fun e1 w' => ∃ a' c', e1 = .returned .nilIface ∧ DA w' z 0 n e a' c' (beN l) ∧ Fr (fun x _ => x = z) w w' ∧ Out w none 0 a' c' := by
  have D1 := (h.setForm 0).setNeg n
  have F1 : Fr (fun x _ => x = z) w ((w.setCell ⟨z, 0, none⟩ (.int .i8 0)).setCell ⟨z, 1, none⟩ (.bool n)) := ((Fr.refl _ w).setCell z 0 _ (fun _ => rfl)).setCell z 1 _ (fun _ => rfl)
  have HB := Lib.hid (bSetBytes_any (Nat.le_trans hG F1.size) D1.num (hb.fr F1 (fun x y q1 q2 => hz x y q1 q2)) hn)
  have HD1 := Aside.mk D1
  have HF1 := Aside.mk F1
  have y0 := h.form
  have y1 := h.neg
  have y2 := h.exp
  have f0 := h.num.blk.free 0
  have f1 := h.num.blk.free 1
  have f2 := h.num.blk.free 2
  clear h hb hz D1 F1 hn
  go_enter Tryz.func43, Tryz.ntmps43
  go_wp2_with fail
  refine HB.out.mono ?_
  rintro e1 w1 ⟨a', c', rfl, k1, k2, k3⟩
  have D2 := HD1.out.put k1 k2
  have F2 : Fr (fun x _ => x = z) w w1 := HF1.out.trans' k2 (fun _ _ _ q => q) (fun x y hx q => by
    rcases q with ⟨q, _⟩ | q
    · exact q
    · exact absurd q (foot_none _ _ _))
  have K := Aside.mk (And.intro D2 (And.intro F2 (k3.older (w := w) HF1.out.size)))
  have z2 := D2.exp
  have g2 := D2.num.blk.free 2
  clear D2 F2 k1 k2 k3 HB y0 y1 y2 f0 f1 f2
  go_wp2_with fail
  go_ret
  exact ⟨a', c', rfl, K.out.1.setExp e, K.out.2.1.setCell z 2 _ (fun _ => rfl), K.out.2.2⟩
end Go.Proofs.YtgilnnipephfjaaGreatDoor
