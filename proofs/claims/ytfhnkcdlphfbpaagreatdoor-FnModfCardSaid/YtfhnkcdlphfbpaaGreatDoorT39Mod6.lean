/- Decimal.Modf with one of its two results alone: its roads without division. Decimal.Modf by division, the whole part alone. Decimal.Modf by division, the part alone. -/
import Derived.Test.YtfhnkcdlphfbpaaGreatDoorT38Mod3
import Derived.Test.YtfhnkcdlphfbpaaGreatDoorT37Quo5
set_option linter.unusedSimpArgs false
set_option linter.unusedVariables false
namespace Go.Proofs.YtfhnkcdlphfbpaaGreatDoor
open Go.RowKit

set_option maxRecDepth 100000 in
set_option maxHeartbeats 2000000 in
theorem modf_whole_i {w : World} {b b1 : Nat} {f f1 : Int} {n n1 : Bool} {e e1 : Int} {a a1 : Option Addr} {c c1 X X1 : Nat} (hG : NG ≤ w.heap.size) (h : DA w b f n e a c X) (h1 : DA w b1 f1 n1 e1 a1 c1 X1)
    (he : 0 < e) (ap1 : DAp b1 a1 c1 b a c) (hn : nlen X < 900000) :
    Calls Tryz.prog 35 #[.pointer (some ⟨b, 0, none⟩), .pointer (some ⟨b1, 0, none⟩), .pointer none] w fun ex w' => ∃ a3 c3, ex = .returned (.tuple #[]) ∧
      Aside (DA w' b1 f n e a3 c3 X ∧ Fr (dfoot b1 a1 c1) w w' ∧ Out w a1 c1 a3 c3) := by
  have H2 := Lib.hid (dSet_other hG h1 h ap1 hn)
  have x0 := h.neg
  have x1 := h.exp
  clear h h1 ap1
  go_enter Tryz.func35, Tryz.ntmps35
  go_wp2_with fail
  refine H2.out.mono ?_
  rintro ex w2 ⟨a3, c3, rfl, k⟩
  have K := Aside.mk k
  clear H2 k
  go_wp2_with fail
  (try simp only [Exit.inBlock, Exit.then])
  refine bodyPost_ret (results_none rfl _ _ _) rfl ?_
  exact ⟨a3, c3, rfl, K⟩
set_option maxRecDepth 100000 in
set_option maxHeartbeats 2000000 in
theorem modf_whole_f {w : World} {b b2 : Nat} {f f2 : Int} {n n2 : Bool} {e e2 : Int} {a a2 : Option Addr} {c c2 X X2 : Nat} (hG : NG ≤ w.heap.size) (h : DA w b f n e a c X) (h2 : DA w b2 f2 n2 e2 a2 c2 X2)
    (he : 0 < e) (ap2 : DAp b2 a2 c2 b a c) :
    Calls Tryz.prog 35 #[.pointer (some ⟨b, 0, none⟩), .pointer none, .pointer (some ⟨b2, 0, none⟩)] w fun ex w' => ∃ a4 c4, ex = .returned (.tuple #[]) ∧
      Aside (DA w' b2 f2 n 0 a4 c4 0 ∧ Fr (dfoot b2 a2 c2) w w' ∧ Out w a2 c2 a4 c4) := by
  have hb2 : ¬ b2 = b := fun k => ap2 b2 0 (.inl rfl) (.inl k)
  have hb2' : ¬ b = b2 := fun k => hb2 k.symm
  have D2 := Aside.mk ((h2.setNeg n).setExp 0)
  have F2 := Aside.mk (((Fr.refl (dfoot b2 a2 c2) w).setD 1 (.bool n)).setD 2 (.int .i32 0))
  have H1 := Lib.hid (bSetInt64 0 (Nat.le_trans hG F2.out.size) D2.out.num (by omega) (by omega))
  have x0 := h.neg
  have x1 := h.exp
  have z1 := h2.neg
  have z2 := h2.exp
  have g1 := h2.num.blk.free 1
  have g2 := h2.num.blk.free 2
  clear h h2 ap2
  go_enter Tryz.func35, Tryz.ntmps35
  go_wp2_with fail
  refine H1.out.mono ?_
  rintro ex w1 ⟨a4, c4, rfl, s1, s2, s3⟩
  have D3 := Aside.mk (D2.out.put (Y := 0) (by simpa using s1) s2)
  have F3 := Aside.mk (F2.out.trans' s2 (U := dfoot b2 a2 c2) (fun _ _ _ k => k) (fun x y _ k => ifoot_d x y k))
  have O3 := Aside.mk (s3.older F2.out.size)
  clear s1 s2 s3 H1
  go_wp2_with fail
  (try simp only [Exit.inBlock, Exit.then])
  refine bodyPost_ret (results_none rfl _ _ _) rfl ?_
  exact ⟨a4, c4, rfl, ⟨D3.out, F3.out, O3.out⟩⟩
set_option maxRecDepth 100000 in
set_option maxHeartbeats 2000000 in
theorem modf_small_i {w : World} {b b1 : Nat} {f f1 : Int} {n n1 : Bool} {e e1 : Int} {a a1 : Option Addr} {c c1 X X1 : Nat} (g : Gl w) (h : DA w b f n e a c X) (h1 : DA w b1 f1 n1 e1 a1 c1 X1)
    (he : e ≤ 0) (hlo : -2147483648 ≤ e) (hd : (ndig X : Int) < -e) (hX : bl X ≤ 1100) (ap1 : DAp b1 a1 c1 b a c) :
    Calls Tryz.prog 35 #[.pointer (some ⟨b, 0, none⟩), .pointer (some ⟨b1, 0, none⟩), .pointer none] w fun ex w' => ∃ a3 c3, ex = .returned (.tuple #[]) ∧
      Aside (DA w' b1 f1 n 0 a3 c3 0 ∧ Fr (dfoot b1 a1 c1) w w' ∧ Out w a1 c1 a3 c3) := by
  have hb1 : ¬ b1 = b := fun k => ap1 b1 0 (.inl rfl) (.inl k)
  have hb1' : ¬ b = b1 := fun k => hb1 k.symm
  have hw1 : IntKind.i64.wrap e = e := by rw [IntKind.wrap_i64]; omega
  have hw2 : IntKind.i64.wrap (-e) = -e := by rw [IntKind.wrap_i64]; omega
  have H0 := Lib.hid (dNumDigits_any g h hX)
  have hG := g.size
  have HZ := Aside.mk (And.intro h h1)
  have y0 := h.neg
  have y1 := h.exp
  clear h h1 ap1 g hX
  go_enter Tryz.func35, Tryz.ntmps35
  go_wp2_with fail
  refine H0.out.mono ?_
  rintro ex w1 ⟨rfl, F0⟩
  have k := HZ.out.1.fr F0 (fun _ _ _ q => q)
  have k1 := HZ.out.2.fr F0 (fun _ _ _ q => q)
  have D2 := Aside.mk ((k1.setNeg n).setExp 0)
  have F2 := Aside.mk (((Fr.refl (dfoot b1 a1 c1) w1).setD 1 (.bool n)).setD 2 (.int .i32 0))
  have FF := Aside.mk F0
  have H1 := Lib.hid (bSetInt64 0 (Nat.le_trans hG (Nat.le_trans F0.size F2.out.size)) D2.out.num (by omega) (by omega))
  have x0 := k.neg
  have x1 := k.exp
  have z1 := k1.neg
  have z2 := k1.exp
  have g1 := k1.num.blk.free 1
  have g2 := k1.num.blk.free 2
  clear k k1 F0 H0 y0 y1
  go_wp2_with fail
  refine H1.out.mono ?_
  rintro ex w2 ⟨a4, c4, rfl, s1, s2, s3⟩
  have D3 := Aside.mk (D2.out.put (Y := 0) (by simpa using s1) s2)
  have F3 := Aside.mk (F2.out.trans' s2 (U := dfoot b1 a1 c1) (fun _ _ _ k => k) (fun x y _ k => ifoot_d x y k))
  have O3 := Aside.mk ((s3.older F2.out.size).older FF.out.size)
  clear s1 s2 s3 H1
  go_wp2_with fail
  (try simp only [Exit.inBlock, Exit.then])
  refine bodyPost_ret (results_none rfl _ _ _) rfl ?_
  exact ⟨a4, c4, rfl, ⟨D3.out, FF.out.trans' F3.out (fun _ _ _ q => q.elim) (fun _ _ _ q => q), O3.out⟩⟩
set_option maxRecDepth 100000 in
set_option maxHeartbeats 2000000 in
theorem modf_small_f {w : World} {b b2 : Nat} {f f2 : Int} {n n2 : Bool} {e e2 : Int} {a a2 : Option Addr} {c c2 X X2 : Nat} (g : Gl w) (h : DA w b f n e a c X) (h2 : DA w b2 f2 n2 e2 a2 c2 X2)
    (he : e ≤ 0) (hlo : -2147483648 ≤ e) (hd : (ndig X : Int) < -e) (hX : bl X ≤ 1100) (ap2 : DAp b2 a2 c2 b a c) (hn : nlen X < 900000) :
    Calls Tryz.prog 35 #[.pointer (some ⟨b, 0, none⟩), .pointer none, .pointer (some ⟨b2, 0, none⟩)] w fun ex w' => ∃ a4 c4, ex = .returned (.tuple #[]) ∧
      Aside (DA w' b2 f n e a4 c4 X ∧ Fr (dfoot b2 a2 c2) w w' ∧ Out w a2 c2 a4 c4) := by
  have hw1 : IntKind.i64.wrap e = e := by rw [IntKind.wrap_i64]; omega
  have hw2 : IntKind.i64.wrap (-e) = -e := by rw [IntKind.wrap_i64]; omega
  have H0 := Lib.hid (dNumDigits_any g h hX)
  have H2 : Hid (∀ (w2 : World), Fr (fun _ _ => False) w w2 → Calls Tryz.prog 64 #[.pointer (some ⟨b2, 0, none⟩), .pointer (some ⟨b, 0, none⟩)] w2 fun ex w' => ∃ a3 c3, ex = .returned (.pointer (some ⟨b2, 0, none⟩)) ∧ Aside (DA w' b2 f n e a3 c3 X ∧ Fr (dfoot b2 a2 c2) w2 w' ∧ Out w a2 c2 a3 c3)) := Lib.hid (fun w2 F => by
    refine (dSet_other (Nat.le_trans g.size F.size) (h2.fr F (fun _ _ _ q => q)) (h.fr F (fun _ _ _ q => q)) ap2 hn).mono ?_
    rintro ex w3 ⟨a3, c3, rfl, k1, k2, k3⟩
    exact ⟨a3, c3, rfl, ⟨k1, k2, k3.older F.size⟩⟩)
  have HZ := Aside.mk h
  have y0 := h.neg
  have y1 := h.exp
  clear h h2 ap2 hn g hX
  go_enter Tryz.func35, Tryz.ntmps35
  go_wp2_with fail
  refine H0.out.mono ?_
  rintro ex w1 ⟨rfl, F0⟩
  have FF := Aside.mk F0
  have x1 := (HZ.out.fr F0 (fun _ _ _ q => q)).exp
  clear F0 H0 y0 y1
  go_wp2_with fail
  refine (H2.out _ FF.out).mono ?_
  rintro ex w3 ⟨a3, c3, rfl, k⟩
  clear H2
  go_wp2_with fail
  (try simp only [Exit.inBlock, Exit.then])
  refine bodyPost_ret (results_none rfl _ _ _) rfl ?_
  exact ⟨a3, c3, rfl, ⟨k.out.1, FF.out.trans' k.out.2.1 (fun _ _ _ q => q.elim) (fun _ _ _ q => q), k.out.2.2⟩⟩
end Go.Proofs.YtfhnkcdlphfbpaaGreatDoor
namespace Go.Proofs.YtfhnkcdlphfbpaaGreatDoor
open Go.RowKit

set_option maxRecDepth 100000 in
set_option maxHeartbeats 4000000 in
theorem modf_div_i {w : World} {b b1 m : Nat} {f f1 : Int} {n n1 : Bool} {e e1 : Int} {a a1 : Option Addr} {c c1 X X1 : Nat} (g : Gl w) (h : DA w b f n e a c X) (h1 : DA w b1 f1 n1 e1 a1 c1 X1)
    (he : e = -(m : Int)) (hm : m ≤ 420) (hd : m ≤ ndig X) (hX : bl X ≤ 1100) (ap1 : DAp b1 a1 c1 b a c) (hn : nlen X < 1000) :
    Calls Tryz.prog 35 #[.pointer (some ⟨b, 0, none⟩), .pointer (some ⟨b1, 0, none⟩), .pointer none] w fun ex w' => ∃ a3 c3, ex = .returned (.tuple #[]) ∧
      Aside (DA w' b1 f1 n 0 a3 c3 (X / 10 ^ m) ∧ Fr (dfoot b1 a1 c1) w w' ∧ Out w a1 c1 a3 c3) := by
  have hb1 : ¬ b1 = b := fun k => ap1 b1 0 (.inl rfl) (.inl k)
  have hb1' : ¬ b = b1 := fun k => hb1 k.symm
  have he0 : e ≤ 0 := by omega
  have hw1 : IntKind.i64.wrap e = e := by rw [IntKind.wrap_i64]; omega
  have hw2 : IntKind.i64.wrap (-e) = (m : Int) := by rw [IntKind.wrap_i64]; omega
  have hd1 : ¬ ((ndig X : Int) < (m : Int)) := by omega
  have H0 := Lib.hid (dNumDigits_any g h hX)
  have HZ := Aside.mk (And.intro h (And.intro h1 (And.intro ap1 hn)))
  have HG := Aside.mk g
  have hG := g.size
  have HE := Aside.mk he
  have HM := Aside.mk hm
  have y1 := h.exp
  have y0 := h.neg
  clear h h1 ap1 hn g hX he hd hm
  go_enter Tryz.func35, Tryz.ntmps35
  go_wp2_with fail
  refine H0.out.mono ?_
  rintro ex w1 ⟨rfl, F0⟩
  have FF := Aside.mk F0
  have x0 := (HZ.out.1.fr F0 (fun _ _ _ q => q)).exp
  have x1 := (HZ.out.1.fr F0 (fun _ _ _ q => q)).neg
  have hG1 := Nat.le_trans hG F0.size
  clear F0 H0 y1 y0
  go_wp2_with fail
  have HN := Aside.mk (IA.new hG1 66)
  have F1 := Aside.mk (FF.out.alloc (.cells #[.bool false, .slice none 0 0] 66))
  have HT := Lib.hid (tableExp10_any m HM.out (HG.out.fr F1.out (fun _ _ k => k.elim)) HN.out)
  refine HT.out.mono ?_
  rintro ex w2 ⟨a5, c5, rfl, t1, t2, t3⟩
  have hsz := FF.out.size
  have F2 : Aside (Fr (fun _ _ => False) w w2) := ⟨F1.out.trans' t2 (fun _ _ _ k => k) (fun b o hb k => by
    rcases k with ⟨rfl, _⟩ | k
    · omega
    · exact foot_none _ _ _ k)⟩
  have T1 := Aside.mk t1
  have T5 : Aside (∀ x y, ifoot w1.heap.size 0 a5 c5 x y → w.heap.size ≤ x) := ⟨fun x y q => by
    rcases q with ⟨rfl, _⟩ | q
    · exact hsz
    · rcases t3 with ⟨rfl, rfl⟩ | ⟨b', o', rfl, h7⟩
      · exact absurd q (foot_none _ _ _)
      · rw [foot_some] at q
        simp at h7
        omega⟩
  clear t1 t2 t3 HT HN F1
  obtain ⟨tb, htb⟩ : ∃ t, w1.heap.size = t := ⟨_, rfl⟩
  rw [htb] at T1 T5 ⊢
  obtain ⟨h, h1, ap1, hn⟩ := HZ.out
  have k := h.fr F2.out (fun _ _ _ q => q)
  have k1 := h1.fr F2.out (fun _ _ _ q => q)
  have lo1 : ∀ x y, dfoot b1 a1 c1 x y → x < w.heap.size := fun x y q => by
    rcases q with rfl | q
    · exact h1.lt
    · exact h1.num.nt.reg.lt _ _ q
  have D1 := Aside.mk ((k1.setExp 0).setNeg n)
  have F3 := Aside.mk (((Fr.refl (dfoot b1 a1 c1) w2).setD 2 (.int .i32 0)).setD 1 (.bool n))
  have D := Aside.mk (k.fr F3.out (fun x y q1 q2 => ap1 x y q2 q1))
  have T3 := Aside.mk (T1.out.fr F3.out (fun x y q1 q2 => by have := lo1 x y q2; have := T5.out x y q1; omega))
  have F23 := Aside.mk (F2.out.trans' F3.out (U := dfoot b1 a1 c1) (fun _ _ _ q => q.elim) (fun _ _ _ q => q))
  have G3 := Aside.mk (HG.out.fr F23.out h1.lo)
  have tb0 := T5.out tb 0 (.inl ⟨rfl, .inl rfl⟩)
  have tb1 : b1 ≠ tb := by have := h1.lt; omega
  have H4 : Hid (∀ d, Calls Tryz.prog 68 #[.pointer (some ⟨b1, 3, none⟩), .pointer (some ⟨b, 3, none⟩), .pointer (some ⟨tb, 0, none⟩)] (((w2.setCell ⟨b1, 2, none⟩ (.int .i32 0)).setCell ⟨b1, 1, none⟩ (.bool n)).drewN d) fun ex w4 => ∃ qa qc, ex = .returned (.pointer (some ⟨b1, 3, none⟩)) ∧
      Aside (DA w4 b1 f1 n 0 qa qc (X / 10 ^ m) ∧ Fr (dfoot b1 a1 c1) w w4 ∧ Out w a1 c1 qa qc)) := Lib.hid (fun d => by
    refine (bQuo_any (G3.out.fr ((Fr.refl (fun _ _ => False) _).drewN d) (fun _ _ q => q.elim)) (D1.out.num.drewN d) (D.out.num.drewN d) (T3.out.drewN d) (Nat.pow_pos (by omega)) (nlen_ten40 HM.out) hn (.inl hb1) (.inl tb1)
      (.inr (fun x y q1 q2 => ap1 x y (.inr q1) (.inr q2)))).mono ?_
    rintro ex w4 ⟨qa, qc, rfl, K⟩
    have F4 := ((Fr.refl (ifoot b1 3 a1 c1) ((w2.setCell ⟨b1, 2, none⟩ (.int .i32 0)).setCell ⟨b1, 1, none⟩ (.bool n))).drewN d).trans K.out.2.1
    exact ⟨qa, qc, rfl, ⟨D1.out.put K.out.1 F4, F23.out.trans' F4 (fun _ _ _ q => q) (fun x y _ q => ifoot_d x y q), K.out.2.2.older F23.out.size⟩⟩)
  have v1 := k1.exp
  have v2 := k1.neg
  have v3 := k1.num.blk.free 2
  have v4 := k1.num.blk.free 1
  clear h h1 ap1 hn k k1 lo1 tb0 T5 T1 T3 G3 D x0
  go_wp2_with fail
  refine (H4.out 0).mono ?_
  rintro ex w4 ⟨qa, qc, rfl, K⟩
  clear H4 v1 v2 v3 v4 x1
  go_wp2_with fail
  go_end0
  exact ⟨qa, qc, rfl, K⟩
end Go.Proofs.YtfhnkcdlphfbpaaGreatDoor
namespace Go.Proofs.YtfhnkcdlphfbpaaGreatDoor
open Go.RowKit

set_option maxRecDepth 100000 in
set_option maxHeartbeats 4000000 in
theorem modf_div_f {w : World} {b b2 m : Nat} {f f2 : Int} {n n2 : Bool} {e e2 : Int} {a a2 : Option Addr} {c c2 X X2 : Nat} (g : Gl w) (h : DA w b f n e a c X) (h2 : DA w b2 f2 n2 e2 a2 c2 X2)
    (he : e = -(m : Int)) (hm : m ≤ 420) (hd : m ≤ ndig X) (hX : bl X ≤ 1100) (ap2 : DAp b2 a2 c2 b a c) (hn : nlen X < 1000) :
    Calls Tryz.prog 35 #[.pointer (some ⟨b, 0, none⟩), .pointer none, .pointer (some ⟨b2, 0, none⟩)] w fun ex w' => ∃ a4 c4, ex = .returned (.tuple #[]) ∧
      Aside (DA w' b2 f2 n e a4 c4 (X % 10 ^ m) ∧ Fr (dfoot b2 a2 c2) w w' ∧ Out w a2 c2 a4 c4) := by
  have hb2 : ¬ b2 = b := fun k => ap2 b2 0 (.inl rfl) (.inl k)
  have hb2' : ¬ b = b2 := fun k => hb2 k.symm
  have he0 : e ≤ 0 := by omega
  have hw1 : IntKind.i64.wrap e = e := by rw [IntKind.wrap_i64]; omega
  have hw2 : IntKind.i64.wrap (-e) = (m : Int) := by rw [IntKind.wrap_i64]; omega
  have hd1 : ¬ ((ndig X : Int) < (m : Int)) := by omega
  have H0 := Lib.hid (dNumDigits_any g h hX)
  have HZ := Aside.mk (And.intro h (And.intro h2 (And.intro ap2 hn)))
  have HG := Aside.mk g
  have hG := g.size
  have HE := Aside.mk he
  have HM := Aside.mk hm
  have y1 := h.exp
  have y0 := h.neg
  clear h h2 ap2 hn g hX he hd hm
  go_enter Tryz.func35, Tryz.ntmps35
  go_wp2_with fail
  refine H0.out.mono ?_
  rintro ex w1 ⟨rfl, F0⟩
  have FF := Aside.mk F0
  have x0 := (HZ.out.1.fr F0 (fun _ _ _ q => q)).exp
  have x1 := (HZ.out.1.fr F0 (fun _ _ _ q => q)).neg
  have hG1 := Nat.le_trans hG F0.size
  clear F0 H0 y1 y0
  go_wp2_with fail
  have HN := Aside.mk (IA.new hG1 66)
  have F1 := Aside.mk (FF.out.alloc (.cells #[.bool false, .slice none 0 0] 66))
  have HT := Lib.hid (tableExp10_any m HM.out (HG.out.fr F1.out (fun _ _ k => k.elim)) HN.out)
  refine HT.out.mono ?_
  rintro ex w2 ⟨a5, c5, rfl, t1, t2, t3⟩
  have hsz := FF.out.size
  have F2 : Aside (Fr (fun _ _ => False) w w2) := ⟨F1.out.trans' t2 (fun _ _ _ k => k) (fun b o hb k => by
    rcases k with ⟨rfl, _⟩ | k
    · omega
    · exact foot_none _ _ _ k)⟩
  have T1 := Aside.mk t1
  have T5 : Aside (∀ x y, ifoot w1.heap.size 0 a5 c5 x y → w.heap.size ≤ x) := ⟨fun x y q => by
    rcases q with ⟨rfl, _⟩ | q
    · exact hsz
    · rcases t3 with ⟨rfl, rfl⟩ | ⟨b', o', rfl, h7⟩
      · exact absurd q (foot_none _ _ _)
      · rw [foot_some] at q
        simp at h7
        omega⟩
  clear t1 t2 t3 HT HN F1
  have hsz2 : w1.heap.size < w2.heap.size := by have := T1.out.blk.lt; exact this
  have hG2 : NG ≤ w2.heap.size := Nat.le_trans hG F2.out.size
  clear x0 x1
  obtain ⟨tb, htb⟩ : ∃ t, w1.heap.size = t := ⟨_, rfl⟩
  rw [htb] at T1 T5 hsz2 ⊢
  have tl := T1.out.blk.lt
  obtain ⟨h, h2, ap2, hn⟩ := HZ.out
  have NI := Aside.mk (IA.new hG2 66)
  have F3 : Aside (Fr (fun _ _ => False) w (w2.alloc (.cells #[.bool false, .slice none 0 0] 66))) := Aside.mk (F2.out.alloc _)
  have D := Aside.mk (h.fr F3.out (fun _ _ _ q => q))
  have D2 := Aside.mk (h2.fr F3.out (fun _ _ _ q => q))
  have T3 := Aside.mk (T1.out.fr ((Fr.refl (fun _ _ => False) w2).alloc (.cells #[.bool false, .slice none 0 0] 66)) (fun _ _ _ q => q))
  have G3 := Aside.mk (HG.out.fr F3.out (fun _ _ q => q.elim))
  have sb := F2.out.size
  have i1 : w2.heap.size ≠ b2 := by have := h2.lt; omega
  have i2 : w2.heap.size ≠ b := by have := h.lt; omega
  have i3 : w2.heap.size ≠ tb := by omega
  have tb0 := T5.out tb 0 (.inl ⟨rfl, .inl rfl⟩)
  have i4 : b2 ≠ tb := by have := h2.lt; omega
  have H4 : Hid (∀ d, Calls Tryz.prog 67 #[.pointer (some ⟨w2.heap.size, 0, none⟩), .pointer (some ⟨b, 3, none⟩), .pointer (some ⟨tb, 0, none⟩), .pointer (some ⟨b2, 3, none⟩)] ((w2.alloc (.cells #[.bool false, .slice none 0 0] 66)).drewN d) fun ex w4 => ∃ v sa sc, ex = .returned v ∧
      Aside (DA w4 b f n e a c X ∧ DA w4 b2 f2 n2 e2 sa sc (X % 10 ^ m) ∧ Fr (dfoot b2 a2 c2) w w4 ∧ Out w a2 c2 sa sc)) := Lib.hid (fun d => by
    refine (bQuoRem_any (G3.out.fr ((Fr.refl (fun _ _ => False) _).drewN d) (fun _ _ q => q.elim)) (NI.out.drewN d) (D2.out.num.drewN d) (D.out.num.drewN d) (T3.out.drewN d) (Nat.pow_pos (by omega)) (nlen_ten40 HM.out) hn (.inl i1) (.inl i2) (.inl i3) (.inl hb2) (.inl i4)
      (fun x y q1 _ => foot_none _ _ _ q1) (.inr (fun x y q1 _ => absurd q1 (foot_none _ _ _))) (.inr (fun x y q1 q2 => ap2 x y (.inr q1) (.inr q2)))).mono ?_
    rintro ex w4 ⟨qa, qc, sa, sc, rfl, K⟩
    have F4 := (F3.out.drewN d).trans' K.out.2.2.1 (U := ifoot b2 3 a2 c2) (fun _ _ _ q => q.elim) (fun x y hx q => by
      rcases q with (⟨rfl, _⟩ | q) | q
      · omega
      · exact absurd q (foot_none _ _ _)
      · exact q)
    exact ⟨_, sa, sc, rfl, ⟨h.fr F4 (fun x y q1 q2 => ap2 x y (ifoot_d _ _ q2) q1), h2.put K.out.2.1 F4, F4.trans' (Fr.refl (fun _ _ => False) w4) (fun x y _ q => ifoot_d x y q) (fun _ _ _ q => q.elim), K.out.2.2.2.2.1.older (F3.out.drewN d).size⟩⟩)
  clear h h2 ap2 hn tb0 T5 T1 T3 G3 D D2 NI
  go_wp2_with fail
  go_region_with (go_at_call 67; go_must (refine (H4.out _).mono ?_; rintro ex w4 ⟨v, sa, sc, rfl, K⟩))
  all_goals
    clear H4
    have u1 := K.out.1.exp
    have u2 := K.out.2.1.exp
    have u3 := K.out.2.1.neg
    have u4 := K.out.2.1.num.blk.free 2
    have u5 := K.out.2.1.num.blk.free 1
    go_wp2_with fail
    go_end0
    exact ⟨sa, sc, rfl, ⟨(K.out.2.1.setExp e).setNeg n, (K.out.2.2.1.setD 2 _).setD 1 _, K.out.2.2.2⟩⟩
end Go.Proofs.YtfhnkcdlphfbpaaGreatDoor
