/- Decimal.Modf: its road for an exponent above 0. Decimal.Modf: its road for more decimals than digits. Decimal.Modf: its road by division. Decimal.Modf with one of its two results alone: its roads without division. Decimal.Modf by division, the whole part alone. Decimal.Modf by division, the part alone. Decimal.Modf on all roads as one, of finite decimals into new ones. -/
import Derived.Test.YtgilnnipephfjaaGreatDoorM26Dec3
import Derived.Test.YtgilnnipephfjaaGreatDoorM27Str1
import Derived.Test.YtgilnnipephfjaaGreatDoorM12Big2
import Derived.Test.YtgilnnipephfjaaGreatDoorW36Quo5
set_option linter.unusedSimpArgs false
set_option linter.unusedVariables false
namespace Go.Proofs.YtgilnnipephfjaaGreatDoor
open Go.RowKit

set_option maxRecDepth 100000 in
set_option maxHeartbeats 2000000 in
theorem modf_whole {w : World} {b b1 b2 : Nat} {f f1 f2 : Int} {n n1 n2 : Bool} {e e1 e2 : Int} {a a1 a2 : Option Addr} {c c1 c2 X X1 X2 : Nat} (hG : NG ≤ w.heap.size) (h : DA w b f n e a c X) (h1 : DA w b1 f1 n1 e1 a1 c1 X1) (h2 : DA w b2 f2 n2 e2 a2 c2 X2)
    (he : 0 < e) (ap1 : DAp b1 a1 c1 b a c) (ap2 : DAp b2 a2 c2 b a c) (ap12 : DAp b1 a1 c1 b2 a2 c2) (hn : nlen X < 900000) :
    Calls Tryz.prog 64 #[.pointer (some ⟨b, 0, none⟩), .pointer (some ⟨b1, 0, none⟩), .pointer (some ⟨b2, 0, none⟩)] w fun ex w' => ∃ a3 c3 a4 c4, ex = .returned (.tuple #[]) ∧
      Aside (DA w' b1 f n e a3 c3 X ∧ DA w' b2 f2 n 0 a4 c4 0 ∧ Fr (fun x y => dfoot b1 a1 c1 x y ∨ dfoot b2 a2 c2 x y) w w' ∧ Out w a1 c1 a3 c3 ∧ Out w a2 c2 a4 c4) := by
  have hb2 : ¬ b2 = b := fun k => ap2 b2 0 (.inl rfl) (.inl k)
  have hb2' : ¬ b = b2 := fun k => hb2 k.symm
  have D2 := Aside.mk ((h2.setNeg n).setExp 0)
  have F2 := Aside.mk (((Fr.refl (dfoot b2 a2 c2) w).setD 1 (.bool n)).setD 2 (.int .i32 0))
  have H1 := Lib.hid (bSetInt64 0 (Nat.le_trans hG F2.out.size) D2.out.num (by omega) (by omega))
  have H2 : Hid (∀ (w2 : World), Fr (dfoot b2 a2 c2) w w2 → Calls Tryz.prog 94 #[.pointer (some ⟨b1, 0, none⟩), .pointer (some ⟨b, 0, none⟩)] w2 fun ex w' => ∃ a3 c3, ex = .returned (.pointer (some ⟨b1, 0, none⟩)) ∧ Aside (DA w' b1 f n e a3 c3 X ∧ Fr (dfoot b1 a1 c1) w2 w' ∧ Out w a1 c1 a3 c3)) := Lib.hid (fun w2 F => by
    refine (dSet_other (Nat.le_trans hG F.size) (h1.fr F (fun x y k1 k2 => ap12 x y k1 k2)) (h.fr F (fun x y k1 k2 => ap2 x y k2 k1)) ap1 hn).mono ?_
    rintro ex w3 ⟨a3, c3, rfl, k1, k2, k3⟩
    exact ⟨a3, c3, rfl, ⟨k1, k2, k3.older F.size⟩⟩)
  have HZ := Aside.mk (And.intro h2 (And.intro h1 ap12))
  have x0 := h.neg
  have x1 := h.exp
  have z1 := h2.neg
  have z2 := h2.exp
  have g1 := h2.num.blk.free 1
  have g2 := h2.num.blk.free 2
  clear h h1 h2 ap1 ap2 ap12
  go_enter Tryz.func64, Tryz.ntmps64
  go_wp2_with fail
  refine H1.out.mono ?_
  rintro ex w1 ⟨a4, c4, rfl, s1, s2, s3⟩
  have D3 := Aside.mk (D2.out.put (Y := 0) (by simpa using s1) s2)
  have F3 := Aside.mk (F2.out.trans' s2 (U := dfoot b2 a2 c2) (fun _ _ _ k => k) (fun x y _ k => ifoot_d x y k))
  have O3 := Aside.mk (s3.older F2.out.size)
  clear s1 s2 s3 H1
  go_wp2_with fail
  refine (H2.out _ F3.out).mono ?_
  rintro ex w2 ⟨a3, c3, rfl, k⟩
  clear H2
  go_wp2_with fail
  (try simp only [Exit.inBlock, Exit.then])
  refine bodyPost_ret (results_none rfl _ _ _) rfl ?_
  refine ⟨a3, c3, a4, c4, rfl, ⟨k.out.1, ?_, ?_, k.out.2.2, O3.out⟩⟩
  · refine D3.out.fr k.out.2.1 (fun x y q1 q2 => ?_)
    rcases q1 with rfl | q1
    · exact HZ.out.2.2 _ _ q2 (.inl rfl)
    · have hx : x < w.heap.size := by
        rcases q2 with rfl | q2
        · exact HZ.out.2.1.lt
        · exact HZ.out.2.1.num.nt.reg.lt _ _ q2
      exact HZ.out.2.2 _ _ q2 (.inr (HZ.out.1.far (w' := w) O3.out x y hx q1))
  · exact F3.out.trans' k.out.2.1 (fun _ _ _ q => .inr q) (fun _ _ _ q => .inl q)
end Go.Proofs.YtgilnnipephfjaaGreatDoor
namespace Go.Proofs.YtgilnnipephfjaaGreatDoor
open Go.RowKit

set_option maxRecDepth 100000 in
set_option maxHeartbeats 2000000 in
theorem modf_small {w : World} {b b1 b2 : Nat} {f f1 f2 : Int} {n n1 n2 : Bool} {e e1 e2 : Int} {a a1 a2 : Option Addr} {c c1 c2 X X1 X2 : Nat} (g : Gl w) (h : DA w b f n e a c X) (h1 : DA w b1 f1 n1 e1 a1 c1 X1) (h2 : DA w b2 f2 n2 e2 a2 c2 X2)
    (he : e ≤ 0) (hlo : -2147483648 ≤ e) (hd : (ndig X : Int) < -e) (hX : bl X ≤ 1100) (ap1 : DAp b1 a1 c1 b a c) (ap2 : DAp b2 a2 c2 b a c) (ap12 : DAp b1 a1 c1 b2 a2 c2) (hn : nlen X < 900000) :
    Calls Tryz.prog 64 #[.pointer (some ⟨b, 0, none⟩), .pointer (some ⟨b1, 0, none⟩), .pointer (some ⟨b2, 0, none⟩)] w fun ex w' => ∃ a3 c3 a4 c4, ex = .returned (.tuple #[]) ∧
      Aside (DA w' b1 f1 n 0 a3 c3 0 ∧ DA w' b2 f n e a4 c4 X ∧ Fr (fun x y => dfoot b1 a1 c1 x y ∨ dfoot b2 a2 c2 x y) w w' ∧ Out w a1 c1 a3 c3 ∧ Out w a2 c2 a4 c4) := by
  have hb1 : ¬ b1 = b := fun k => ap1 b1 0 (.inl rfl) (.inl k)
  have hb1' : ¬ b = b1 := fun k => hb1 k.symm
  have hw1 : IntKind.i64.wrap e = e := by rw [IntKind.wrap_i64]; omega
  have hw2 : IntKind.i64.wrap (-e) = -e := by rw [IntKind.wrap_i64]; omega
  have H0 := Lib.hid (dNumDigits_any g h hX)
  have hG := g.size
  have HZ := Aside.mk (And.intro h (And.intro h1 (And.intro h2 (And.intro ap1 (And.intro ap2 (And.intro ap12 hn))))))
  have y0 := h.neg
  have y1 := h.exp
  clear h h1 h2 ap1 ap2 ap12 hn g hX
  go_enter Tryz.func64, Tryz.ntmps64
  go_wp2_with fail
  refine H0.out.mono ?_
  rintro ex w1 ⟨rfl, F0⟩
  obtain ⟨h, h1, h2, ap1, ap2, ap12, hn⟩ := HZ.out
  have k := h.fr F0 (fun _ _ _ q => q)
  have k1 := h1.fr F0 (fun _ _ _ q => q)
  have k2 := h2.fr F0 (fun _ _ _ q => q)
  have D2 := Aside.mk ((k1.setNeg n).setExp 0)
  have F2 := Aside.mk (((Fr.refl (dfoot b1 a1 c1) w1).setD 1 (.bool n)).setD 2 (.int .i32 0))
  have FF := Aside.mk F0
  have H1 := Lib.hid (bSetInt64 0 (Nat.le_trans hG (Nat.le_trans F0.size F2.out.size)) D2.out.num (by omega) (by omega))
  have H2 : Hid (∀ (w2 : World), Fr (dfoot b1 a1 c1) w1 w2 → Calls Tryz.prog 94 #[.pointer (some ⟨b2, 0, none⟩), .pointer (some ⟨b, 0, none⟩)] w2 fun ex w' => ∃ a3 c3, ex = .returned (.pointer (some ⟨b2, 0, none⟩)) ∧ Aside (DA w' b2 f n e a3 c3 X ∧ Fr (dfoot b2 a2 c2) w2 w' ∧ Out w1 a2 c2 a3 c3)) := Lib.hid (fun w2 F => by
    refine (dSet_other (Nat.le_trans hG (Nat.le_trans F0.size F.size)) (k2.fr F (fun x y q1 q2 => ap12 x y q2 q1)) (k.fr F (fun x y q1 q2 => ap1 x y q2 q1)) ap2 hn).mono ?_
    rintro ex w3 ⟨a3, c3, rfl, k1, k2, k3⟩
    exact ⟨a3, c3, rfl, ⟨k1, k2, k3.older F.size⟩⟩)
  have x0 := k.neg
  have x1 := k.exp
  have z1 := k1.neg
  have z2 := k1.exp
  have g1 := k1.num.blk.free 1
  have g2 := k1.num.blk.free 2
  clear h h1 h2 ap1 ap2 ap12 hn k k1 k2 F0 H0 y0 y1
  go_wp2_with fail
  refine H1.out.mono ?_
  rintro ex w2 ⟨a4, c4, rfl, s1, s2, s3⟩
  have D3 := Aside.mk (D2.out.put (Y := 0) (by simpa using s1) s2)
  have F3 := Aside.mk (F2.out.trans' s2 (U := dfoot b1 a1 c1) (fun _ _ _ k => k) (fun x y _ k => ifoot_d x y k))
  have O3 := Aside.mk ((s3.older F2.out.size).older FF.out.size)
  clear s1 s2 s3 H1
  go_wp2_with fail
  refine (H2.out _ F3.out).mono ?_
  rintro ex w3 ⟨a3, c3, rfl, k⟩
  clear H2
  go_wp2_with fail
  (try simp only [Exit.inBlock, Exit.then])
  refine bodyPost_ret (results_none rfl _ _ _) rfl ?_
  obtain ⟨h, h1, h2, ap1, ap2, ap12, hn⟩ := HZ.out
  refine ⟨a4, c4, a3, c3, rfl, ⟨?_, k.out.1, ?_, O3.out, k.out.2.2.older FF.out.size⟩⟩
  · refine D3.out.fr k.out.2.1 (fun x y q1 q2 => ?_)
    rcases q1 with rfl | q1
    · exact ap12 _ _ (.inl rfl) q2
    · have hx : x < w.heap.size := by
        rcases q2 with rfl | q2
        · exact h2.lt
        · exact h2.num.nt.reg.lt _ _ q2
      exact ap12 _ _ (.inr (h1.far (w' := w) O3.out x y hx q1)) q2
  · exact FF.out.trans' (F3.out.trans' k.out.2.1 (U := fun x y => dfoot b1 a1 c1 x y ∨ dfoot b2 a2 c2 x y) (fun _ _ _ q => .inl q) (fun _ _ _ q => .inr q)) (fun _ _ _ q => q.elim) (fun _ _ _ q => q)
end Go.Proofs.YtgilnnipephfjaaGreatDoor
namespace Go.Proofs.YtgilnnipephfjaaGreatDoor
open Go.RowKit

theorem nlen_ten40 {m : Nat} (h : m ≤ 420) : nlen (10 ^ m) < 40 := by
  have key : ∀ j, m ≤ 19 * j → 10 ^ m ≤ B ^ j := fun j hj => by
    have h1 : 10 ^ m ≤ 10 ^ (19 * j) := Nat.pow_le_pow_right (by decide) hj
    rw [Nat.pow_mul] at h1
    exact Nat.le_trans h1 (Nat.pow_le_pow_left (by decide) j)
  have h3 : B ^ 38 < B ^ 39 := Nat.pow_lt_pow_right (by decide) (by omega)
  exact Nat.lt_succ_of_le ((lt_Bpow_iff (10 ^ m) 39).1 (Nat.lt_of_le_of_lt (key 38 (by omega)) h3))
theorem modf_end {w3 w4 : World} {b b1 b2 : Nat} {f f1 f2 : Int} {n n1 n2 : Bool} {e e1 e2 : Int} {a a1 a2 qa sa : Option Addr} {c c1 c2 qc sc X X1 X2 Q T : Nat} (h : DA w3 b f n e a c X) (h1 : DA w3 b1 f1 n1 e1 a1 c1 X1) (h2 : DA w3 b2 f2 n2 e2 a2 c2 X2)
    (ap1 : DAp b1 a1 c1 b a c) (ap2 : DAp b2 a2 c2 b a c) (ap12 : DAp b1 a1 c1 b2 a2 c2)
    (kq : IA w4 b1 3 false qa qc Q) (kr : IA w4 b2 3 false sa sc T) (F : Fr (fun x y => ifoot b1 3 a1 c1 x y ∨ ifoot b2 3 a2 c2 x y) w3 w4) :
    DA w4 b f n e a c X ∧ DA w4 b1 f1 n1 e1 qa qc Q ∧ DA w4 b2 f2 n2 e2 sa sc T := by
  have ne : ¬ b1 = b2 := fun q => ap12 b1 0 (.inl rfl) (.inl q)
  have p1 : ∀ i, i < 3 → ¬ (ifoot b1 3 a1 c1 b1 i ∨ ifoot b2 3 a2 c2 b1 i) := by
    rintro i hi (q | q)
    · rcases q with ⟨_, q⟩ | q
      · omega
      · rcases i with _ | _ | _ | i
        · exact h1.apart.1 q
        · exact h1.apart.2.1 q
        · exact h1.apart.2.2 q
        · omega
    · exact ap12 b1 i (.inl rfl) (ifoot_d _ _ q)
  have p2 : ∀ i, i < 3 → ¬ (ifoot b1 3 a1 c1 b2 i ∨ ifoot b2 3 a2 c2 b2 i) := by
    rintro i hi (q | q)
    · exact ap12 b2 i (ifoot_d _ _ q) (.inl rfl)
    · rcases q with ⟨_, q⟩ | q
      · omega
      · rcases i with _ | _ | _ | i
        · exact h2.apart.1 q
        · exact h2.apart.2.1 q
        · exact h2.apart.2.2 q
        · omega
  exact ⟨h.fr F (fun x y q1 q2 => q2.elim (fun q => ap1 x y (ifoot_d _ _ q) q1) (fun q => ap2 x y (ifoot_d _ _ q) q1)),
    ⟨(F.cell _ _ h1.lt (p1 0 (by omega))).trans h1.form, (F.cell _ _ h1.lt (p1 1 (by omega))).trans h1.neg, (F.cell _ _ h1.lt (p1 2 (by omega))).trans h1.exp, kq⟩,
    ⟨(F.cell _ _ h2.lt (p2 0 (by omega))).trans h2.form, (F.cell _ _ h2.lt (p2 1 (by omega))).trans h2.neg, (F.cell _ _ h2.lt (p2 2 (by omega))).trans h2.exp, kr⟩⟩
set_option maxRecDepth 100000 in
set_option maxHeartbeats 4000000 in
theorem modf_div {w : World} {b b1 b2 m : Nat} {f f1 f2 : Int} {n n1 n2 : Bool} {e e1 e2 : Int} {a a1 a2 : Option Addr} {c c1 c2 X X1 X2 : Nat} (g : Gl w) (h : DA w b f n e a c X) (h1 : DA w b1 f1 n1 e1 a1 c1 X1) (h2 : DA w b2 f2 n2 e2 a2 c2 X2)
    (he : e = -(m : Int)) (hm : m ≤ 420) (hd : m ≤ ndig X) (hX : bl X ≤ 1100) (ap1 : DAp b1 a1 c1 b a c) (ap2 : DAp b2 a2 c2 b a c) (ap12 : DAp b1 a1 c1 b2 a2 c2) (hn : nlen X < 1000) :
    Calls Tryz.prog 64 #[.pointer (some ⟨b, 0, none⟩), .pointer (some ⟨b1, 0, none⟩), .pointer (some ⟨b2, 0, none⟩)] w fun ex w' => ∃ a3 c3 a4 c4, ex = .returned (.tuple #[]) ∧
      Aside (DA w' b1 f1 n 0 a3 c3 (X / 10 ^ m) ∧ DA w' b2 f2 n e a4 c4 (X % 10 ^ m) ∧ Fr (fun x y => dfoot b1 a1 c1 x y ∨ dfoot b2 a2 c2 x y) w w' ∧ Out w a1 c1 a3 c3 ∧ Out w a2 c2 a4 c4 ∧ Disj a3 c3 a4 c4) := by
  have hb1 : ¬ b1 = b := fun k => ap1 b1 0 (.inl rfl) (.inl k)
  have hb1' : ¬ b = b1 := fun k => hb1 k.symm
  have hb12 : ¬ b1 = b2 := fun k => ap12 b1 0 (.inl rfl) (.inl k)
  have hb12' : ¬ b2 = b1 := fun k => hb12 k.symm
  have hb2 : ¬ b2 = b := fun k => ap2 b2 0 (.inl rfl) (.inl k)
  have hb2' : ¬ b = b2 := fun k => hb2 k.symm
  have he0 : e ≤ 0 := by omega
  have hw1 : IntKind.i64.wrap e = e := by rw [IntKind.wrap_i64]; omega
  have hw2 : IntKind.i64.wrap (-e) = (m : Int) := by rw [IntKind.wrap_i64]; omega
  have hd1 : ¬ ((ndig X : Int) < (m : Int)) := by omega
  have H0 := Lib.hid (dNumDigits_any g h hX)
  have HZ := Aside.mk (And.intro h (And.intro h1 (And.intro h2 (And.intro ap1 (And.intro ap2 (And.intro ap12 hn))))))
  have HG := Aside.mk g
  have hG := g.size
  have HE := Aside.mk he
  have HM := Aside.mk hm
  have y1 := h.exp
  have y0 := h.neg
  clear h h1 h2 ap1 ap2 ap12 hn g hX he hd hm
  go_enter Tryz.func64, Tryz.ntmps64
  go_wp2_with fail
  refine H0.out.mono ?_
  rintro ex w1 ⟨rfl, F0⟩
  have FF := Aside.mk F0
  have x0 := (HZ.out.1.fr F0 (fun _ _ _ q => q)).exp
  have x1 := (HZ.out.1.fr F0 (fun _ _ _ q => q)).neg
  have hG1 := Nat.le_trans hG F0.size
  clear F0 H0 y1 y0
  go_wp2_with fail
  have HN := Aside.mk (IA.new hG1 69)
  have F1 := Aside.mk (FF.out.alloc (.cells #[.bool false, .slice none 0 0] 69))
  have HT := Lib.hid (tableExp10_any m HM.out (HG.out.fr F1.out (fun _ _ k => k.elim)) HN.out)
  refine HT.out.mono ?_
  rintro ex w2 ⟨a5, c5, rfl, t1, t2, t3⟩
  have hsz := FF.out.size
  have F2 : Aside (Fr (fun _ _ => False) w w2) := ⟨F1.out.trans' t2 (fun _ _ _ k => k) (fun b o hb k => by
    rcases k with ⟨rfl, _⟩ | k
    · omega
    · exact foot_none _ _ _ k)⟩
  have T1 := Aside.mk t1
  have T5 : Aside (∀ x y, ifoot w1.heap.size 0 a5 c5 x y → w.heap.size ≤ x) := ⟨fun x y q => by
    rcases q with ⟨rfl, _⟩ | q
    · exact hsz
    · rcases t3 with ⟨rfl, rfl⟩ | ⟨b', o', rfl, h7⟩
      · exact absurd q (foot_none _ _ _)
      · rw [foot_some] at q
        simp at h7
        omega⟩
  clear t1 t2 t3 HT HN F1
  obtain ⟨tb, htb⟩ : ∃ t, w1.heap.size = t := ⟨_, rfl⟩
  rw [htb] at T1 T5 ⊢
  obtain ⟨h, h1, h2, ap1, ap2, ap12, hn⟩ := HZ.out
  have k := h.fr F2.out (fun _ _ _ q => q)
  have k1 := h1.fr F2.out (fun _ _ _ q => q)
  have k2 := h2.fr F2.out (fun _ _ _ q => q)
  have lo1 : ∀ x y, dfoot b1 a1 c1 x y → x < w.heap.size := fun x y q => by
    rcases q with rfl | q
    · exact h1.lt
    · exact h1.num.nt.reg.lt _ _ q
  have D1 := Aside.mk ((k1.setExp 0).setNeg n)
  have F3 := Aside.mk (((Fr.refl (dfoot b1 a1 c1) w2).setD 2 (.int .i32 0)).setD 1 (.bool n))
  have D := Aside.mk (k.fr F3.out (fun x y q1 q2 => ap1 x y q2 q1))
  have D2 := Aside.mk (k2.fr F3.out (fun x y q1 q2 => ap12 x y q2 q1))
  have T3 := Aside.mk (T1.out.fr F3.out (fun x y q1 q2 => by have := lo1 x y q2; have := T5.out x y q1; omega))
  have G3 := Aside.mk (HG.out.fr (F2.out.trans' F3.out (U := dfoot b1 a1 c1) (fun _ _ _ q => q.elim) (fun _ _ _ q => q)) h1.lo)
  have tb0 := T5.out tb 0 (.inl ⟨rfl, .inl rfl⟩)
  have tb1 : b1 ≠ tb := by have := h1.lt; omega
  have tb2 : b2 ≠ tb := by have := h2.lt; omega
  have H4 : Hid (∀ d, Calls Tryz.prog 97 #[.pointer (some ⟨b1, 3, none⟩), .pointer (some ⟨b, 3, none⟩), .pointer (some ⟨tb, 0, none⟩), .pointer (some ⟨b2, 3, none⟩)] (((w2.setCell ⟨b1, 2, none⟩ (.int .i32 0)).setCell ⟨b1, 1, none⟩ (.bool n)).drewN d) fun ex w4 => ∃ qa qc sa sc, ex = .returned (.tuple #[.pointer (some ⟨b1, 3, none⟩), .pointer (some ⟨b2, 3, none⟩)]) ∧
      Aside (DA w4 b f n e a c X ∧ DA w4 b1 f1 n 0 qa qc (X / 10 ^ m) ∧ DA w4 b2 f2 n2 e2 sa sc (X % 10 ^ m) ∧ Fr (fun x y => ifoot b1 3 a1 c1 x y ∨ ifoot b2 3 a2 c2 x y) ((w2.setCell ⟨b1, 2, none⟩ (.int .i32 0)).setCell ⟨b1, 1, none⟩ (.bool n)) w4 ∧
        Out ((w2.setCell ⟨b1, 2, none⟩ (.int .i32 0)).setCell ⟨b1, 1, none⟩ (.bool n)) a1 c1 qa qc ∧ Out ((w2.setCell ⟨b1, 2, none⟩ (.int .i32 0)).setCell ⟨b1, 1, none⟩ (.bool n)) a2 c2 sa sc ∧ Disj qa qc sa sc)) := Lib.hid (fun d => by
    refine (bQuoRem_any (G3.out.fr ((Fr.refl (fun _ _ => False) _).drewN d) (fun _ _ q => q.elim)) (D1.out.num.drewN d) (D2.out.num.drewN d) (D.out.num.drewN d) (T3.out.drewN d) (Nat.pow_pos (by omega)) (nlen_ten40 HM.out) hn (.inl hb12) (.inl hb1) (.inl tb1) (.inl hb2) (.inl tb2)
      (fun x y q1 q2 => ap12 x y (.inr q1) (.inr q2)) (.inr (fun x y q1 q2 => ap1 x y (.inr q1) (.inr q2))) (.inr (fun x y q1 q2 => ap2 x y (.inr q1) (.inr q2)))).mono ?_
    rintro ex w4 ⟨qa, qc, sa, sc, rfl, K⟩
    have F4 := ((Fr.refl (fun x y => ifoot b1 3 a1 c1 x y ∨ ifoot b2 3 a2 c2 x y) ((w2.setCell ⟨b1, 2, none⟩ (.int .i32 0)).setCell ⟨b1, 1, none⟩ (.bool n))).drewN d).trans K.out.2.2.1
    obtain ⟨q1, q2, q3⟩ := modf_end D.out D1.out D2.out ap1 ap2 ap12 K.out.1 K.out.2.1 F4
    exact ⟨qa, qc, sa, sc, rfl, ⟨q1, q2, q3, F4, K.out.2.2.2.1, K.out.2.2.2.2.1, K.out.2.2.2.2.2⟩⟩)
  have v1 := k1.exp
  have v2 := k1.neg
  have v3 := k1.num.blk.free 2
  have v4 := k1.num.blk.free 1
  clear h h1 h2 ap1 ap2 ap12 hn k k1 k2 lo1 tb0 T5 T1 T3 G3 D x0
  have r1 := D2.out.exp
  go_wp2_with fail
  go_region_with (go_at_call 97; go_must (refine (H4.out _).mono ?_; rintro ex w4 ⟨qa, qc, sa, sc, rfl, K⟩))
  all_goals
    clear H4
    have u1 := K.out.1.exp
    have u2 := K.out.2.2.1.exp
    have u3 := K.out.2.2.1.neg
    have u4 := K.out.2.2.1.num.blk.free 2
    have u5 := K.out.2.2.1.num.blk.free 1
    clear r1 v1 v2 v3 v4 x1
    go_wp2_with fail
    go_end0
    obtain ⟨h, h1, h2, ap1, ap2, ap12, hn⟩ := HZ.out
    obtain ⟨k, k1, k2, F4, o1, o2, dj⟩ := K.out
    have F5 : Fr (fun x _ => x = b2) w4 ((w4.setCell ⟨b2, 2, none⟩ (.int .i32 e)).setCell ⟨b2, 1, none⟩ (.bool n)) := ((Fr.refl _ w4).setCell b2 2 _ (fun _ => rfl)).setCell b2 1 _ (fun _ => rfl)
    have F23 := F2.out.trans' F3.out (U := dfoot b1 a1 c1) (fun _ _ _ q => q.elim) (fun _ _ _ q => q)
    refine ⟨qa, qc, sa, sc, rfl, ⟨k1.fr F5 (fun x y q1 q2 => ?_), (k2.setExp e).setNeg n, ?_, o1.older F23.size, o2.older F23.size, dj⟩⟩
    · subst q2
      rcases q1 with q1 | q1
      · exact hb12' q1
      · exact ap12 _ _ (.inr (D1.out.far (w' := w) o1 _ _ D2.out.lt q1)) (.inl rfl)
    · exact (F23.trans' F4 (U := fun x y => dfoot b1 a1 c1 x y ∨ dfoot b2 a2 c2 x y) (fun _ _ _ q => .inl q) (fun _ _ _ q => q.imp (ifoot_d _ _) (ifoot_d _ _))).trans' F5 (fun _ _ _ q => q) (fun _ _ _ q => .inr (.inl q))
end Go.Proofs.YtgilnnipephfjaaGreatDoor
namespace Go.Proofs.YtgilnnipephfjaaGreatDoor
open Go.RowKit

set_option maxRecDepth 100000 in
set_option maxHeartbeats 2000000 in
theorem modf_whole_i {w : World} {b b1 : Nat} {f f1 : Int} {n n1 : Bool} {e e1 : Int} {a a1 : Option Addr} {c c1 X X1 : Nat} (hG : NG ≤ w.heap.size) (h : DA w b f n e a c X) (h1 : DA w b1 f1 n1 e1 a1 c1 X1)
    (he : 0 < e) (ap1 : DAp b1 a1 c1 b a c) (hn : nlen X < 900000) :
    Calls Tryz.prog 64 #[.pointer (some ⟨b, 0, none⟩), .pointer (some ⟨b1, 0, none⟩), .pointer none] w fun ex w' => ∃ a3 c3, ex = .returned (.tuple #[]) ∧
      Aside (DA w' b1 f n e a3 c3 X ∧ Fr (dfoot b1 a1 c1) w w' ∧ Out w a1 c1 a3 c3) := by
  have H2 := Lib.hid (dSet_other hG h1 h ap1 hn)
  have x0 := h.neg
  have x1 := h.exp
  clear h h1 ap1
  go_enter Tryz.func64, Tryz.ntmps64
  go_wp2_with fail
  refine H2.out.mono ?_
  rintro ex w2 ⟨a3, c3, rfl, k⟩
  have K := Aside.mk k
  clear H2 k
  go_wp2_with fail
  (try simp only [Exit.inBlock, Exit.then])
  refine bodyPost_ret (results_none rfl _ _ _) rfl ?_
  exact ⟨a3, c3, rfl, K⟩
set_option maxRecDepth 100000 in
set_option maxHeartbeats 2000000 in
theorem modf_whole_f {w : World} {b b2 : Nat} {f f2 : Int} {n n2 : Bool} {e e2 : Int} {a a2 : Option Addr} {c c2 X X2 : Nat} (hG : NG ≤ w.heap.size) (h : DA w b f n e a c X) (h2 : DA w b2 f2 n2 e2 a2 c2 X2)
    (he : 0 < e) (ap2 : DAp b2 a2 c2 b a c) :
    Calls Tryz.prog 64 #[.pointer (some ⟨b, 0, none⟩), .pointer none, .pointer (some ⟨b2, 0, none⟩)] w fun ex w' => ∃ a4 c4, ex = .returned (.tuple #[]) ∧
      Aside (DA w' b2 f2 n 0 a4 c4 0 ∧ Fr (dfoot b2 a2 c2) w w' ∧ Out w a2 c2 a4 c4) := by
  have hb2 : ¬ b2 = b := fun k => ap2 b2 0 (.inl rfl) (.inl k)
  have hb2' : ¬ b = b2 := fun k => hb2 k.symm
  have D2 := Aside.mk ((h2.setNeg n).setExp 0)
  have F2 := Aside.mk (((Fr.refl (dfoot b2 a2 c2) w).setD 1 (.bool n)).setD 2 (.int .i32 0))
  have H1 := Lib.hid (bSetInt64 0 (Nat.le_trans hG F2.out.size) D2.out.num (by omega) (by omega))
  have x0 := h.neg
  have x1 := h.exp
  have z1 := h2.neg
  have z2 := h2.exp
  have g1 := h2.num.blk.free 1
  have g2 := h2.num.blk.free 2
  clear h h2 ap2
  go_enter Tryz.func64, Tryz.ntmps64
  go_wp2_with fail
  refine H1.out.mono ?_
  rintro ex w1 ⟨a4, c4, rfl, s1, s2, s3⟩
  have D3 := Aside.mk (D2.out.put (Y := 0) (by simpa using s1) s2)
  have F3 := Aside.mk (F2.out.trans' s2 (U := dfoot b2 a2 c2) (fun _ _ _ k => k) (fun x y _ k => ifoot_d x y k))
  have O3 := Aside.mk (s3.older F2.out.size)
  clear s1 s2 s3 H1
  go_wp2_with fail
  (try simp only [Exit.inBlock, Exit.then])
  refine bodyPost_ret (results_none rfl _ _ _) rfl ?_
  exact ⟨a4, c4, rfl, ⟨D3.out, F3.out, O3.out⟩⟩
set_option maxRecDepth 100000 in
set_option maxHeartbeats 2000000 in
theorem modf_small_i {w : World} {b b1 : Nat} {f f1 : Int} {n n1 : Bool} {e e1 : Int} {a a1 : Option Addr} {c c1 X X1 : Nat} (g : Gl w) (h : DA w b f n e a c X) (h1 : DA w b1 f1 n1 e1 a1 c1 X1)
    (he : e ≤ 0) (hlo : -2147483648 ≤ e) (hd : (ndig X : Int) < -e) (hX : bl X ≤ 1100) (ap1 : DAp b1 a1 c1 b a c) :
    Calls Tryz.prog 64 #[.pointer (some ⟨b, 0, none⟩), .pointer (some ⟨b1, 0, none⟩), .pointer none] w fun ex w' => ∃ a3 c3, ex = .returned (.tuple #[]) ∧
      Aside (DA w' b1 f1 n 0 a3 c3 0 ∧ Fr (dfoot b1 a1 c1) w w' ∧ Out w a1 c1 a3 c3) := by
  have hb1 : ¬ b1 = b := fun k => ap1 b1 0 (.inl rfl) (.inl k)
  have hb1' : ¬ b = b1 := fun k => hb1 k.symm
  have hw1 : IntKind.i64.wrap e = e := by rw [IntKind.wrap_i64]; omega
  have hw2 : IntKind.i64.wrap (-e) = -e := by rw [IntKind.wrap_i64]; omega
  have H0 := Lib.hid (dNumDigits_any g h hX)
  have hG := g.size
  have HZ := Aside.mk (And.intro h h1)
  have y0 := h.neg
  have y1 := h.exp
  clear h h1 ap1 g hX
  go_enter Tryz.func64, Tryz.ntmps64
  go_wp2_with fail
  refine H0.out.mono ?_
  rintro ex w1 ⟨rfl, F0⟩
  have k := HZ.out.1.fr F0 (fun _ _ _ q => q)
  have k1 := HZ.out.2.fr F0 (fun _ _ _ q => q)
  have D2 := Aside.mk ((k1.setNeg n).setExp 0)
  have F2 := Aside.mk (((Fr.refl (dfoot b1 a1 c1) w1).setD 1 (.bool n)).setD 2 (.int .i32 0))
  have FF := Aside.mk F0
  have H1 := Lib.hid (bSetInt64 0 (Nat.le_trans hG (Nat.le_trans F0.size F2.out.size)) D2.out.num (by omega) (by omega))
  have x0 := k.neg
  have x1 := k.exp
  have z1 := k1.neg
  have z2 := k1.exp
  have g1 := k1.num.blk.free 1
  have g2 := k1.num.blk.free 2
  clear k k1 F0 H0 y0 y1
  go_wp2_with fail
  refine H1.out.mono ?_
  rintro ex w2 ⟨a4, c4, rfl, s1, s2, s3⟩
  have D3 := Aside.mk (D2.out.put (Y := 0) (by simpa using s1) s2)
  have F3 := Aside.mk (F2.out.trans' s2 (U := dfoot b1 a1 c1) (fun _ _ _ k => k) (fun x y _ k => ifoot_d x y k))
  have O3 := Aside.mk ((s3.older F2.out.size).older FF.out.size)
  clear s1 s2 s3 H1
  go_wp2_with fail
  (try simp only [Exit.inBlock, Exit.then])
  refine bodyPost_ret (results_none rfl _ _ _) rfl ?_
  exact ⟨a4, c4, rfl, ⟨D3.out, FF.out.trans' F3.out (fun _ _ _ q => q.elim) (fun _ _ _ q => q), O3.out⟩⟩
set_option maxRecDepth 100000 in
set_option maxHeartbeats 2000000 in
theorem modf_small_f {w : World} {b b2 : Nat} {f f2 : Int} {n n2 : Bool} {e e2 : Int} {a a2 : Option Addr} {c c2 X X2 : Nat} (g : Gl w) (h : DA w b f n e a c X) (h2 : DA w b2 f2 n2 e2 a2 c2 X2)
    (he : e ≤ 0) (hlo : -2147483648 ≤ e) (hd : (ndig X : Int) < -e) (hX : bl X ≤ 1100) (ap2 : DAp b2 a2 c2 b a c) (hn : nlen X < 900000) :
    Calls Tryz.prog 64 #[.pointer (some ⟨b, 0, none⟩), .pointer none, .pointer (some ⟨b2, 0, none⟩)] w fun ex w' => ∃ a4 c4, ex = .returned (.tuple #[]) ∧
      Aside (DA w' b2 f n e a4 c4 X ∧ Fr (dfoot b2 a2 c2) w w' ∧ Out w a2 c2 a4 c4) := by
  have hw1 : IntKind.i64.wrap e = e := by rw [IntKind.wrap_i64]; omega
  have hw2 : IntKind.i64.wrap (-e) = -e := by rw [IntKind.wrap_i64]; omega
  have H0 := Lib.hid (dNumDigits_any g h hX)
  have H2 : Hid (∀ (w2 : World), Fr (fun _ _ => False) w w2 → Calls Tryz.prog 94 #[.pointer (some ⟨b2, 0, none⟩), .pointer (some ⟨b, 0, none⟩)] w2 fun ex w' => ∃ a3 c3, ex = .returned (.pointer (some ⟨b2, 0, none⟩)) ∧ Aside (DA w' b2 f n e a3 c3 X ∧ Fr (dfoot b2 a2 c2) w2 w' ∧ Out w a2 c2 a3 c3)) := Lib.hid (fun w2 F => by
    refine (dSet_other (Nat.le_trans g.size F.size) (h2.fr F (fun _ _ _ q => q)) (h.fr F (fun _ _ _ q => q)) ap2 hn).mono ?_
    rintro ex w3 ⟨a3, c3, rfl, k1, k2, k3⟩
    exact ⟨a3, c3, rfl, ⟨k1, k2, k3.older F.size⟩⟩)
  have HZ := Aside.mk h
  have y0 := h.neg
  have y1 := h.exp
  clear h h2 ap2 hn g hX
  go_enter Tryz.func64, Tryz.ntmps64
  go_wp2_with fail
  refine H0.out.mono ?_
  rintro ex w1 ⟨rfl, F0⟩
  have FF := Aside.mk F0
  have x1 := (HZ.out.fr F0 (fun _ _ _ q => q)).exp
  clear F0 H0 y0 y1
  go_wp2_with fail
  refine (H2.out _ FF.out).mono ?_
  rintro ex w3 ⟨a3, c3, rfl, k⟩
  clear H2
  go_wp2_with fail
  (try simp only [Exit.inBlock, Exit.then])
  refine bodyPost_ret (results_none rfl _ _ _) rfl ?_
  exact ⟨a3, c3, rfl, ⟨k.out.1, FF.out.trans' k.out.2.1 (fun _ _ _ q => q.elim) (fun _ _ _ q => q), k.out.2.2⟩⟩
end Go.Proofs.YtgilnnipephfjaaGreatDoor
namespace Go.Proofs.YtgilnnipephfjaaGreatDoor
open Go.RowKit

set_option maxRecDepth 100000 in
set_option maxHeartbeats 4000000 in
theorem modf_div_i {w : World} {b b1 m : Nat} {f f1 : Int} {n n1 : Bool} {e e1 : Int} {a a1 : Option Addr} {c c1 X X1 : Nat} (g : Gl w) (h : DA w b f n e a c X) (h1 : DA w b1 f1 n1 e1 a1 c1 X1)
    (he : e = -(m : Int)) (hm : m ≤ 420) (hd : m ≤ ndig X) (hX : bl X ≤ 1100) (ap1 : DAp b1 a1 c1 b a c) (hn : nlen X < 1000) :
    Calls Tryz.prog 64 #[.pointer (some ⟨b, 0, none⟩), .pointer (some ⟨b1, 0, none⟩), .pointer none] w fun ex w' => ∃ a3 c3, ex = .returned (.tuple #[]) ∧
      Aside (DA w' b1 f1 n 0 a3 c3 (X / 10 ^ m) ∧ Fr (dfoot b1 a1 c1) w w' ∧ Out w a1 c1 a3 c3) := by
  have hb1 : ¬ b1 = b := fun k => ap1 b1 0 (.inl rfl) (.inl k)
  have hb1' : ¬ b = b1 := fun k => hb1 k.symm
  have he0 : e ≤ 0 := by omega
  have hw1 : IntKind.i64.wrap e = e := by rw [IntKind.wrap_i64]; omega
  have hw2 : IntKind.i64.wrap (-e) = (m : Int) := by rw [IntKind.wrap_i64]; omega
  have hd1 : ¬ ((ndig X : Int) < (m : Int)) := by omega
  have H0 := Lib.hid (dNumDigits_any g h hX)
  have HZ := Aside.mk (And.intro h (And.intro h1 (And.intro ap1 hn)))
  have HG := Aside.mk g
  have hG := g.size
  have HE := Aside.mk he
  have HM := Aside.mk hm
  have y1 := h.exp
  have y0 := h.neg
  clear h h1 ap1 hn g hX he hd hm
  go_enter Tryz.func64, Tryz.ntmps64
  go_wp2_with fail
  refine H0.out.mono ?_
  rintro ex w1 ⟨rfl, F0⟩
  have FF := Aside.mk F0
  have x0 := (HZ.out.1.fr F0 (fun _ _ _ q => q)).exp
  have x1 := (HZ.out.1.fr F0 (fun _ _ _ q => q)).neg
  have hG1 := Nat.le_trans hG F0.size
  clear F0 H0 y1 y0
  go_wp2_with fail
  have HN := Aside.mk (IA.new hG1 69)
  have F1 := Aside.mk (FF.out.alloc (.cells #[.bool false, .slice none 0 0] 69))
  have HT := Lib.hid (tableExp10_any m HM.out (HG.out.fr F1.out (fun _ _ k => k.elim)) HN.out)
  refine HT.out.mono ?_
  rintro ex w2 ⟨a5, c5, rfl, t1, t2, t3⟩
  have hsz := FF.out.size
  have F2 : Aside (Fr (fun _ _ => False) w w2) := ⟨F1.out.trans' t2 (fun _ _ _ k => k) (fun b o hb k => by
    rcases k with ⟨rfl, _⟩ | k
    · omega
    · exact foot_none _ _ _ k)⟩
  have T1 := Aside.mk t1
  have T5 : Aside (∀ x y, ifoot w1.heap.size 0 a5 c5 x y → w.heap.size ≤ x) := ⟨fun x y q => by
    rcases q with ⟨rfl, _⟩ | q
    · exact hsz
    · rcases t3 with ⟨rfl, rfl⟩ | ⟨b', o', rfl, h7⟩
      · exact absurd q (foot_none _ _ _)
      · rw [foot_some] at q
        simp at h7
        omega⟩
  clear t1 t2 t3 HT HN F1
  obtain ⟨tb, htb⟩ : ∃ t, w1.heap.size = t := ⟨_, rfl⟩
  rw [htb] at T1 T5 ⊢
  obtain ⟨h, h1, ap1, hn⟩ := HZ.out
  have k := h.fr F2.out (fun _ _ _ q => q)
  have k1 := h1.fr F2.out (fun _ _ _ q => q)
  have lo1 : ∀ x y, dfoot b1 a1 c1 x y → x < w.heap.size := fun x y q => by
    rcases q with rfl | q
    · exact h1.lt
    · exact h1.num.nt.reg.lt _ _ q
  have D1 := Aside.mk ((k1.setExp 0).setNeg n)
  have F3 := Aside.mk (((Fr.refl (dfoot b1 a1 c1) w2).setD 2 (.int .i32 0)).setD 1 (.bool n))
  have D := Aside.mk (k.fr F3.out (fun x y q1 q2 => ap1 x y q2 q1))
  have T3 := Aside.mk (T1.out.fr F3.out (fun x y q1 q2 => by have := lo1 x y q2; have := T5.out x y q1; omega))
  have F23 := Aside.mk (F2.out.trans' F3.out (U := dfoot b1 a1 c1) (fun _ _ _ q => q.elim) (fun _ _ _ q => q))
  have G3 := Aside.mk (HG.out.fr F23.out h1.lo)
  have tb0 := T5.out tb 0 (.inl ⟨rfl, .inl rfl⟩)
  have tb1 : b1 ≠ tb := by have := h1.lt; omega
  have H4 : Hid (∀ d, Calls Tryz.prog 98 #[.pointer (some ⟨b1, 3, none⟩), .pointer (some ⟨b, 3, none⟩), .pointer (some ⟨tb, 0, none⟩)] (((w2.setCell ⟨b1, 2, none⟩ (.int .i32 0)).setCell ⟨b1, 1, none⟩ (.bool n)).drewN d) fun ex w4 => ∃ qa qc, ex = .returned (.pointer (some ⟨b1, 3, none⟩)) ∧
      Aside (DA w4 b1 f1 n 0 qa qc (X / 10 ^ m) ∧ Fr (dfoot b1 a1 c1) w w4 ∧ Out w a1 c1 qa qc)) := Lib.hid (fun d => by
    refine (bQuo_any (G3.out.fr ((Fr.refl (fun _ _ => False) _).drewN d) (fun _ _ q => q.elim)) (D1.out.num.drewN d) (D.out.num.drewN d) (T3.out.drewN d) (Nat.pow_pos (by omega)) (nlen_ten40 HM.out) hn (.inl hb1) (.inl tb1)
      (.inr (fun x y q1 q2 => ap1 x y (.inr q1) (.inr q2)))).mono ?_
    rintro ex w4 ⟨qa, qc, rfl, K⟩
    have F4 := ((Fr.refl (ifoot b1 3 a1 c1) ((w2.setCell ⟨b1, 2, none⟩ (.int .i32 0)).setCell ⟨b1, 1, none⟩ (.bool n))).drewN d).trans K.out.2.1
    exact ⟨qa, qc, rfl, ⟨D1.out.put K.out.1 F4, F23.out.trans' F4 (fun _ _ _ q => q) (fun x y _ q => ifoot_d x y q), K.out.2.2.older F23.out.size⟩⟩)
  have v1 := k1.exp
  have v2 := k1.neg
  have v3 := k1.num.blk.free 2
  have v4 := k1.num.blk.free 1
  clear h h1 ap1 hn k k1 lo1 tb0 T5 T1 T3 G3 D x0
  go_wp2_with fail
  refine (H4.out 0).mono ?_
  rintro ex w4 ⟨qa, qc, rfl, K⟩
  clear H4 v1 v2 v3 v4 x1
  go_wp2_with fail
  go_end0
  exact ⟨qa, qc, rfl, K⟩
end Go.Proofs.YtgilnnipephfjaaGreatDoor
namespace Go.Proofs.YtgilnnipephfjaaGreatDoor
open Go.RowKit

set_option maxRecDepth 100000 in
set_option maxHeartbeats 4000000 in
theorem modf_div_f {w : World} {b b2 m : Nat} {f f2 : Int} {n n2 : Bool} {e e2 : Int} {a a2 : Option Addr} {c c2 X X2 : Nat} (g : Gl w) (h : DA w b f n e a c X) (h2 : DA w b2 f2 n2 e2 a2 c2 X2)
    (he : e = -(m : Int)) (hm : m ≤ 420) (hd : m ≤ ndig X) (hX : bl X ≤ 1100) (ap2 : DAp b2 a2 c2 b a c) (hn : nlen X < 1000) :
    Calls Tryz.prog 64 #[.pointer (some ⟨b, 0, none⟩), .pointer none, .pointer (some ⟨b2, 0, none⟩)] w fun ex w' => ∃ a4 c4, ex = .returned (.tuple #[]) ∧
      Aside (DA w' b2 f2 n e a4 c4 (X % 10 ^ m) ∧ Fr (dfoot b2 a2 c2) w w' ∧ Out w a2 c2 a4 c4) := by
  have hb2 : ¬ b2 = b := fun k => ap2 b2 0 (.inl rfl) (.inl k)
  have hb2' : ¬ b = b2 := fun k => hb2 k.symm
  have he0 : e ≤ 0 := by omega
  have hw1 : IntKind.i64.wrap e = e := by rw [IntKind.wrap_i64]; omega
  have hw2 : IntKind.i64.wrap (-e) = (m : Int) := by rw [IntKind.wrap_i64]; omega
  have hd1 : ¬ ((ndig X : Int) < (m : Int)) := by omega
  have H0 := Lib.hid (dNumDigits_any g h hX)
  have HZ := Aside.mk (And.intro h (And.intro h2 (And.intro ap2 hn)))
  have HG := Aside.mk g
  have hG := g.size
  have HE := Aside.mk he
  have HM := Aside.mk hm
  have y1 := h.exp
  have y0 := h.neg
  clear h h2 ap2 hn g hX he hd hm
  go_enter Tryz.func64, Tryz.ntmps64
  go_wp2_with fail
  refine H0.out.mono ?_
  rintro ex w1 ⟨rfl, F0⟩
  have FF := Aside.mk F0
  have x0 := (HZ.out.1.fr F0 (fun _ _ _ q => q)).exp
  have x1 := (HZ.out.1.fr F0 (fun _ _ _ q => q)).neg
  have hG1 := Nat.le_trans hG F0.size
  clear F0 H0 y1 y0
  go_wp2_with fail
  have HN := Aside.mk (IA.new hG1 69)
  have F1 := Aside.mk (FF.out.alloc (.cells #[.bool false, .slice none 0 0] 69))
  have HT := Lib.hid (tableExp10_any m HM.out (HG.out.fr F1.out (fun _ _ k => k.elim)) HN.out)
  refine HT.out.mono ?_
  rintro ex w2 ⟨a5, c5, rfl, t1, t2, t3⟩
  have hsz := FF.out.size
  have F2 : Aside (Fr (fun _ _ => False) w w2) := ⟨F1.out.trans' t2 (fun _ _ _ k => k) (fun b o hb k => by
    rcases k with ⟨rfl, _⟩ | k
    · omega
    · exact foot_none _ _ _ k)⟩
  have T1 := Aside.mk t1
  have T5 : Aside (∀ x y, ifoot w1.heap.size 0 a5 c5 x y → w.heap.size ≤ x) := ⟨fun x y q => by
    rcases q with ⟨rfl, _⟩ | q
    · exact hsz
    · rcases t3 with ⟨rfl, rfl⟩ | ⟨b', o', rfl, h7⟩
      · exact absurd q (foot_none _ _ _)
      · rw [foot_some] at q
        simp at h7
        omega⟩
  clear t1 t2 t3 HT HN F1
  have hsz2 : w1.heap.size < w2.heap.size := by have := T1.out.blk.lt; exact this
  have hG2 : NG ≤ w2.heap.size := Nat.le_trans hG F2.out.size
  clear x0 x1
  obtain ⟨tb, htb⟩ : ∃ t, w1.heap.size = t := ⟨_, rfl⟩
  rw [htb] at T1 T5 hsz2 ⊢
  have tl := T1.out.blk.lt
  obtain ⟨h, h2, ap2, hn⟩ := HZ.out
  have NI := Aside.mk (IA.new hG2 69)
  have F3 : Aside (Fr (fun _ _ => False) w (w2.alloc (.cells #[.bool false, .slice none 0 0] 69))) := Aside.mk (F2.out.alloc _)
  have D := Aside.mk (h.fr F3.out (fun _ _ _ q => q))
  have D2 := Aside.mk (h2.fr F3.out (fun _ _ _ q => q))
  have T3 := Aside.mk (T1.out.fr ((Fr.refl (fun _ _ => False) w2).alloc (.cells #[.bool false, .slice none 0 0] 69)) (fun _ _ _ q => q))
  have G3 := Aside.mk (HG.out.fr F3.out (fun _ _ q => q.elim))
  have sb := F2.out.size
  have i1 : w2.heap.size ≠ b2 := by have := h2.lt; omega
  have i2 : w2.heap.size ≠ b := by have := h.lt; omega
  have i3 : w2.heap.size ≠ tb := by omega
  have tb0 := T5.out tb 0 (.inl ⟨rfl, .inl rfl⟩)
  have i4 : b2 ≠ tb := by have := h2.lt; omega
  have H4 : Hid (∀ d, Calls Tryz.prog 97 #[.pointer (some ⟨w2.heap.size, 0, none⟩), .pointer (some ⟨b, 3, none⟩), .pointer (some ⟨tb, 0, none⟩), .pointer (some ⟨b2, 3, none⟩)] ((w2.alloc (.cells #[.bool false, .slice none 0 0] 69)).drewN d) fun ex w4 => ∃ v sa sc, ex = .returned v ∧
      Aside (DA w4 b f n e a c X ∧ DA w4 b2 f2 n2 e2 sa sc (X % 10 ^ m) ∧ Fr (dfoot b2 a2 c2) w w4 ∧ Out w a2 c2 sa sc)) := Lib.hid (fun d => by
    refine (bQuoRem_any (G3.out.fr ((Fr.refl (fun _ _ => False) _).drewN d) (fun _ _ q => q.elim)) (NI.out.drewN d) (D2.out.num.drewN d) (D.out.num.drewN d) (T3.out.drewN d) (Nat.pow_pos (by omega)) (nlen_ten40 HM.out) hn (.inl i1) (.inl i2) (.inl i3) (.inl hb2) (.inl i4)
      (fun x y q1 _ => foot_none _ _ _ q1) (.inr (fun x y q1 _ => absurd q1 (foot_none _ _ _))) (.inr (fun x y q1 q2 => ap2 x y (.inr q1) (.inr q2)))).mono ?_
    rintro ex w4 ⟨qa, qc, sa, sc, rfl, K⟩
    have F4 := (F3.out.drewN d).trans' K.out.2.2.1 (U := ifoot b2 3 a2 c2) (fun _ _ _ q => q.elim) (fun x y hx q => by
      rcases q with (⟨rfl, _⟩ | q) | q
      · omega
      · exact absurd q (foot_none _ _ _)
      · exact q)
    exact ⟨_, sa, sc, rfl, ⟨h.fr F4 (fun x y q1 q2 => ap2 x y (ifoot_d _ _ q2) q1), h2.put K.out.2.1 F4, F4.trans' (Fr.refl (fun _ _ => False) w4) (fun x y _ q => ifoot_d x y q) (fun _ _ _ q => q.elim), K.out.2.2.2.2.1.older (F3.out.drewN d).size⟩⟩)
  clear h h2 ap2 hn tb0 T5 T1 T3 G3 D D2 NI
  go_wp2_with fail
  go_region_with (go_at_call 97; go_must (refine (H4.out _).mono ?_; rintro ex w4 ⟨v, sa, sc, rfl, K⟩))
  all_goals
    clear H4
    have u1 := K.out.1.exp
    have u2 := K.out.2.1.exp
    have u3 := K.out.2.1.neg
    have u4 := K.out.2.1.num.blk.free 2
    have u5 := K.out.2.1.num.blk.free 1
    go_wp2_with fail
    go_end0
    exact ⟨sa, sc, rfl, ⟨(K.out.2.1.setExp e).setNeg n, (K.out.2.2.1.setD 2 _).setD 1 _, K.out.2.2.2⟩⟩
end Go.Proofs.YtgilnnipephfjaaGreatDoor
namespace Go.Proofs.YtgilnnipephfjaaGreatDoor
open Go.RowKit

/-- The whole part and the rest: exponents and coefficients. -/
def mvE (e : Int) : Int := if 0 < e then e else 0
def mvF (e : Int) : Int := if 0 < e then 0 else e
def mvX (e : Int) (X : Nat) : Nat := if 0 < e then X else if (ndig X : Int) < -e then 0 else X / 10 ^ (-e).toNat
def mvY (e : Int) (X : Nat) : Nat := if 0 < e then 0 else if (ndig X : Int) < -e then X else X % 10 ^ (-e).toNat
theorem mv_up {e : Int} (h : 0 < e) (X : Nat) : mvE e = e ∧ mvF e = 0 ∧ mvX e X = X ∧ mvY e X = 0 := by
  unfold mvE mvF mvX mvY; simp [h]
theorem mv_lo {e : Int} {X : Nat} (h : ¬ 0 < e) (h2 : (ndig X : Int) < -e) : mvE e = 0 ∧ mvF e = e ∧ mvX e X = 0 ∧ mvY e X = X := by
  unfold mvE mvF mvX mvY; simp [h, h2]
theorem mv_mid {e : Int} {X : Nat} (h : ¬ 0 < e) (h2 : ¬ (ndig X : Int) < -e) : mvE e = 0 ∧ mvF e = e ∧ mvX e X = X / 10 ^ (-e).toNat ∧ mvY e X = X % 10 ^ (-e).toNat := by
  unfold mvE mvF mvX mvY; simp [h, h2]
theorem mvX_le (e : Int) (X : Nat) : mvX e X ≤ X := by
  unfold mvX
  split
  · exact Nat.le_refl _
  · split
    · exact Nat.zero_le _
    · exact Nat.div_le_self _ _
theorem mvY_le (e : Int) (X : Nat) : mvY e X ≤ X := by
  unfold mvY
  split
  · exact Nat.zero_le _
  · split
    · exact Nat.le_refl _
    · exact Nat.mod_le _ _
theorem dnone {b x y : Nat} (h : dfoot b none 0 x y) : x = b := by
  rcases h with q | q
  · exact q
  · exact absurd q (foot_none _ _ _)
theorem DAp.fresh {b1 b : Nat} {a : Option Addr} {c : Nat} (h : ∀ x y, dfoot b a c x y → x ≠ b1) : DAp b1 none 0 b a c := fun x y q1 q2 => h x y q2 (dnone q1)
theorem modf_two {w : World} {b b1 b2 : Nat} {n n1 n2 : Bool} {e e1 e2 : Int} {a : Option Addr} {c X X1 X2 : Nat} (g : Gl w) (h : DA w b 0 n e a c X) (h1 : DA w b1 0 n1 e1 none 0 X1) (h2 : DA w b2 0 n2 e2 none 0 X2)
    (he : -2500 ≤ e) (hd : ndig X ≤ 400) (hX : bl X ≤ 1100) (hn : nlen X < 1000) (ap1 : ∀ x y, dfoot b a c x y → x ≠ b1) (ap2 : ∀ x y, dfoot b a c x y → x ≠ b2) (ap12 : b1 ≠ b2) :
    Calls Tryz.prog 64 #[.pointer (some ⟨b, 0, none⟩), .pointer (some ⟨b1, 0, none⟩), .pointer (some ⟨b2, 0, none⟩)] w fun ex w' => ∃ a3 c3 a4 c4, ex = .returned (.tuple #[]) ∧
      Aside (DA w' b1 0 n (mvE e) a3 c3 (mvX e X) ∧ DA w' b2 0 n (mvF e) a4 c4 (mvY e X) ∧ Fr (fun x _ => x = b1 ∨ x = b2) w w' ∧ Out w none 0 a3 c3 ∧ Out w none 0 a4 c4) := by
  have hap12 : DAp b1 none 0 b2 none 0 := fun x y q1 q2 => ap12 ((dnone q1).symm.trans (dnone q2))
  have hfr : ∀ {w w' : World}, Fr (fun x y => dfoot b1 none 0 x y ∨ dfoot b2 none 0 x y) w w' → Fr (fun x _ => x = b1 ∨ x = b2) w w' := fun f => f.mono (fun _ _ _ q => q.elim (fun q => .inl (dnone q)) (fun q => .inr (dnone q)))
  by_cases h0 : 0 < e
  · obtain ⟨q1, q2, q3, q4⟩ := mv_up h0 X
    rw [q1, q2, q3, q4]
    refine (modf_whole g.size h h1 h2 h0 (.fresh ap1) (.fresh ap2) hap12 (by omega)).mono ?_
    rintro ex w' ⟨a3, c3, a4, c4, rfl, k⟩
    exact ⟨a3, c3, a4, c4, rfl, ⟨k.out.1, k.out.2.1, hfr k.out.2.2.1, k.out.2.2.2.1, k.out.2.2.2.2⟩⟩
  · by_cases h3 : (ndig X : Int) < -e
    · obtain ⟨q1, q2, q3, q4⟩ := mv_lo h0 h3
      rw [q1, q2, q3, q4]
      refine (modf_small g h h1 h2 (by omega) (by omega) h3 hX (.fresh ap1) (.fresh ap2) hap12 (by omega)).mono ?_
      rintro ex w' ⟨a3, c3, a4, c4, rfl, k⟩
      exact ⟨a3, c3, a4, c4, rfl, ⟨k.out.1, k.out.2.1, hfr k.out.2.2.1, k.out.2.2.2.1, k.out.2.2.2.2⟩⟩
    · obtain ⟨q1, q2, q3, q4⟩ := mv_mid h0 h3
      rw [q1, q2, q3, q4]
      refine (modf_div (m := (-e).toNat) g h h1 h2 (by omega) (by omega) (by omega) hX (.fresh ap1) (.fresh ap2) hap12 hn).mono ?_
      rintro ex w' ⟨a3, c3, a4, c4, rfl, k⟩
      exact ⟨a3, c3, a4, c4, rfl, ⟨k.out.1, k.out.2.1, hfr k.out.2.2.1, k.out.2.2.2.1, k.out.2.2.2.2.1⟩⟩
theorem modf_int {w : World} {b b1 : Nat} {n n1 : Bool} {e e1 : Int} {a : Option Addr} {c X X1 : Nat} (g : Gl w) (h : DA w b 0 n e a c X) (h1 : DA w b1 0 n1 e1 none 0 X1)
    (he : -2500 ≤ e) (hd : ndig X ≤ 400) (hX : bl X ≤ 1100) (hn : nlen X < 1000) (ap1 : ∀ x y, dfoot b a c x y → x ≠ b1) :
    Calls Tryz.prog 64 #[.pointer (some ⟨b, 0, none⟩), .pointer (some ⟨b1, 0, none⟩), .pointer none] w fun ex w' => ∃ a3 c3, ex = .returned (.tuple #[]) ∧
      Aside (DA w' b1 0 n (mvE e) a3 c3 (mvX e X) ∧ Fr (fun x _ => x = b1) w w' ∧ Out w none 0 a3 c3) := by
  have hfr : ∀ {w w' : World}, Fr (dfoot b1 none 0) w w' → Fr (fun x _ => x = b1) w w' := fun f => f.mono (fun _ _ _ q => dnone q)
  by_cases h0 : 0 < e
  · obtain ⟨q1, q2, q3, q4⟩ := mv_up h0 X
    rw [q1, q3]
    refine (modf_whole_i g.size h h1 h0 (.fresh ap1) (by omega)).mono ?_
    rintro ex w' ⟨a3, c3, rfl, k⟩
    exact ⟨a3, c3, rfl, ⟨k.out.1, hfr k.out.2.1, k.out.2.2⟩⟩
  · by_cases h3 : (ndig X : Int) < -e
    · obtain ⟨q1, q2, q3, q4⟩ := mv_lo h0 h3
      rw [q1, q3]
      refine (modf_small_i g h h1 (by omega) (by omega) h3 hX (.fresh ap1)).mono ?_
      rintro ex w' ⟨a3, c3, rfl, k⟩
      exact ⟨a3, c3, rfl, ⟨k.out.1, hfr k.out.2.1, k.out.2.2⟩⟩
    · obtain ⟨q1, q2, q3, q4⟩ := mv_mid h0 h3
      rw [q1, q3]
      refine (modf_div_i (m := (-e).toNat) g h h1 (by omega) (by omega) (by omega) hX (.fresh ap1) hn).mono ?_
      rintro ex w' ⟨a3, c3, rfl, k⟩
      exact ⟨a3, c3, rfl, ⟨k.out.1, hfr k.out.2.1, k.out.2.2⟩⟩
theorem modf_frac {w : World} {b b2 : Nat} {n n2 : Bool} {e e2 : Int} {a : Option Addr} {c X X2 : Nat} (g : Gl w) (h : DA w b 0 n e a c X) (h2 : DA w b2 0 n2 e2 none 0 X2)
    (he : -2500 ≤ e) (hd : ndig X ≤ 400) (hX : bl X ≤ 1100) (hn : nlen X < 1000) (ap2 : ∀ x y, dfoot b a c x y → x ≠ b2) :
    Calls Tryz.prog 64 #[.pointer (some ⟨b, 0, none⟩), .pointer none, .pointer (some ⟨b2, 0, none⟩)] w fun ex w' => ∃ a4 c4, ex = .returned (.tuple #[]) ∧
      Aside (DA w' b2 0 n (mvF e) a4 c4 (mvY e X) ∧ Fr (fun x _ => x = b2) w w' ∧ Out w none 0 a4 c4) := by
  have hfr : ∀ {w w' : World}, Fr (dfoot b2 none 0) w w' → Fr (fun x _ => x = b2) w w' := fun f => f.mono (fun _ _ _ q => dnone q)
  by_cases h0 : 0 < e
  · obtain ⟨q1, q2, q3, q4⟩ := mv_up h0 X
    rw [q2, q4]
    refine (modf_whole_f g.size h h2 h0 (.fresh ap2)).mono ?_
    rintro ex w' ⟨a3, c3, rfl, k⟩
    exact ⟨a3, c3, rfl, ⟨k.out.1, hfr k.out.2.1, k.out.2.2⟩⟩
  · by_cases h3 : (ndig X : Int) < -e
    · obtain ⟨q1, q2, q3, q4⟩ := mv_lo h0 h3
      rw [q2, q4]
      refine (modf_small_f g h h2 (by omega) (by omega) h3 hX (.fresh ap2) (by omega)).mono ?_
      rintro ex w' ⟨a3, c3, rfl, k⟩
      exact ⟨a3, c3, rfl, ⟨k.out.1, hfr k.out.2.1, k.out.2.2⟩⟩
    · obtain ⟨q1, q2, q3, q4⟩ := mv_mid h0 h3
      rw [q2, q4]
      refine (modf_div_f (m := (-e).toNat) g h h2 (by omega) (by omega) (by omega) hX (.fresh ap2) hn).mono ?_
      rintro ex w' ⟨a3, c3, rfl, k⟩
      exact ⟨a3, c3, rfl, ⟨k.out.1, hfr k.out.2.1, k.out.2.2⟩⟩
end Go.Proofs.YtgilnnipephfjaaGreatDoor
