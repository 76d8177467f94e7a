/- The stack's nat: words for a temporary. Contracts of natdiv.go: greaterThan; the guess of a digit. -/
import Derived.Test.YtgilnnipephfjaaGreatDoorM17Stk2
import Derived.Test.YtgilnnipephfjaaGreatDoorM15Vec2
import Derived.Test.YtgilnnipephfjaaGreatDoorM16Stk
import Derived.Test.YtgilnnipephfjaaGreatDoorM09Conv
import Derived.Test.YtgilnnipephfjaaGreatDoorM05Mul3
set_option linter.unusedSimpArgs false
set_option linter.unusedVariables false
namespace Go.Proofs.YtgilnnipephfjaaGreatDoor
open Go.RowKit

set_option maxRecDepth 100000 in
set_option maxHeartbeats 1000000 in
theorem innerNat_any {ib n m c : Nat} {a : Option Addr} {w : World} (hG : NG ≤ w.heap.size) (hc : w.cell? ⟨ib, 0, none⟩ = some (.slice a n c)) (hb : Blk w ib) (hr : SReg w a c) (hn : n ≤ c) (hn2 : n ≤ 10000) (hm0 : 0 < m) (hm : m < 64) :
    Calls Tryz.prog 289 #[.pointer (some ⟨ib, 0, none⟩), .int .i64 m] w fun e w' => ∃ b o c', e = .returned (.slice (some ⟨b, o + n, none⟩) m m) ∧
      w'.cell? ⟨ib, 0, none⟩ = some (.slice (some ⟨b, o, none⟩) (n + (m + 3) / 4 * 4) c') ∧ n + (m + 3) / 4 * 4 ≤ c' ∧ c' ≤ maxLen ∧ Own w' b o c' ∧ ((a = some ⟨b, o, none⟩ ∧ c' = c) ∨ w.heap.size ≤ b) ∧
      Fr (fun x y => (x = ib ∧ y = 0) ∨ ∃ ab ao, a = some ⟨ab, ao, none⟩ ∧ x = ab ∧ ao + n ≤ y ∧ y < ao + c) w w' := by
  have q1 := up4 m hm
  obtain ⟨nr, hnr⟩ : ∃ x, (m + 3) / 4 * 4 = x := ⟨_, rfl⟩
  have hnr1 : m ≤ nr := by omega
  have hnr2 : nr ≤ 100 := by omega
  rw [hnr] at q1 ⊢
  have hcm : c ≤ 9223372036854775807 := hr.1
  have HG := Lib.hid (growW_any a n c nr w hG hr hn (by omega) (by omega))
  have HR := Aside.mk hr
  have hf := hb.free 0
  have HB := Aside.mk hb
  clear hnr hr
  go_enter Tryz.func289, Tryz.ntmps289
  go_wp2_with fail
  refine HG.out.mono ?_
  rintro e w1 ⟨a', c', rfl, h1, h2, h3⟩
  have f1 : Fr (fun _ _ => False) w w1 := by
    rcases h3 with ⟨_, _, rfl⟩ | ⟨_, _, f⟩
    · exact Fr.refl _ _
    · exact f
  obtain ⟨b, o, rfl, ho⟩ : ∃ b o, a' = some ⟨b, o, none⟩ ∧ Own w1 b o c' := by
    rcases h2.2 with ⟨_, k⟩ | k
    · omega
    · exact k
  have hc1 : w1.cell? ⟨ib, 0, none⟩ = some (.slice a n c) := (f1.cell ib 0 hb.lt (fun k => k)).trans hc
  have hf1 : w1.frozen? ⟨ib, 0, none⟩ = false := (f1.blk hb).free 0
  have hcm1 : c' ≤ 9223372036854775807 := h2.1
  have hne : ¬ (c' : Int) = n := by omega
  have hne2 : ¬ c' = n := by omega
  obtain ⟨u, _, hu⟩ := ho.cell n (by omega)
  have hne3 : (⟨ib, 0, none⟩ : Addr) ≠ ⟨b, o + n, none⟩ := by intro e; rw [e, hu] at hc1; cases hc1
  have hfu := ho.free n (by omega)
  have hu' : ((w1.setCell ⟨ib, 0, none⟩ (.slice (some ⟨b, o, none⟩) n c')).setCell ⟨ib, 0, none⟩ (.slice (some ⟨b, o, none⟩) (n + nr) c')).cell? ⟨b, o + n, none⟩ = some (.int .u64 (u : Nat)) := by
    rw [World.cell?_setCell_other _ _ _ _ hne3, World.cell?_setCell_other _ _ _ _ hne3]; exact hu
  have HO := Aside.mk ho
  have F1 := Aside.mk f1
  have H3 := Aside.mk h3
  have H2 := Aside.mk h2.1
  have NE := Aside.mk hne3
  clear h2 h3 ho f1 hne3 hc HG
  go_wp2_with fail
  go_ret
  refine ⟨b, o, c', (show Ending.returned (.slice (some ⟨b, o + n, none⟩) (n + m - n) (n + m - n)) = _ from by rw [Nat.add_sub_cancel_left]), ?_, h1, H2.out, ?_, ?_, ?_⟩
  · rw [World.cell?_setCell_other _ _ _ _ (Ne.symm NE.out)]
    exact World.cell?_setCell_same _ _ _ (World.cell?_setCell_same _ _ _ hc1)
  · have hown : ∀ v, Own (w1.setCell ⟨ib, 0, none⟩ v) b o c' := fun v => by
      refine ((Fr.refl (fun x y => x = ib ∧ y = 0) w1).setCell ib 0 v (fun _ => ⟨rfl, rfl⟩)).own HO.out fun i hi q => ?_
      obtain ⟨q1, q2⟩ := q
      obtain ⟨u2, _, hu2⟩ := HO.out.cell i hi
      rw [q1, q2, hc1] at hu2
      cases hu2
    have hown2 : ∀ s n v', Own ((w1.setCell ⟨ib, 0, none⟩ (.slice s n c')).setCell ⟨ib, 0, none⟩ v') b o c' := fun s n v' => by
      refine ((Fr.refl (fun x y => x = ib ∧ y = 0) (w1.setCell ⟨ib, 0, none⟩ (.slice s n c'))).setCell ib 0 v' (fun _ => ⟨rfl, rfl⟩)).own (hown _) fun i hi q => ?_
      obtain ⟨q1, q2⟩ := q
      obtain ⟨u2, _, hu2⟩ := (hown (.slice s n c')).cell i hi
      rw [q1, q2, World.cell?_setCell_same _ _ _ hc1] at hu2
      cases hu2
    exact (hown2 _ _ _).set b (o + n) (x := 1043915) (by decide)
  · rcases H3.out with ⟨e1, e2, _⟩ | ⟨e1, e2, _⟩
    · exact .inl ⟨e1.symm, e2⟩
    · cases e1; exact .inr (Nat.le_refl _)
  · have f2 := ((F1.out.mono (T := fun x y => (x = ib ∧ y = 0) ∨ ∃ ab ao, a = some ⟨ab, ao, none⟩ ∧ x = ab ∧ ao + n ≤ y ∧ y < ao + c) (fun _ _ _ k => k.elim)).setCell ib 0 (.slice (some ⟨b, o, none⟩) n c') (fun _ => .inl ⟨rfl, rfl⟩)).setCell ib 0 (.slice (some ⟨b, o, none⟩) (n + nr) c') (fun _ => .inl ⟨rfl, rfl⟩)
    refine f2.setCell b (o + n) _ (fun hlt => .inr ?_)
    rcases H3.out with ⟨e1, e2, _⟩ | ⟨e1, e2, _⟩
    · exact ⟨b, o, e1.symm, rfl, by omega, by omega⟩
    · cases e1; omega

/-- What a temporary is: words of the stack's own, no longer free. -/
structure NatOut (w w' : World) (sb so n m xb xo n' : Nat) : Prop where
  own : Own w' xb xo m
  stk : Stk w' sb so n'
  le : n ≤ n'
  le2 : n' ≤ n + 100
  fr : Fr (sfree w sb so n) w w'
  sub : SSub w w' sb so n
  off : ∀ i, i < m → ¬ sfree w' sb so n' xb (xo + i)
  src : ∀ i, i < m → sfree w sb so n xb (xo + i) ∨ w.heap.size ≤ xb

set_option maxRecDepth 100000 in
set_option maxHeartbeats 1000000 in
theorem nat_any {sb so n m : Nat} {w : World} (hG : NG ≤ w.heap.size) (h : Stk w sb so n) (hn2 : n ≤ 10000) (hm0 : 0 < m) (hm : m < 64) :
    Calls Tryz.prog 254 #[.pointer (some ⟨sb, so, none⟩), .int .i64 m] w fun e w' => ∃ xb xo xc n', e = .returned (.slice (some ⟨xb, xo, none⟩) m xc) ∧ m ≤ xc ∧ NatOut w w' sb so n m xb xo n' := by
  obtain ⟨hb, ⟨h1, rfl⟩ | ⟨ib, a, c, h1, h2, h3, h4, h5, h6⟩⟩ := h
  · by_cases hm4 : m ≤ 4
    · have HG := Lib.hid (growN_any none 0 0 m w hG ⟨by decide, .inl ⟨rfl, rfl⟩⟩ (by omega) (by omega) (by omega))
      have hm0' : decide (0 < (m : Int)) = true := by simpa using hm0
      have HB := Aside.mk hb
      go_enter Tryz.func254, Tryz.ntmps254
      go_wp2_with fail
      refine HG.out.mono ?_
      rintro e w1 ⟨a', c', rfl, k1, k2, k3⟩
      obtain ⟨k4, k5, k6⟩ : a' = some ⟨w.heap.size, 0, none⟩ ∧ w.heap.size < w1.heap.size ∧ Fr (fun _ _ => False) w w1 := by
        rcases k3 with ⟨_, rfl, _⟩ | k
        · omega
        · exact k
      subst k4
      have ho : Own w1 w.heap.size 0 c' := by
        rcases k2.2 with ⟨k, _⟩ | ⟨b, o, k, ho⟩
        · cases k
        · cases k; exact ho
      obtain ⟨u, _, hu⟩ := ho.cell 0 (by omega)
      have hf := ho.free 0 (by omega)
      have hcm : c' ≤ 9223372036854775807 := k2.1
      rw [Nat.add_zero] at hu hf
      have HO := Aside.mk ho
      have K6 := Aside.mk k6
      clear k2 k3 k6 ho HG
      go_wp2_with fail
      go_ret
      have g := (K6.out.mono (T := sfree w sb so 0) (fun _ _ _ k => k.elim)).setCell w.heap.size 0 (.int .u64 11259375) (fun k => by omega)
      have hlt := HB.out.lt
      have e1 : (w1.setCell ⟨w.heap.size, 0, none⟩ (.int .u64 11259375)).cell? ⟨sb, so, none⟩ = some (.pointer none) := by
        rw [World.cell?_setCell_other _ _ _ _ (by simp only [ne_eq, Addr.mk.injEq, and_true]; omega)]
        exact (K6.out.cell sb so hlt (fun k => k)).trans h1
      have nf : ∀ j x y, sfree (w1.setCell ⟨w.heap.size, 0, none⟩ (.int .u64 11259375)) sb so j x y → x = sb ∧ y = so := by
        rintro j x y (k | ⟨ib, k, _⟩)
        · exact k
        · rw [e1] at k; cases k
      refine ⟨w.heap.size, 0, c', 0, rfl, by omega, ⟨?_, ⟨g.blk HB.out, .inl ⟨e1, rfl⟩⟩, Nat.le_refl _, by omega, g, ?_, ?_, ?_⟩⟩
      · exact (HO.out.set w.heap.size 0 (x := 11259375) (by decide)).le (by omega)
      · exact fun j x y _ k => .inl (.inl (nf j x y k))
      · intro i hi k
        have := (nf _ _ _ k).1
        omega
      · exact fun _ _ => .inr (Nat.le_refl _)
    · have hm4' : decide ((m : Int) ≤ 4) = false := by simp; omega
      have hf := hb.free so
      have HB := Aside.mk hb
      have HI : Hid (∀ w2, w2 = (w.alloc (.cells #[.slice none 0 0] 296)).setCell ⟨sb, so, none⟩ (.pointer (some ⟨w.heap.size, 0, none⟩)) → Calls Tryz.prog 289 #[.pointer (some ⟨w.heap.size, 0, none⟩), .int .i64 m] w2 fun e w' => ∃ xb xo xc n', e = .returned (.slice (some ⟨xb, xo, none⟩) m xc) ∧ m ≤ xc ∧ NatOut w w' sb so 0 m xb xo n') := Lib.hid (fun w2 hw2 => by
        have hlt := hb.lt
        have g1 := (Fr.refl (sfree w sb so 0) w).alloc (.cells #[.slice none 0 0] 296)
        have g2 := g1.setCell sb so (.pointer (some ⟨w.heap.size, 0, none⟩)) (fun _ => .inl ⟨rfl, rfl⟩)
        rw [← hw2] at g2
        have e1 : w2.cell? ⟨sb, so, none⟩ = some (.pointer (some ⟨w.heap.size, 0, none⟩)) := by
          rw [hw2]; exact World.cell?_setCell_same _ _ _ ((World.cell?_alloc_lt _ _ _ (show sb < _ from hlt)).trans h1)
        have e2 : w2.cell? ⟨w.heap.size, 0, none⟩ = some (.slice none 0 0) := by
          rw [hw2, World.cell?_setCell_other _ _ _ _ (by simp only [ne_eq, Addr.mk.injEq, and_true]; omega), World.cell?_alloc_new]; rfl
        have b2 : Blk w2 w.heap.size := by
          rw [hw2]; exact Blk.of_kind (w := w.alloc (.cells #[.slice none 0 0] 296)) ⟨hG, _, kind_alloc_new _ _ _ _⟩ (kind_setCell _ _ _ _)
        refine (innerNat_any (Nat.le_trans hG g2.size) e2 b2 ⟨by decide, .inl ⟨rfl, rfl⟩⟩ (Nat.le_refl _) (by omega) hm0 hm).mono ?_
        rintro e w3 ⟨b, o, c', rfl, k1, k2, k3, k4, k5, k6⟩
        have k5' : w2.heap.size ≤ b := by
          rcases k5 with ⟨k, _⟩ | k
          · cases k
          · exact k
        have hs2 := g2.size
        have f3 : Fr (sfree w sb so 0) w w3 := g2.trans' k6 (fun _ _ _ k => k) (fun x y hx k => by
          rcases k with ⟨rfl, _⟩ | ⟨_, _, k, _⟩
          · omega
          · cases k)
        have hs2' : w2.heap.size = w.heap.size + 1 := by rw [hw2]; simp
        have e3 : w3.cell? ⟨sb, so, none⟩ = some (.pointer (some ⟨w.heap.size, 0, none⟩)) := by
          refine (k6.cell sb so (by omega) ?_).trans e1
          rintro (⟨k, _⟩ | ⟨_, _, k, _⟩)
          · omega
          · cases k
        have nf : ∀ j x y, sfree w3 sb so j x y → (x = sb ∧ y = so) ∨ (x = w.heap.size ∧ y = 0) ∨ (x = b ∧ o + j ≤ y) := by
          rintro j x y (k | ⟨ib, k, q⟩)
          · exact .inl k
          · rw [e3] at k; cases k
            rcases q with q | ⟨ab, ao, l, c2, q1, q2, q3, q4⟩
            · exact .inr (.inl q)
            · rw [k1] at q1; cases q1
              exact .inr (.inr ⟨q2, q3⟩)
        refine ⟨b, o + 0, m, 0 + (m + 3) / 4 * 4, rfl, Nat.le_refl _, ⟨?_, ⟨f3.blk hb, .inr ⟨_, _, _, e3, k1, k6.blk b2, k2, k3, .inr ⟨b, o, rfl, k4⟩⟩⟩, by omega, by omega, f3, ?_, ?_, ?_⟩⟩
        · exact k4.le (by omega)
        · intro j x y _ k
          rcases nf j x y k with k | k | k
          · exact .inl (.inl k)
          · exact .inr (by omega)
          · exact .inr (by omega)
        · intro i hi k
          rcases nf _ _ _ k with k | k | k
          · omega
          · omega
          · omega
        · exact fun _ _ => .inr (by omega))
      have fa : (w.alloc (.cells #[.slice none 0 0] 296)).frozen? ⟨sb, so, none⟩ = false := (frozen_kind (kind_alloc w _ sb hb.lt) so).trans hf
      have ca : (w.alloc (.cells #[.slice none 0 0] 296)).cell? ⟨sb, so, none⟩ = some (.pointer none) := (World.cell?_alloc_lt _ _ _ (show sb < _ from hb.lt)).trans h1
      go_enter Tryz.func254, Tryz.ntmps254
      go_wp2_with fail
      refine (HI.out _ rfl).mono ?_
      rintro e w3 ⟨xb, xo, xc, n', rfl, k1, k2⟩
      have K2 := Aside.mk k2
      clear k2 HI
      go_wp2_with fail
      go_ret
      exact ⟨xb, xo, xc, n', rfl, k1, K2.out⟩
  · have HI : Hid (Calls Tryz.prog 289 #[.pointer (some ⟨ib, 0, none⟩), .int .i64 m] w fun e w' => ∃ xb xo xc n', e = .returned (.slice (some ⟨xb, xo, none⟩) m xc) ∧ m ≤ xc ∧ NatOut w w' sb so n m xb xo n') := Lib.hid (by
      refine (innerNat_any hG h2 h3 ⟨h5, h6⟩ h4 hn2 hm0 hm).mono ?_
      rintro e w3 ⟨b, o, c', rfl, k1, k2, k3, k4, k5, k6⟩
      have tw : ∀ x y, ((x = ib ∧ y = 0) ∨ ∃ ab ao, a = some ⟨ab, ao, none⟩ ∧ x = ab ∧ ao + n ≤ y ∧ y < ao + c) → sfree w sb so n x y := by
        rintro x y (k | ⟨ab, ao, rfl, k⟩)
        · exact .inr ⟨ib, h1, .inl k⟩
        · exact .inr ⟨ib, h1, .inr ⟨ab, ao, n, c, h2, k⟩⟩
      have f3 : Fr (sfree w sb so n) w w3 := k6.mono (fun x y _ k => tw x y k)
      have e3 : w3.cell? ⟨sb, so, none⟩ = some (.pointer (some ⟨ib, 0, none⟩)) := by
        refine (k6.cell sb so hb.lt ?_).trans h1
        rintro (⟨q1, q2⟩ | ⟨ab, ao, rfl, q1, q2, q3⟩)
        · rw [q1, q2, h2] at h1; cases h1
        · rcases h6 with ⟨q, _⟩ | ⟨ab', ao', q, ho⟩
          · cases q
          · cases q
            obtain ⟨u, _, hu⟩ := ho.cell (so - ao) (by omega)
            rw [show ao + (so - ao) = so from by omega, ← q1, h1] at hu
            cases hu
      have nf : ∀ j x y, sfree w3 sb so j x y → (x = sb ∧ y = so) ∨ (x = ib ∧ y = 0) ∨ (x = b ∧ o + j ≤ y ∧ y < o + c') := by
        rintro j x y (k | ⟨ib', k, q⟩)
        · exact .inl k
        · rw [e3] at k; cases k
          rcases q with q | ⟨ab, ao, l, c2, q1, q2, q3, q4⟩
          · exact .inr (.inl q)
          · rw [k1] at q1; cases q1
            exact .inr (.inr ⟨q2, q3, q4⟩)
      have hpc : ∀ i, i < c' → (⟨b, o + i, none⟩ : Addr) ≠ ⟨sb, so, none⟩ ∧ (⟨b, o + i, none⟩ : Addr) ≠ ⟨ib, 0, none⟩ := by
        intro i hi
        obtain ⟨u, _, hu⟩ := k4.cell i hi
        refine ⟨fun q => ?_, fun q => ?_⟩
        · rw [q, e3] at hu; cases hu
        · rw [q, k1] at hu; cases hu
      refine ⟨b, o + n, m, n + (m + 3) / 4 * 4, rfl, Nat.le_refl _, ⟨k4.sub n m (by omega), ⟨f3.blk hb, .inr ⟨_, _, _, e3, k1, k6.blk h3, k2, k3, .inr ⟨b, o, rfl, k4⟩⟩⟩, by omega, by omega, f3, ?_, ?_, ?_⟩⟩
      · intro j x y _ k
        rcases nf j x y k with k | k | k
        · exact .inl (.inl k)
        · exact .inl (.inr ⟨ib, h1, .inl k⟩)
        · rcases k5 with ⟨rfl, rfl⟩ | k5
          · exact .inl (.inr ⟨ib, h1, .inr ⟨b, o, n, c', h2, k⟩⟩)
          · exact .inr (by omega)
      · intro i hi k
        have hp := hpc (n + i) (by omega)
        rcases nf _ _ _ k with k | k | k
        · obtain ⟨q1, q2⟩ := k
          apply hp.1; rw [q1, ← Nat.add_assoc, q2]
        · obtain ⟨q1, q2⟩ := k
          apply hp.2; rw [q1, ← Nat.add_assoc, q2]
        · omega
      · intro i hi
        rcases k5 with ⟨rfl, rfl⟩ | k5
        · exact .inl (.inr ⟨ib, h1, .inr ⟨b, o, n, c', h2, rfl, by omega, by omega⟩⟩)
        · exact .inr k5)
    clear h2 h3 h6
    go_enter Tryz.func254, Tryz.ntmps254
    go_wp2_with fail
    refine HI.out.mono ?_
    rintro e w3 ⟨xb, xo, xc, n', rfl, k1, k2⟩
    have K2 := Aside.mk k2
    clear k2 HI
    go_wp2_with fail
    go_ret
    exact ⟨xb, xo, xc, n', rfl, k1, K2.out⟩
end Go.Proofs.YtgilnnipephfjaaGreatDoor
namespace Go.Proofs.YtgilnnipephfjaaGreatDoor
open Go.RowKit

theorem gt_two {x1 x2 y1 y2 : Nat} (hx : x2 < B) (hy : y2 < B) : (y1 * B + y2 < x1 * B + x2) ↔ (y1 < x1 ∨ (x1 = y1 ∧ y2 < x2)) := by
  generalize B = b at *
  constructor
  · intro h
    by_cases h1 : y1 < x1
    · exact .inl h1
    · by_cases h2 : x1 = y1
      · subst h2; right; exact ⟨rfl, by omega⟩
      · have : (x1 + 1) * b ≤ y1 * b := Nat.mul_le_mul_right _ (by omega)
        rw [Nat.succ_mul] at this
        omega
  · rintro (h | ⟨rfl, h⟩)
    · have : (y1 + 1) * b ≤ x1 * b := Nat.mul_le_mul_right _ h
      rw [Nat.succ_mul] at this
      omega
    · omega
theorem greaterThan_any (x1 x2 y1 y2 : Nat) (w : World) (hx : x2 < B) (hy : y2 < B) :
    Calls Tryz.prog 291 #[.int .u64 x1, .int .u64 x2, .int .u64 y1, .int .u64 y2] w fun e w' => e = .returned (.bool (decide (y1 * B + y2 < x1 * B + x2))) ∧ w' = w := by
  have hd : decide (y1 * B + y2 < x1 * B + x2) = (decide (y1 < x1) || (decide (x1 = y1) && decide (y2 < x2))) := by
    rw [Bool.eq_iff_iff]
    simp only [decide_eq_true_eq, Bool.or_eq_true, Bool.and_eq_true]
    exact gt_two hx hy
  rw [hd]
  clear hd hx hy
  by_cases h1 : y1 < x1
  · have q1 : decide (y1 < x1) = true := by simpa using h1
    rw [q1]
    go_enter Tryz.func291, Tryz.ntmps291
    go_wp2_with fail
    go_ret
    exact ⟨rfl, rfl⟩
  · have q1 : decide (y1 < x1) = false := by simpa using h1
    by_cases h2 : x1 = y1
    · have q2 : decide (x1 = y1) = true := by simpa using h2
      have q3 : ((x1 : Int) == y1) = true := by subst h2; simp
      rw [q1, q2]
      simp only [Bool.false_or, Bool.true_and]
      clear h2
      go_enter Tryz.func291, Tryz.ntmps291
      go_wp2_with fail
      go_ret
      exact ⟨by simp, rfl⟩
    · have q2 : decide (x1 = y1) = false := by simpa using h2
      have q3 : ((x1 : Int) == y1) = false := by simp; omega
      rw [q1, q2]
      simp only [Bool.false_or, Bool.false_and]
      go_enter Tryz.func291, Tryz.ntmps291
      go_wp2_with fail
      go_ret
      exact ⟨rfl, rfl⟩

theorem div_word {V k : Nat} (hV : V < B ^ (k + 1)) : V / B ^ k = wd V k := by
  unfold wd; rw [Nat.mod_eq_of_lt (Nat.div_lt_of_lt_mul (by rwa [Nat.pow_succ] at hV))]
/-- The guess of a digit of T / V: T's three highest words by V's two, or the greatest word. -/
def guess (t2 t1 t0 v1 v0 : Nat) : Nat := if t2 = v1 then B - 1 else ((t2 * B + t1) * B + t0) / (v1 * B + v0)
theorem guess_ok {R V j p : Nat} (hV : V < B ^ (p + 2)) (hT : R / B ^ j < V * B) (htop : B ≤ 2 * wd V (p + 1)) :
    wd R (j + (p + 2)) ≤ wd V (p + 1) ∧ R / B ^ j / V ≤ guess (wd R (j + (p + 2))) (wd R (j + (p + 1))) (wd R (j + p)) (wd V (p + 1)) (wd V p) ∧
    guess (wd R (j + (p + 2))) (wd R (j + (p + 1))) (wd R (j + p)) (wd V (p + 1)) (wd V p) ≤ R / B ^ j / V + 1 ∧ guess (wd R (j + (p + 2))) (wd R (j + (p + 1))) (wd R (j + p)) (wd V (p + 1)) (wd V p) < B := by
  have e0 := wd_div R j p
  have e1 := wd_div R j (p + 1)
  have e2 := wd_div R j (p + 2)
  rw [← e0, ← e1, ← e2]
  generalize R / B ^ j = T at *
  have hT2 : T < B ^ (p + 3) := Nat.lt_trans hT (by rw [Nat.pow_succ B (p + 2)]; exact Nat.mul_lt_mul_of_pos_right hV B_pos)
  have d2 : T / B ^ (p + 2) = wd T (p + 2) := div_word hT2
  have d1 : T / B ^ (p + 1) = wd T (p + 2) * B + wd T (p + 1) := by rw [wd_succ_div T (p + 1), d2]
  have d0 : T / B ^ p = (wd T (p + 2) * B + wd T (p + 1)) * B + wd T p := by rw [wd_succ_div T p, d1]
  have c1 : V / B ^ (p + 1) = wd V (p + 1) := div_word hV
  have c0 : V / B ^ p = wd V (p + 1) * B + wd V p := by rw [wd_succ_div V p, c1]
  have k1 := kn_top (n := p + 1) B_pos hT
  rw [d2, c1] at k1
  refine ⟨k1, ?_⟩
  unfold guess
  by_cases h : wd T (p + 2) = wd V (p + 1)
  · rw [if_pos h]
    have := kn_max (n := p + 1) B_pos (by rw [c1]; exact htop) (by rw [d2, c1]; exact h) hT
    exact ⟨this.1, this.2, by have := B_pos; omega⟩
  · rw [if_neg h, ← d0, ← c0]
    have hv1 : 0 < wd V (p + 1) := by have := B_pos; omega
    have hVl : B ^ (p + 1) ≤ V := by
      rw [← c1] at hv1
      exact (Nat.div_pos_iff.1 hv1).2
    have h3 : T / B ^ p < V / B ^ p * B := by
      rw [d0, c0]
      have g1 : (wd T (p + 2) + 1) * B ≤ wd V (p + 1) * B := Nat.mul_le_mul_right _ (by omega)
      rw [Nat.succ_mul] at g1
      have g2 := wd_lt T (p + 1)
      have g3 := wd_lt T p
      have g4 : (wd T (p + 2) * B + wd T (p + 1) + 1) * B ≤ (wd V (p + 1) * B + wd V p) * B := Nat.mul_le_mul_right _ (by omega)
      rw [Nat.succ_mul] at g4
      omega
    have g := kn_guess B_pos hVl h3
    exact ⟨g.1, g.2, Nat.div_lt_of_lt_mul h3⟩
theorem prod_split (x y : Nat) : prodHi x y * B + prodLo x y = x * y := by
  have := Nat.mod_add_div (x * y) B
  unfold prodHi prodLo
  rw [Nat.mul_comm _ B]; omega
theorem prod_down {a v : Nat} (ha : 0 < a) (hv : v < B) : (prodLo a v < v → prodHi (a - 1) v = prodHi a v - 1 ∧ 0 < prodHi a v ∧ prodLo (a - 1) v = prodLo a v + B - v) ∧
    (¬ prodLo a v < v → prodHi (a - 1) v = prodHi a v ∧ prodLo (a - 1) v = prodLo a v - v) := by
  have h1 := prod_split a v
  have h2 := prod_split (a - 1) v
  have l1 : prodLo a v < B := Nat.mod_lt _ B_pos
  have l2 : prodLo (a - 1) v < B := Nat.mod_lt _ B_pos
  obtain ⟨c, rfl⟩ : ∃ c, a = c + 1 := ⟨a - 1, by omega⟩
  rw [Nat.add_sub_cancel] at *
  rw [Nat.succ_mul] at h1
  generalize prodHi (c + 1) v = p1 at *
  generalize prodLo (c + 1) v = p0 at *
  generalize prodHi c v = q1 at *
  generalize prodLo c v = q0 at *
  generalize c * v = w at *
  generalize B = b at *
  constructor
  · intro h
    have hp : p1 = q1 + 1 := by
      have g1 : ¬ p1 ≤ q1 := fun k => by have := Nat.mul_le_mul_right b k; omega
      have g2 : ¬ q1 + 2 ≤ p1 := fun k => by
        have := Nat.mul_le_mul_right b k
        rw [Nat.add_mul] at this; omega
      omega
    subst hp
    rw [Nat.succ_mul] at h1
    omega
  · intro h
    have hp : p1 = q1 := by
      have g1 : ¬ p1 < q1 := fun k => by
        have := Nat.mul_le_mul_right b (show p1 + 1 ≤ q1 from k)
        rw [Nat.succ_mul] at this; omega
      have g2 : ¬ q1 < p1 := fun k => by
        have := Nat.mul_le_mul_right b (show q1 + 1 ≤ p1 from k)
        rw [Nat.succ_mul] at this; omega
      omega
    subst hp
    omega
end Go.Proofs.YtgilnnipephfjaaGreatDoor
