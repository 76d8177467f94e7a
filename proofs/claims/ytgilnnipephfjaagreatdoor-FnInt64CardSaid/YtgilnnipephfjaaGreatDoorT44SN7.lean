/- The reference's numbers: compare, Cmp. The reference's numbers: the product. The reference's numbers: the value of a decimal. -/
import Derived.Test.YtgilnnipephfjaaGreatDoorT43SN4
import Derived.Test.YtgilnnipephfjaaGreatDoorM11Cmp
import Derived.Deep.RegionHeld3
import Derived.Deep.DrawnRows
set_option linter.unusedSimpArgs false
set_option linter.unusedVariables false
namespace Go.Proofs.YtgilnnipephfjaaGreatDoor
open Go.RowKit

theorem sg_lt {X Y : Nat} (h : X < Y) : sg X Y = -1 := by unfold sg; rw [if_pos h]
theorem sg_gt {X Y : Nat} (h : Y < X) : sg X Y = 1 := by unfold sg; rw [if_neg (by omega), if_neg (by omega)]
theorem sg_eq (X : Nat) : sg X X = 0 := by unfold sg; simp
set_option maxRecDepth 100000 in
set_option maxHeartbeats 1000000 in
theorem compare_any {w : World} {a a' : Option Addr} {n c n' c' X Y : Nat} (h : Bf w a n c (dlow X)) (h' : Bf w a' n' c' (dlow Y)) (hn : n ≤ 1000000) (hn' : n' ≤ 1000000) :
    Calls Tryz.prog 46 #[.slice a n c, .slice a' n' c'] w fun e1 w' => e1 = .returned (.int .i64 (sg X Y)) ∧ ∃ d, w' = w.drewN d := by
  have hl := h.len
  have hl' := h'.len
  by_cases hne : n ≠ n'
  · have hb : ((n : Int) != (n' : Int)) = true := by simp; omega
    by_cases hlt : n < n'
    · have e := sg_lt (len_lt (X := X) (Y := Y) (by omega))
      rw [e]
      clear h h' hl hl'
      go_enter Tryz.func46, Tryz.ntmps46
      go_wp2_with fail
      go_ret
      exact ⟨rfl, 0, rfl⟩
    · have e := sg_gt (len_lt (X := Y) (Y := X) (by omega))
      rw [e]
      clear h h' hl hl'
      go_enter Tryz.func46, Tryz.ntmps46
      go_wp2_with fail
      go_ret
      exact ⟨rfl, 0, rfl⟩
  · obtain rfl : n = n' := by omega
    have hbn : ((n : Int) != (n : Int)) = false := by simp
    clear hne
    by_cases h0 : n = 0
    · subst h0
      obtain rfl : X = 0 := dlow_nil.1 hl
      obtain rfl : Y = 0 := dlow_nil.1 hl'
      clear h h' hl hl'
      go_enter Tryz.func46, Tryz.ntmps46
      go_wp2_with fail
      go_loopw [5] (fun iv wr => iv = .int .i64 (-1) ∧ wr = w) (fun _ _ => 0)
      case atStart => exact ⟨rfl, rfl⟩
      case round =>
        obtain ⟨rfl, rfl⟩ := hrel
        go_wp2_with fail
        go_ret
        exact ⟨by rw [sg_eq]; rfl, 0, rfl⟩
    · obtain ⟨b, o, rfl, hb, hlt⟩ := h.pos (by omega)
      obtain ⟨b', o', rfl, hb', hlt'⟩ := h'.pos (by omega)
      have HB := Aside.mk hb
      have HB' := Aside.mk hb'
      obtain ⟨lx, hlx⟩ : ∃ lx, dlow X = lx := ⟨_, rfl⟩
      obtain ⟨ly, hly⟩ : ∃ ly, dlow Y = ly := ⟨_, rfl⟩
      have hvx : val lx = X := by rw [← hlx, val_dlow]
      have hvy : val ly = Y := by rw [← hly, val_dlow]
      have hdx : D10 lx := by rw [← hlx]; exact dlow_d10 X
      have hdy : D10 ly := by rw [← hly]; exact dlow_d10 Y
      rw [hlx] at HB hl
      rw [hly] at HB' hl'
      have HVX := Aside.mk (And.intro hvx hdx)
      have HVY := Aside.mk (And.intro hvy hdy)
      clear h h' hlx hly hb hb' hvx hvy hdx hdy
      go_enter Tryz.func46, Tryz.ntmps46
      go_wp2_with fail
      go_loopw [5] (fun iv wr => ∃ (r d : Nat), r ≤ n ∧ iv = .int .i64 ((r : Int) - 1) ∧ Aside (wr = w.drewN d) ∧ Aside (∀ j (h1 : j < lx.length) (h2 : j < ly.length), r ≤ j → lx[j] = ly[j])) (fun iv _ => (intOf iv + 1).toNat)
      case atStart => exact ⟨n, 0, Nat.le_refl _, rfl, ⟨rfl⟩, ⟨fun j h1 _ h => by omega⟩⟩
      case round =>
        obtain ⟨r, d, hr, rfl, hW, hE⟩ := hrel
        cases r with
        | zero =>
          have e : Aside (X = Y) := ⟨by
            rw [← HVX.out.1, ← HVY.out.1]
            congr 1
            exact List.ext_getElem (by omega) (fun j h1 h2 => hE.out j h1 h2 (Nat.zero_le _))⟩
          go_wp2_with fail
          go_ret
          exact ⟨by rw [e.out, sg_eq]; rfl, d, hW.out⟩
        | succ k =>
          have hk : k < lx.length := by omega
          have hk' : k < ly.length := by omega
          obtain ⟨x, hx⟩ : ∃ x, (lx[k]).toNat = x := ⟨_, rfl⟩
          obtain ⟨y, hy⟩ : ∃ y, (ly[k]).toNat = y := ⟨_, rfl⟩
          have cx : wr.cell? ⟨b, o + k, none⟩ = some (.int .u8 (x : Nat)) := by rw [hW.out, ← hx]; exact HB.out k hk
          have cy : wr.cell? ⟨b', o' + k, none⟩ = some (.int .u8 (y : Nat)) := by rw [hW.out, ← hy]; exact HB'.out k hk'
          rw [show ((k + 1 : Nat) : Int) - 1 = (k : Int) from by omega]
          have HX := Aside.mk (And.intro hx hy)
          clear hx hy
          by_cases he : x = y
          · have he' : (((x : Nat) : Int) != (y : Nat)) = false := by simp [he]
            have hE2 : Aside (∀ j (h1 : j < lx.length) (h2 : j < ly.length), k ≤ j → lx[j] = ly[j]) := ⟨fun j h1 h2 hj => by
              by_cases q : j = k
              · subst q; exact UInt8.toNat_inj.1 (by rw [HX.out.1, HX.out.2, he])
              · exact hE.out j h1 h2 (by omega)⟩
            clear he
            go_wp2_with fail
            go_quiet (fail)
            go_wp2_with fail
            go_roundw
            case rel => exact ⟨k, d + nq, by omega, by go_num, ⟨by rw [hW.out, World.drewN_drewN]⟩, hE2⟩
            case measure => simp [intOf]
          · have he' : (((x : Nat) : Int) != (y : Nat)) = true := by simp; omega
            by_cases hxy : x < y
            · have e : Aside (sg X Y = -1) := ⟨sg_lt (by
                have := val_cmp HVX.out.2 HVY.out.2 k hk hk' (by omega) (fun j q hj => hE.out j q (by omega) (by omega)) (by rw [HX.out.1, HX.out.2]; exact hxy)
                rwa [HVX.out.1, HVY.out.1] at this)⟩
              have g1 : decide (((x : Nat) : Int) < (y : Nat)) = true := by simpa using hxy
              clear he
              go_wp2_with fail
              go_quiet (fail)
              go_wp2_with fail
              go_quiet (fail)
              go_wp2_with fail
              go_ret
              exact ⟨by rw [e.out]; rfl, by rw [hW.out]; simp only [World.drewN_drewN]; exact ⟨_, rfl⟩⟩
            · have e : Aside (sg X Y = 1) := ⟨sg_gt (by
                have := val_cmp HVY.out.2 HVX.out.2 k hk' hk (by omega) (fun j q hj => (hE.out j (by omega) q (by omega)).symm) (by rw [HX.out.1, HX.out.2]; omega)
                rwa [HVX.out.1, HVY.out.1] at this)⟩
              have g1 : decide (((x : Nat) : Int) < (y : Nat)) = false := by simp; omega
              clear he
              go_wp2_with fail
              go_quiet (fail)
              go_wp2_with fail
              go_quiet (fail)
              go_wp2_with fail
              go_ret
              exact ⟨by rw [e.out]; rfl, by rw [hW.out]; simp only [World.drewN_drewN]; exact ⟨_, rfl⟩⟩
/-- The order of two numbers with signs. -/
def cmpS (s : Bool) (X : Nat) (t : Bool) (Y : Nat) : Int := if s then (if t then sg Y X else -1) else if t then 1 else sg X Y
set_option maxRecDepth 100000 in
set_option maxHeartbeats 1000000 in
theorem ncmp_any {w : World} {a a' : Option Addr} {n c n' c' X Y : Nat} (s t : Bool) (h : Bf w a n c (dlow X)) (h' : Bf w a' n' c' (dlow Y)) (hn : n ≤ 1000000) (hn' : n' ≤ 1000000) :
    Calls Tryz.prog 17 #[.agg #[.bool s, .slice a n c], .agg #[.bool t, .slice a' n' c']] w fun e1 w' => e1 = .returned (.int .i64 (cmpS s X t Y)) ∧ Fr (fun _ _ => False) w w' := by
  have F0 := Aside.mk (((Fr.refl (fun _ _ => False) w).alloc (.cells #[.bool s, .slice a n c] 45)).alloc (.cells #[.bool t, .slice a' n' c'] 45))
  have H1 : Hid (∀ w1, Fr (fun _ _ => False) w w1 → Calls Tryz.prog 46 #[.slice a n c, .slice a' n' c'] w1 fun e1 w' => e1 = .returned (.int .i64 (sg X Y)) ∧ Aside (Fr (fun _ _ => False) w1 w')) := Lib.hid (fun w1 f => by
    refine (compare_any (h.fr f (fun _ _ _ q => q)) (h'.fr f (fun _ _ _ q => q)) hn hn').mono ?_
    rintro e1 w' ⟨rfl, d, rfl⟩
    exact ⟨rfl, ⟨(Fr.refl _ _).drewN d⟩⟩)
  have H2 : Hid (∀ w1, Fr (fun _ _ => False) w w1 → Calls Tryz.prog 46 #[.slice a' n' c', .slice a n c] w1 fun e1 w' => e1 = .returned (.int .i64 (sg Y X)) ∧ Aside (Fr (fun _ _ => False) w1 w')) := Lib.hid (fun w1 f => by
    refine (compare_any (h'.fr f (fun _ _ _ q => q)) (h.fr f (fun _ _ _ q => q)) hn' hn).mono ?_
    rintro e1 w' ⟨rfl, d, rfl⟩
    exact ⟨rfl, ⟨(Fr.refl _ _).drewN d⟩⟩)
  clear h h'
  cases s <;> cases t
  · go_enter Tryz.func17, Tryz.ntmps17
    go_wp2_with fail
    refine (H1.out _ F0.out).mono ?_
    rintro e1 w3 ⟨rfl, k⟩
    have K := Aside.mk (F0.out.trans k.out)
    clear k
    go_wp2_with fail
    go_ret
    exact ⟨rfl, K.out⟩
  · go_enter Tryz.func17, Tryz.ntmps17
    go_wp2_with fail
    go_ret
    exact ⟨rfl, F0.out⟩
  · go_enter Tryz.func17, Tryz.ntmps17
    go_wp2_with fail
    go_ret
    exact ⟨rfl, F0.out⟩
  · go_enter Tryz.func17, Tryz.ntmps17
    go_wp2_with fail
    refine (H2.out _ F0.out).mono ?_
    rintro e1 w3 ⟨rfl, k⟩
    have K := Aside.mk (F0.out.trans k.out)
    clear k
    go_wp2_with fail
    go_ret
    exact ⟨rfl, K.out⟩
end Go.Proofs.YtgilnnipephfjaaGreatDoor
namespace Go.Proofs.YtgilnnipephfjaaGreatDoor
open Go.RowKit

theorem infoI3 : (Tryz.prog.info? 3).map (fun i => (i.zero, i.size, i.bytes)) = some (some (.int .i64 0), 1, 8) := by kernel_rfl
theorem run_makeI (n : Nat) (hc : n < 1000000) (w : World) :
    (Instr.makeSlice 122 (.int .i64 (n : Int)) (.int .i64 (n : Int))).run Tryz.prog w = .ok (.slice (some ⟨w.heap.size, 0, none⟩) n n) (w.alloc (.cells (madeCells #[.int .i64 0] n) 3)) := by
  obtain ⟨i, hi, hzz⟩ := Option.map_eq_some_iff.1 infoI3
  simp only [Prod.mk.injEq] at hzz
  obtain ⟨hz, hs, hb⟩ := hzz
  have h := run_make (P := Tryz.prog) w 122 3 i _ Tryz.underlying122 hi hz .i64 .i64 n n (by omega) (by omega) (by rw [hb]; omega) (by omega)
  simp only [Int.toNat_natCast, hs, Nat.mul_one] at h
  exact h
/-- The sums of a product in memory. -/
structure MS (w wr : World) (b : Nat) (ol : List Nat) : Prop where
  cell : ∀ i (h : i < ol.length), wr.cell? ⟨b, i, none⟩ = some (.int .i64 ((ol[i] : Nat) : Int))
  blk : Blk wr b
  fr : Fr (fun _ _ => False) w wr
  ge : w.heap.size ≤ b
theorem MS.start {w : World} (n : Nat) (hG : NG ≤ w.heap.size) : MS w (w.alloc (.cells (madeCells #[.int .i64 0] n) 3)) w.heap.size (List.replicate n 0) := by
  refine ⟨fun i hi => ?_, ⟨hG, 3, kind_alloc_new _ _ _ _⟩, (Fr.refl _ w).alloc _, Nat.le_refl _⟩
  rw [World.cell?_alloc_new, ← Array.getElem?_toList, toList_madeCells_one]
  simp only [List.length_replicate] at hi
  simp [hi]
theorem MS.drewN {w wr : World} {b : Nat} {ol : List Nat} (h : MS w wr b ol) (d : Nat) : MS w (wr.drewN d) b ol := ⟨fun i hi => by rw [World.cell?_drewN]; exact h.cell i hi, h.blk, h.fr.drewN d, h.ge⟩
theorem MS.drew {w wr : World} {b : Nat} {ol : List Nat} (h : MS w wr b ol) : MS w wr.drew b ol := ⟨h.cell, h.blk, h.fr.drew, h.ge⟩
theorem MS.set {w wr : World} {b : Nat} {ol : List Nat} (h : MS w wr b ol) {j : Nat} (z : Nat) (hj : j < ol.length) : MS w (wr.setCell ⟨b, j, none⟩ (.int .i64 (z : Nat))) b (ol.set j z) := by
  refine ⟨fun i hi => ?_, h.blk.of_kind (kind_setCell _ _ _ _), h.fr.setCell _ _ _ (fun q => by have := h.ge; omega), h.ge⟩
  rw [List.length_set] at hi
  rw [List.getElem_set]
  by_cases e : j = i
  · subst e
    rw [if_pos rfl]
    exact World.cell?_setCell_same _ _ _ (h.cell j hj)
  · rw [if_neg e, World.cell?_setCell_other _ _ _ _ (by simp only [ne_eq, Addr.mk.injEq, and_true]; omega)]
    exact h.cell i hi
set_option maxRecDepth 100000 in
set_option maxHeartbeats 4000000 in
theorem mul_any' {w : World} {a a' : Option Addr} {n c n' c' X Y : Nat} (s t : Bool) (hG : NG ≤ w.heap.size) (h : Bf w a n c (dlow X)) (h' : Bf w a' n' c' (dlow Y)) (hn : n ≤ 20000) (hn' : n' ≤ 20000) :
    Calls Tryz.prog 36 #[.agg #[.bool s, .slice a n c], .agg #[.bool t, .slice a' n' c']] w fun e1 w' => ∃ a2 m c2, e1 = .returned (.agg #[.bool (sg1 (s != t) (X * Y)), .slice a2 m c2]) ∧ m ≤ n + n' ∧ Bf w' a2 m c2 (dlow (X * Y)) ∧ Fr (fun _ _ => False) w w' := by
  obtain ⟨x, hx⟩ : ∃ x, dlow X = x := ⟨_, rfl⟩
  obtain ⟨y, hy⟩ : ∃ y, dlow Y = y := ⟨_, rfl⟩
  have hvx : val x = X := by rw [← hx, val_dlow]
  have hvy : val y = Y := by rw [← hy, val_dlow]
  have hdx : D10 x := by rw [← hx]; exact dlow_d10 X
  have hdy : D10 y := by rw [← hy]; exact dlow_d10 Y
  rw [hx] at h
  rw [hy] at h'
  have HLX := Aside.mk h.len
  have HLY := Aside.mk h'.len
  have HV := Aside.mk (And.intro hvx hvy)
  have HDD := Aside.mk (And.intro hdx hdy)
  have hnn : (n : Int) ≤ 20000 := by omega
  have hnn' : (n' : Int) ≤ 20000 := by omega
  have fm := run_makeI (n + n') (by omega)
  rw [Int.natCast_add] at fm
  obtain ⟨w1, hw1⟩ : ∃ x, w.alloc (.cells #[.bool s, .slice a n c] 45) = x := ⟨_, rfl⟩
  obtain ⟨w2, hw2⟩ : ∃ x, w1.alloc (.cells #[.bool t, .slice a' n' c'] 45) = x := ⟨_, rfl⟩
  obtain ⟨w3, hw3⟩ : ∃ x, w2.alloc (.cells #[.bool false, .slice none 0 0] 45) = x := ⟨_, rfl⟩
  have hs1 : w1.heap.size = w.heap.size + 1 := by rw [← hw1]; simp
  have hs2 : w2.heap.size = w.heap.size + 1 + 1 := by rw [← hw2, ← hs1]; simp
  have hs3 : w3.heap.size = w.heap.size + 1 + 1 + 1 := by rw [← hw3, ← hs2]; simp
  have f1 : Fr (fun _ _ => False) w w1 := by rw [← hw1]; exact (Fr.refl _ w).alloc _
  have f2 : Fr (fun _ _ => False) w1 w2 := by rw [← hw2]; exact (Fr.refl _ w1).alloc _
  have f3 : Fr (fun _ _ => False) w2 w3 := by rw [← hw3]; exact (Fr.refl _ w2).alloc _
  have F3 := Aside.mk (f1.trans (f2.trans f3))
  have x0 : w3.cell? ⟨w.heap.size, 0, none⟩ = some (.bool s) := ((f2.trans f3).cell _ 0 (by omega) (fun q => q)).trans (by rw [← hw1, World.cell?_alloc_new]; rfl)
  have x1 : w3.cell? ⟨w.heap.size, 1, none⟩ = some (.slice a n c) := ((f2.trans f3).cell _ 1 (by omega) (fun q => q)).trans (by rw [← hw1, World.cell?_alloc_new]; rfl)
  have y0 : w3.cell? ⟨w.heap.size + 1, 0, none⟩ = some (.bool t) := (f3.cell _ 0 (by omega) (fun q => q)).trans (by rw [← hw2, ← hs1, World.cell?_alloc_new]; rfl)
  have y1 : w3.cell? ⟨w.heap.size + 1, 1, none⟩ = some (.slice a' n' c') := (f3.cell _ 1 (by omega) (fun q => q)).trans (by rw [← hw2, ← hs1, World.cell?_alloc_new]; rfl)
  have HC := Aside.mk (And.intro x0 (And.intro x1 (And.intro y0 y1)))
  have HA := Aside.mk (h.fr F3.out (fun _ _ _ q => q))
  have HA' := Aside.mk (h'.fr F3.out (fun _ _ _ q => q))
  have HR := Aside.mk hw3
  have M0 := Aside.mk (MS.start (w := w3) (n + n') (by omega))
  have HS := Aside.mk (And.intro hs1 (And.intro hs2 hs3))
  clear h h' hvx hvy hdx hdy hx hy f1 f2 f3
  go_enter Tryz.func36, Tryz.ntmps36
  go_wp2_with fail
  clear hw1 hw2 hw3
  obtain ⟨ob, hob⟩ : ∃ ob, w.heap.size + 1 + 1 + 1 = ob := ⟨_, rfl⟩
  rw [hob] at hs3 ⊢
  rw [hs3] at M0
  have HOB := Aside.mk hob
  clear hob hs1 hs2 fm x0 x1 y0 y1
  go_loopw [6] (fun iv wr => ∃ (i : Nat) (ol : List Nat), i ≤ n ∧ iv = .int .i64 i ∧ Aside (Row x y ol i 0) ∧ Aside (MS w3 wr ob ol)) (fun iv _ => ((n : Int) - intOf iv).toNat)
  case atStart => exact ⟨0, _, Nat.zero_le _, rfl, ⟨by have := Row.start x y; rwa [HLX.out, HLY.out] at this⟩, M0⟩
  case round =>
    obtain ⟨i, ol, hi, rfl, hRow, hM⟩ := hrel
    have x1 := (hM.out.fr.cell w.heap.size 1 (by have := HS.out; omega) (fun q => q)).trans HC.out.2.1
    have y1 := (hM.out.fr.cell (w.heap.size + 1) 1 (by have := HS.out; omega) (fun q => q)).trans HC.out.2.2.2
    by_cases hlt : i < n
    · go_wp2_with fail
      go_loopw [7] (fun kv wr => ∃ (k : Nat) (ol : List Nat), k ≤ n' ∧ kv = .int .i64 k ∧ Aside (Row x y ol i k) ∧ Aside (MS w3 wr ob ol)) (fun kv _ => ((n' : Int) - intOf kv).toNat)
      case atStart => exact ⟨0, ol, Nat.zero_le _, rfl, hRow, hM⟩
      case round =>
        obtain ⟨k, ol2, hk, rfl, hRow2, hM2⟩ := hrel
        have x1 := (hM2.out.fr.cell w.heap.size 1 (by have := HS.out; omega) (fun q => q)).trans HC.out.2.1
        have y1 := (hM2.out.fr.cell (w.heap.size + 1) 1 (by have := HS.out; omega) (fun q => q)).trans HC.out.2.2.2
        by_cases hlt2 : k < n'
        · obtain ⟨b, o, rfl, hb, hblt⟩ := HA.out.pos (by omega)
          obtain ⟨b', o', rfl, hb', hblt'⟩ := HA'.out.pos (by omega)
          have hix : i < x.length := by have := HLX.out; omega
          have hky : k < y.length := by have := HLY.out; omega
          obtain ⟨q, hst, hbd⟩ := hRow2.out.step HDD.out.1 HDD.out.2 hix hky
          have cx := (hM2.out.fr.cell b (o + i) hblt (fun q => q)).trans (hb i hix)
          have cy := (hM2.out.fr.cell b' (o' + k) hblt' (fun q => q)).trans (hb' k hky)
          have co := hM2.out.cell (i + k) q
          have fo : wr.frozen? ⟨ob, i + k, none⟩ = false := hM2.out.blk.free _
          have hx9 := HDD.out.1.get hix
          have hy9 := HDD.out.2.get hky
          obtain ⟨z, hz⟩ : ∃ z, ol2[i + k] = z := ⟨_, rfl⟩
          obtain ⟨p, hp⟩ : ∃ p, (x[i]).toNat = p := ⟨_, rfl⟩
          obtain ⟨r, hr⟩ : ∃ r, (y[k]).toNat = r := ⟨_, rfl⟩
          have hM3 := hM2.out.drew.set (z + p * r) q
          rw [hz, hp, hr] at hst
          rw [hz] at hbd co
          rw [hp] at cx hx9
          rw [hr] at cy hy9
          have hpr : p * r ≤ 81 := Nat.le_trans (Nat.mul_le_mul (show p ≤ 9 by omega) (show r ≤ 9 by omega)) (by omega)
          obtain ⟨u, hu⟩ : ∃ u, p * r = u := ⟨_, rfl⟩
          have hpu : (p : Int) * (r : Int) = (u : Nat) := by rw [← hu, Int.natCast_mul]
          rw [hu] at hst hM3 hpr
          have HST := Aside.mk hst
          have HM3 := Aside.mk hM3
          have HL2 := Aside.mk hRow2.out.len
          have hz2 : (z : Int) ≤ 1620000 := by omega
          have hu2 : (u : Int) ≤ 81 := by omega
          have hik : (i : Int) + (k : Int) < (n : Int) + (n' : Int) := by omega
          have hp0 : (p : Int) < 10 := by omega
          have hr0 : (r : Int) < 10 := by omega
          clear hst hM3 hz hp hr hb hb' q hix hky hu hbd hpr hx9 hy9
          have hw1 : IntKind.i64.wrap ((i : Int) + (k : Int)) = (i : Int) + (k : Int) := IntWalk.i64_in _ ⟨by omega, by omega⟩
          have hw2 : IntKind.i64.wrap ((u : Nat) : Int) = (u : Nat) := IntWalk.i64_in _ ⟨by omega, by omega⟩
          have hw3 : IntKind.i64.wrap ((z : Int) + (u : Nat)) = (z : Int) + (u : Nat) := IntWalk.i64_in _ ⟨by omega, by omega⟩
          have ht1 : ((i : Int) + (k : Int)).toNat = i + k := by omega
          have hwp : IntKind.i64.wrap ((p : Nat) : Int) = (p : Nat) := IntWalk.i64_in _ ⟨by omega, by omega⟩
          have hwr : IntKind.i64.wrap ((r : Nat) : Int) = (r : Nat) := IntWalk.i64_in _ ⟨by omega, by omega⟩
          rw [Int.natCast_add] at HM3
          have n1 : ob ≠ w.heap.size := by have := HOB.out; omega
          have n2 : ob ≠ w.heap.size + 1 := by have := HOB.out; omega
          have n3 : ob ≠ b := by have := hs3; omega
          have n4 : ob ≠ b' := by have := hs3; omega
          have i0 : (0 : Int) ≤ (i : Int) := by omega
          have k0 : (0 : Int) ≤ (k : Int) := by omega
          have i1 : (i : Int) < (n : Int) := by omega
          have k1 : (k : Int) < (n' : Int) := by omega
          have ik0 : (0 : Int) ≤ (i : Int) + (k : Int) := by omega
          go_wp2_with fail
          have hS0 : (fun w' => w'.cell? ⟨w.heap.size, 1, none⟩ = some (.slice (some ⟨b, o, none⟩) n c) ∧ w'.cell? ⟨w.heap.size + 1, 1, none⟩ = some (.slice (some ⟨b', o', none⟩) n' c') ∧ w'.cell? ⟨b, o + i, none⟩ = some (.int .u8 ((p : Nat) : Int)) ∧ w'.cell? ⟨b', o' + k, none⟩ = some (.int .u8 ((r : Nat) : Int))) wr.drew := ⟨x1, y1, cx, cy⟩
          refine wp_region_held (S := (fun w' => w'.cell? ⟨w.heap.size, 1, none⟩ = some (.slice (some ⟨b, o, none⟩) n c) ∧ w'.cell? ⟨w.heap.size + 1, 1, none⟩ = some (.slice (some ⟨b', o', none⟩) n' c') ∧ w'.cell? ⟨b, o + i, none⟩ = some (.int .u8 ((p : Nat) : Int)) ∧ w'.cell? ⟨b', o' + k, none⟩ = some (.int .u8 ((r : Nat) : Int)))) (by kernel_rfl) ?_
          change wpAnyH _ _ _ _ _ _ _ _ (World.drew _)
          refine wpAnyH_take (i := 0) (v := ?_) rfl (by kernel_rfl) (by kernel_rfl) (by kernel_rfl) (fun _ _ _ h => h) (Or.inl ⟨by kernel_rfl, ?_⟩) hS0 ?_
          rotate_left 1
          · rintro w9 ⟨e1, e2, e3, e4⟩
            go_simp
            try with_reducible rfl
          try simp only [Act.put, List.setIfInBounds_toArray, List.set_cons_zero, List.set_cons_succ]
          refine wpAnyH_take (i := 1) (v := ?_) rfl (by kernel_rfl) (by kernel_rfl) (by kernel_rfl) (fun _ _ _ h => h) (Or.inl ⟨by kernel_rfl, ?_⟩) hS0 ?_
          rotate_left 1
          · rintro w9 ⟨e1, e2, e3, e4⟩
            go_simp
            try with_reducible rfl
          try simp only [Act.put, List.setIfInBounds_toArray, List.set_cons_zero, List.set_cons_succ]
          refine wpAnyH_take (i := 2) (v := ?_) rfl (by kernel_rfl) (by kernel_rfl) (by kernel_rfl) (fun _ _ _ h => h) (Or.inl ⟨by kernel_rfl, ?_⟩) hS0 ?_
          rotate_left 1
          · rintro w9 ⟨e1, e2, e3, e4⟩
            go_simp
            try with_reducible rfl
          try simp only [Act.put, List.setIfInBounds_toArray, List.set_cons_zero, List.set_cons_succ]
          refine wpAnyH_take (i := 3) (v := ?_) rfl (by kernel_rfl) (by kernel_rfl) (by kernel_rfl) (fun _ _ _ h => h) (Or.inl ⟨by kernel_rfl, ?_⟩) hS0 ?_
          rotate_left 1
          · rintro w9 ⟨e1, e2, e3, e4⟩
            go_simp
            try with_reducible rfl
          try simp only [Act.put, List.setIfInBounds_toArray, List.set_cons_zero, List.set_cons_succ]
          refine wpAnyH_take (i := 4) (v := ?_) rfl (by kernel_rfl) (by kernel_rfl) (by kernel_rfl) (fun _ _ _ h => h) (Or.inl ⟨by kernel_rfl, ?_⟩) hS0 ?_
          rotate_left 1
          · rintro w9 ⟨e1, e2, e3, e4⟩
            go_simp
            try with_reducible rfl
          try simp only [Act.put, List.setIfInBounds_toArray, List.set_cons_zero, List.set_cons_succ]
          refine wpAnyH_take (i := 6) (v := ?_) rfl (by kernel_rfl) (by kernel_rfl) (by kernel_rfl) (fun _ _ _ h => h) (Or.inl ⟨by kernel_rfl, ?_⟩) hS0 ?_
          rotate_left 1
          · rintro w9 ⟨e1, e2, e3, e4⟩
            go_simp
            try with_reducible rfl
          try simp only [Act.put, List.setIfInBounds_toArray, List.set_cons_zero, List.set_cons_succ]
          refine wpAnyH_take (i := 7) (v := ?_) rfl (by kernel_rfl) (by kernel_rfl) (by kernel_rfl) (fun _ _ _ h => h) (Or.inl ⟨by kernel_rfl, ?_⟩) hS0 ?_
          rotate_left 1
          · rintro w9 ⟨e1, e2, e3, e4⟩
            go_simp
            try with_reducible rfl
          try simp only [Act.put, List.setIfInBounds_toArray, List.set_cons_zero, List.set_cons_succ]
          refine wpAnyH_take (i := 8) (v := ?_) rfl (by kernel_rfl) (by kernel_rfl) (by kernel_rfl) (fun _ _ _ h => h) (Or.inl ⟨by kernel_rfl, ?_⟩) hS0 ?_
          rotate_left 1
          · rintro w9 ⟨e1, e2, e3, e4⟩
            go_simp
            try with_reducible rfl
          try simp only [Act.put, List.setIfInBounds_toArray, List.set_cons_zero, List.set_cons_succ]
          refine wpAnyH_take (i := 9) (v := ?_) rfl (by kernel_rfl) (by kernel_rfl) (by kernel_rfl) (fun _ _ _ h => h) (Or.inl ⟨by kernel_rfl, ?_⟩) hS0 ?_
          rotate_left 1
          · rintro w9 ⟨e1, e2, e3, e4⟩
            go_simp
            try with_reducible rfl
          try simp only [Act.put, List.setIfInBounds_toArray, List.set_cons_zero, List.set_cons_succ]
          refine wpAnyH_take (i := 10) (v := ?_) rfl (by kernel_rfl) (by kernel_rfl) (by kernel_rfl) (fun _ _ _ h => h) (Or.inl ⟨by kernel_rfl, ?_⟩) hS0 ?_
          rotate_left 1
          · rintro w9 ⟨e1, e2, e3, e4⟩
            go_simp
            try with_reducible rfl
          try simp only [Act.put, List.setIfInBounds_toArray, List.set_cons_zero, List.set_cons_succ]
          refine wpAnyH_take (i := 11) (v := ?_) rfl (by kernel_rfl) (by kernel_rfl) (by kernel_rfl) (fun _ _ _ h => h) (Or.inl ⟨by kernel_rfl, ?_⟩) hS0 ?_
          rotate_left 1
          · rintro w9 ⟨e1, e2, e3, e4⟩
            go_simp
            try with_reducible rfl
          try simp only [Act.put, List.setIfInBounds_toArray, List.set_cons_zero, List.set_cons_succ]
          refine wpAnyH_take (i := 12) (v := ?_) rfl (by kernel_rfl) (by kernel_rfl) (by kernel_rfl) (fun _ _ _ h => h) (Or.inl ⟨by kernel_rfl, ?_⟩) hS0 ?_
          rotate_left 1
          · rintro w9 ⟨e1, e2, e3, e4⟩
            go_simp
            try with_reducible rfl
          try simp only [Act.put, List.setIfInBounds_toArray, List.set_cons_zero, List.set_cons_succ]
          refine wpAnyH_take (i := 13) (v := ?_) rfl (by kernel_rfl) (by kernel_rfl) (by kernel_rfl) (fun _ _ _ h => h) (Or.inl ⟨by kernel_rfl, ?_⟩) hS0 ?_
          rotate_left 1
          · rintro w9 ⟨e1, e2, e3, e4⟩
            go_simp
            try with_reducible rfl
          try simp only [Act.put, List.setIfInBounds_toArray, List.set_cons_zero, List.set_cons_succ]
          refine wpAnyH_take (i := 14) (v := ?_) rfl (by kernel_rfl) (by kernel_rfl) (by kernel_rfl) (fun _ _ _ h => h) (Or.inl ⟨by kernel_rfl, ?_⟩) hS0 ?_
          rotate_left 1
          · rintro w9 ⟨e1, e2, e3, e4⟩
            go_simp
            try with_reducible rfl
          try simp only [Act.put, List.setIfInBounds_toArray, List.set_cons_zero, List.set_cons_succ]
          refine wpAnyH_take (i := 15) (v := ?_) rfl (by kernel_rfl) (by kernel_rfl) (by kernel_rfl) (fun _ _ _ h => h) (Or.inl ⟨by kernel_rfl, ?_⟩) hS0 ?_
          rotate_left 1
          · rintro w9 ⟨e1, e2, e3, e4⟩
            go_simp
            try with_reducible rfl
          try simp only [Act.put, List.setIfInBounds_toArray, List.set_cons_zero, List.set_cons_succ]
          refine wpAnyH_take (i := 16) (v := ?_) rfl (by kernel_rfl) (by kernel_rfl) (by kernel_rfl) (fun _ _ _ h => h) (Or.inl ⟨by kernel_rfl, ?_⟩) hS0 ?_
          rotate_left 1
          · rintro w9 ⟨e1, e2, e3, e4⟩
            go_simp
            try with_reducible rfl
          try simp only [Act.put, List.setIfInBounds_toArray, List.set_cons_zero, List.set_cons_succ]
          refine wpAnyH_take (i := 17) (v := ?_) rfl (by kernel_rfl) (by kernel_rfl) (by kernel_rfl) (fun _ _ _ h => h) (Or.inl ⟨by kernel_rfl, ?_⟩) hS0 ?_
          rotate_left 1
          · rintro w9 ⟨e1, e2, e3, e4⟩
            go_simp
            try with_reducible rfl
          try simp only [Act.put, List.setIfInBounds_toArray, List.set_cons_zero, List.set_cons_succ]
          refine wpAnyH_take (i := 18) (v := ?_) rfl (by kernel_rfl) (by kernel_rfl) (by kernel_rfl) (fun _ _ _ h => h) (Or.inl ⟨by kernel_rfl, ?_⟩) hS0 ?_
          rotate_left 1
          · rintro w9 ⟨e1, e2, e3, e4⟩
            go_simp
            try with_reducible rfl
          try simp only [Act.put, List.setIfInBounds_toArray, List.set_cons_zero, List.set_cons_succ]
          refine wpAnyH_ready (rs := [5]) (by kernel_rfl) (by simp) ?_
          refine AllReadyH.cons rfl (fun K hK => ?_) AllReadyH.nil
          go_simp
          refine Shut.out hK _ _ hS0 (fun _ => ?_)
          clear hK K
          try simp only [Act.put, List.setIfInBounds_toArray, List.set_cons_zero, List.set_cons_succ]
          refine wpAnyH_take (i := 19) (v := ?_) rfl (by kernel_rfl) (by kernel_rfl) (by kernel_rfl) (fun _ _ _ h => h) (Or.inl ⟨by kernel_rfl, ?_⟩) hS0 ?_
          rotate_left 1
          · rintro w9 ⟨e1, e2, e3, e4⟩
            go_simp
            try with_reducible rfl
          try simp only [Act.put, List.setIfInBounds_toArray, List.set_cons_zero, List.set_cons_succ]
          refine wpAnyH_take (i := 20) (v := ?_) rfl (by kernel_rfl) (by kernel_rfl) (by kernel_rfl) (fun _ _ _ h => h) (Or.inl ⟨by kernel_rfl, ?_⟩) hS0 ?_
          rotate_left 1
          · rintro w9 ⟨e1, e2, e3, e4⟩
            go_simp
            try with_reducible rfl
          try simp only [Act.put, List.setIfInBounds_toArray, List.set_cons_zero, List.set_cons_succ]
          refine wpAnyH_ready (rs := [21]) (by kernel_rfl) (by simp) ?_
          refine AllReadyH.cons rfl (fun K hK => ?_) AllReadyH.nil
          go_simp
          refine Shut.out hK _ _ ⟨(World.cell?_setCell_far _ _ _ _ n1).trans x1, (World.cell?_setCell_far _ _ _ _ n2).trans y1, (World.cell?_setCell_far _ _ _ _ n3).trans cx, (World.cell?_setCell_far _ _ _ _ n4).trans cy⟩ (fun _ => ?_)
          clear hK K
          try simp only [Act.put, List.setIfInBounds_toArray, List.set_cons_zero, List.set_cons_succ]
          refine wpAnyH_done (by kernel_rfl) ?_ _
          go_wp2_with fail
          go_roundw
          case rel => exact ⟨k + 1, _, by omega, by go_num, HST, HM3⟩
          case measure => simp [intOf]; omega
        · obtain rfl : k = n' := by omega
          go_wp2_with fail
          go_roundw
          case rel => exact ⟨i + 1, ol2, by omega, by go_num, ⟨(by have := HLY.out; rw [← this] at hRow2; exact hRow2.out.next (by have := HLX.out; omega))⟩, hM2⟩
          case measure => simp [intOf]; omega
    · obtain rfl : i = n := by omega
      have hval : valN ol = X * Y := by
        have h1 := HLX.out
        have h2 := hRow.out
        rw [← h1] at h2
        rw [h2.done, HV.out.1, HV.out.2]
      have holl : ol.length = i + n' := by rw [hRow.out.len, HLX.out, HLY.out]
      have HOL := Aside.mk holl
      have HVL := Aside.mk hval
      have hbd : Aside (∀ j (h : j < ol.length), ol[j] ≤ 81 * i + 81) := ⟨fun j h => by have := hRow.out.bd j h; split at this <;> omega⟩
      have B0 := Aside.mk (BW.start (Bf.nil wr))
      have hG3 : NG ≤ wr.heap.size := Nat.le_trans (Nat.le_trans hG F3.out.size) hM.out.fr.size
      clear hval holl hlt hRow
      go_wp2_with fail
      go_loopw [8, 9, 10] (fun dv cv jv wx => ∃ (j cc m2 c2 : Nat) (a2 : Option Addr) (d : List UInt8), j ≤ i + n' ∧ jv = .int .i64 j ∧ cv = .int .i64 cc ∧ cc ≤ 81 * i + 81 ∧ dv = .slice a2 m2 c2 ∧ Aside (Car ol (X * Y) (81 * i + 81) j cc d) ∧ Aside (BW wr wx none 0 a2 m2 c2 d)) (fun _ _ jv _ => ((i + n' : Int) - intOf jv).toNat)
      case atStart => exact ⟨0, 0, 0, 0, none, [], Nat.zero_le _, rfl, rfl, Nat.zero_le _, rfl, ⟨by rw [← HVL.out]; exact Car.start ol _⟩, B0⟩
      case round =>
        obtain ⟨j, cc, m2, c2, a2, d, hj, rfl, rfl, hcc, rfl, hCar, hB⟩ := hrel
        have hm2 : m2 = j := by rw [← hB.out.bf.len, hCar.out.len]
        subst hm2
        by_cases hlt3 : m2 < i + n'
        · have hjl : m2 < ol.length := by rw [HOL.out]; exact hlt3
          have hob := hbd.out m2 hjl
          have hst := hCar.out.step hjl hob
          have co := (hB.out.fr.cell ob m2 (by have := hM.out.blk.lt; exact this) (foot_zero _ _ _)).trans (hM.out.cell m2 hjl)
          obtain ⟨z, hz⟩ : ∃ z, ol[m2] = z := ⟨_, rfl⟩
          rw [hz] at hst co hob
          have HST := Aside.mk hst
          have hz8 : Aside (((cc : Int) + (z : Int)) % 10 = (((UInt8.ofNat ((cc + z) % 10)).toNat : Nat) : Int)) := ⟨by rw [UInt8.toNat_ofNat']; omega⟩
          have hz2 : (z : Int) ≤ 2000000 := by omega
          have hc2 : (cc : Int) ≤ 2000000 := by omega
          clear hst hz hob hjl
          have hG4 : NG ≤ wr.heap.size := Nat.le_trans hG3 hB.out.fr.size
          have hm3 : m2 + 1 ≤ 50000 := by omega
          go_upto_region 16 with (at_builtin; go_must (refine wpList_appendB _ rfl (.tmp 66) (.tmp 70) 38 rfl ((hB.out.alloc _).size hG3) (hB.out.alloc _).bf rfl rfl (Src.oneZ wr _ hz8.out 5) rfl (by omega) ?_; intro a3 c3 w4 k1 k2 k3; have B2 := Aside.mk ((hB.out.alloc _).append k1 k2 k3); clear k1 k2 k3))
          go_wp2_with fail
          go_roundw
          case rel => exact ⟨m2 + 1, (cc + z) / 10, m2 + 1, c3, a3, _, by omega, by go_num, by go_num, HST.out.bd, rfl, HST, B2⟩
          case measure => simp [intOf]; omega
        · obtain rfl : m2 = i + n' := by omega
          have hP : X * Y < 10 ^ (i + n') := by
            have h1 := val_lt HDD.out.1
            have h2 := val_lt HDD.out.2
            rw [HV.out.1, HLX.out] at h1
            rw [HV.out.2, HLY.out] at h2
            rw [Nat.pow_add]
            exact Nat.mul_lt_mul'' h1 h2
          have hvd := hCar.out.done HOL.out hP
          have hS := signed_any (s != t) hB.out.bf hCar.out.d10 (by omega)
          rw [hvd] at hS
          have H := Lib.hid hS
          have FX : Aside (Fr (fun _ _ => False) w3 wr) := ⟨hM.out.fr.trans' hB.out.fr (fun _ _ _ q => q) (fun _ _ _ q => (foot_none _ _ _ q).elim)⟩
          have x0 := (FX.out.cell w.heap.size 0 (by have := HS.out; omega) (fun q => q)).trans HC.out.1
          have y0 := (FX.out.cell (w.heap.size + 1) 0 (by have := HS.out; omega) (fun q => q)).trans HC.out.2.2.1
          clear hP hvd hS
          go_wp2_with fail
          refine H.out.mono ?_
          rintro e1 w5 ⟨m, rfl, hm, k1, k2⟩
          have F5 := Aside.mk (FX.out.trans k2)
          obtain ⟨r0, r1, r2, r3, r4⟩ := res2' HR.out.symm F5.out (fun o q => q)
          rw [HS.out.2.1] at r0 r1 r2 r3 r4
          have K1 := Aside.mk k1
          clear k1 k2 H
          go_wp2_with fail
          refine bodyPost_ret (v := .agg #[.bool (sg1 (s != t) (X * Y)), .slice a2 m c2]) (by simp [results, Tryz.results36, go_sem, r0, r1]) rfl ⟨a2, m, c2, rfl, hm, ?_, ?_⟩
          · exact K1.out.res (by intro z q; cases q) r0 r1 _ _
          · have := HS.out
            exact ((F3.out.trans F5.out).setCell (w.heap.size + 1 + 1) 0 _ (fun q => by omega)).setCell (w.heap.size + 1 + 1) 1 _ (fun q => by omega)
end Go.Proofs.YtgilnnipephfjaaGreatDoor
namespace Go.Proofs.YtgilnnipephfjaaGreatDoor
open Go.RowKit

/-- The cells that the value's walk reads and writes. -/
def VC (w : World) (db rb xb : Nat) (n : Bool) (e : Int) (x0 x1 : Value) : Prop :=
  w.cell? ⟨db, 1, none⟩ = some (.bool n) ∧ w.cell? ⟨db, 2, none⟩ = some (.int .i32 e) ∧ w.cell? ⟨rb, 0, none⟩ = some (.bool false) ∧ w.cell? ⟨rb, 1, none⟩ = some (.slice none 0 0) ∧ w.cell? ⟨xb, 0, none⟩ = some x0 ∧ w.cell? ⟨xb, 1, none⟩ = some x1 ∧
  w.frozen? ⟨rb, 0, none⟩ = false ∧ w.frozen? ⟨rb, 1, none⟩ = false ∧ w.frozen? ⟨xb, 0, none⟩ = false ∧ w.frozen? ⟨xb, 1, none⟩ = false
theorem VC.fr {w w' : World} {db rb xb : Nat} {n : Bool} {e : Int} {x0 x1 : Value} (h : VC w db rb xb n e x0 x1) (f : Fr (fun _ _ => False) w w') (h1 : db < w.heap.size) (h2 : rb < w.heap.size) (h3 : xb < w.heap.size) : VC w' db rb xb n e x0 x1 := by
  obtain ⟨a1, a2, a3, a4, a5, a6, b1, b2, b3, b4⟩ := h
  exact ⟨(f.cell _ _ h1 (fun q => q)).trans a1, (f.cell _ _ h1 (fun q => q)).trans a2, (f.cell _ _ h2 (fun q => q)).trans a3, (f.cell _ _ h2 (fun q => q)).trans a4, (f.cell _ _ h3 (fun q => q)).trans a5, (f.cell _ _ h3 (fun q => q)).trans a6,
    (f.frozen _ _ h2).trans b1, (f.frozen _ _ h2).trans b2, (f.frozen _ _ h3).trans b3, (f.frozen _ _ h3).trans b4⟩
theorem VC.store {w : World} {db rb xb : Nat} {n : Bool} {e : Int} {x0 x1 : Value} (h : VC w db rb xb n e x0 x1) (y0 y1 : Value) (n1 : xb ≠ db) (n2 : xb ≠ rb) : VC ((w.setCell ⟨xb, 0, none⟩ y0).setCell ⟨xb, 1, none⟩ y1) db rb xb n e y0 y1 := by
  obtain ⟨a1, a2, a3, a4, a5, a6, b1, b2, b3, b4⟩ := h
  have far : ∀ b o, xb ≠ b → ((w.setCell ⟨xb, 0, none⟩ y0).setCell ⟨xb, 1, none⟩ y1).cell? ⟨b, o, none⟩ = w.cell? ⟨b, o, none⟩ := fun b o hb => by
    rw [World.cell?_setCell_far _ _ _ _ hb, World.cell?_setCell_far _ _ _ _ hb]
  have e6 : (w.setCell ⟨xb, 0, none⟩ y0).cell? ⟨xb, 1, none⟩ = some x1 := (World.cell?_setCell_other _ _ _ _ (by simp)).trans a6
  refine ⟨(far _ _ n1).trans a1, (far _ _ n1).trans a2, (far _ _ n2).trans a3, (far _ _ n2).trans a4, ?_, World.cell?_setCell_same _ _ _ e6, ?_, ?_, ?_, ?_⟩
  · exact (World.cell?_setCell_other _ _ _ _ (by simp)).trans (World.cell?_setCell_same _ _ _ a5)
  all_goals rw [World.frozen?_setCell, World.frozen?_setCell]; assumption
end Go.Proofs.YtgilnnipephfjaaGreatDoor
