/- The reference's numbers: OfUint, Of, Abs, Text. The reference's numbers: Of, Abs, Text. The text of a number of the reference's that is not below 0. The reference's numbers: Abs. -/
import Derived.Test.YtgilnnipephfjaaGreatDoorM33Eql
set_option linter.unusedSimpArgs false
set_option linter.unusedVariables false
namespace Go.Proofs.YtgilnnipephfjaaGreatDoor
open Go.RowKit

/-- Decimal digits, the lowest one first. -/
def dlow (n : Nat) : List UInt8 := if h : n = 0 then [] else UInt8.ofNat (n % 10) :: dlow (n / 10)
  termination_by n
theorem dlow_zero : dlow 0 = [] := by rw [dlow]; simp
theorem dlow_pos {n : Nat} (h : n ≠ 0) : dlow n = UInt8.ofNat (n % 10) :: dlow (n / 10) := by rw [dlow, dif_neg h]
theorem dlow_length {n : Nat} (h : n ≠ 0) : (dlow n).length = ndig n := by
  induction n using Nat.strongRecOn with
  | _ n ih =>
    rw [dlow_pos h, List.length_cons, ndig]
    by_cases h1 : n < 10
    · rw [dif_pos h1, Nat.div_eq_of_lt h1, dlow_zero]; rfl
    · rw [dif_neg h1, ih (n / 10) (by omega) (by omega)]
theorem dlow_get : ∀ (n i : Nat) (h : i < (dlow n).length), ((dlow n)[i]).toNat = dg n i := by
  intro n
  induction n using Nat.strongRecOn with
  | _ n ih =>
    intro i h
    by_cases h0 : n = 0
    · subst h0; simp [dlow_zero] at h
    · have e := dlow_pos h0
      cases i with
      | zero =>
        simp only [e, List.getElem_cons_zero, UInt8.toNat_ofNat']
        simp [dg]; omega
      | succ i =>
        simp only [e, List.getElem_cons_succ]
        rw [ih (n / 10) (by omega) i (by rw [e] at h; simpa using h)]
        unfold dg
        rw [Nat.div_div_eq_div_mul, ← Nat.pow_succ']
theorem dlow_len_le {n : Nat} (h : n < 2 ^ 64) : (dlow n).length ≤ 65 := by
  by_cases h0 : n = 0
  · subst h0; simp [dlow_zero]
  · rw [dlow_length h0]
    have := ndig_bl n
    have := (lt_two_iff n 64).1 h
    omega
theorem Src.oneZ (w : World) {z : Int} (x : UInt8) (hz : z = ((x.toNat : Nat) : Int)) (t : TypeId) : Src Tryz.prog 1 38 (.slice (some ⟨w.heap.size, 0, none⟩) 1 1) 1 (bv [x]) (w.alloc (.cells #[.int .u8 z] t)) := by
  rw [hz]; exact Src.one w x t
set_option maxRecDepth 100000 in
set_option maxHeartbeats 1000000 in
theorem ofUint_any {w : World} (u : Nat) (hG : NG ≤ w.heap.size) (hu : u < B) :
    Calls Tryz.prog 73 #[.int .u64 u] w fun e1 w' => ∃ a n c, e1 = .returned (.agg #[.bool false, .slice a n c]) ∧ Bf w' a n c (dlow u) ∧ Fr (fun _ _ => False) w w' := by
  have F0 := Aside.mk ((Fr.refl (fun _ _ => False) w).alloc (.cells #[.bool false, .slice none 0 0] 45))
  have hlu := dlow_len_le (n := u) (by rw [B_two] at hu; exact hu)
  obtain ⟨w1, hw1⟩ : ∃ x, w.alloc (.cells #[.bool false, .slice none 0 0] 45) = x := ⟨_, rfl⟩
  have k0 : w1.cell? ⟨w.heap.size, 0, none⟩ = some (.bool false) := by rw [← hw1, World.cell?_alloc_new]; rfl
  have k1 : w1.cell? ⟨w.heap.size, 1, none⟩ = some (.slice none 0 0) := by rw [← hw1, World.cell?_alloc_new]; rfl
  have kk : kind? w1 w.heap.size = some (45, (0, 0)) := by rw [← hw1]; exact kind_alloc_new _ _ _ _
  rw [hw1] at F0
  have hs1 : w1.heap.size = w.heap.size + 1 := by rw [← hw1]; simp
  have HK := Aside.mk (And.intro k0 (And.intro k1 kk))
  have HS1 := Aside.mk hs1
  have B0 := Aside.mk (BW.start (Bf.nil w1))
  have hHU := Aside.mk hu
  clear k0 k1 kk hs1
  go_enter Tryz.func73, Tryz.ntmps73
  go_wp2_with fail
  clear hw1
  go_loopw [0, 3] (fun nv dv wr => ∃ (m n : Nat) (a : Option Addr) (c : Nat) (dl : List UInt8), m ≤ u ∧ nv = .int .u64 m ∧ dv = .slice a n c ∧ Aside (BW w1 wr none 0 a n c dl) ∧ Aside (dl ++ dlow m = dlow u)) (fun nv _ _ => (intOf nv).toNat)
  case atStart => exact ⟨u, 0, none, 0, [], Nat.le_refl _, rfl, rfl, B0, ⟨rfl⟩⟩
  case round =>
    obtain ⟨m, n, a, c, dl, hm, rfl, rfl, hB, hD⟩ := hrel
    by_cases h0 : m = 0
    · subst h0
      have hd2 : dl = dlow u := by rw [← hD.out, dlow_zero, List.append_nil]
      have r0 := (hB.out.fr.cell w.heap.size 0 (by rw [HS1.out]; omega) (foot_zero _ _ _)).trans HK.out.1
      have r1 := (hB.out.fr.cell w.heap.size 1 (by rw [HS1.out]; omega) (foot_zero _ _ _)).trans HK.out.2.1
      have rf := free_of_kind ((hB.out.fr.kind w.heap.size (by rw [HS1.out]; omega)).trans HK.out.2.2)
      have HD2 := Aside.mk hd2
      clear hd2
      go_wp2_with fail
      refine bodyPost_ret (v := .agg #[.bool false, .slice a n c]) (by simp [results, Tryz.results73, go_sem, r0, r1]) rfl ⟨a, n, c, rfl, ?_, ?_⟩
      · have hbf := hB.out.bf
        rw [HD2.out] at hbf
        refine hbf.fr (((Fr.refl (fun x _ => x = w.heap.size) wr).setCell w.heap.size 0 _ (fun _ => rfl)).setCell w.heap.size 1 _ (fun _ => rfl)) (fun x y k1 k2 => ?_)
        rcases hB.out.out with ⟨rfl, rfl⟩ | ⟨b2, o2, rfl, h2⟩
        · exact foot_none _ _ _ k1
        · rw [foot_some] at k1; rw [HS1.out] at h2; omega
      · exact ((F0.out.trans' hB.out.fr (fun _ _ _ k => k) (fun x y _ k => (foot_none _ _ _ k).elim)).setCell w.heap.size 0 _ (fun q => by omega)).setCell w.heap.size 1 _ (fun q => by omega)
    · have hpos : (0 : Int) < m := by omega
      have hlm := hD.out
      rw [dlow_pos h0] at hlm
      have hn1 : n + 1 ≤ 65 := by
        have h1 := congrArg List.length hlm
        simp at h1
        have := hB.out.bf.len
        omega
      have hD1 : Aside ((dl ++ [UInt8.ofNat (m % 10)]) ++ dlow (m / 10) = dlow u) := ⟨by rw [← hlm]; simp⟩
      clear hlm hlu
      have hz : (m : Int) % 10 = (((UInt8.ofNat (m % 10)).toNat : Nat) : Int) := by rw [UInt8.toNat_ofNat']; omega
      have HZ := Aside.mk hz
      have HW : Aside (IntKind.u64.wrap ((m : Int) / 10) = ((m / 10 : Nat) : Int)) := ⟨by
        have := wrapU (n := m / 10) (Nat.lt_of_le_of_lt (Nat.le_trans (Nat.div_le_self _ _) hm) hu)
        rwa [Int.natCast_ediv] at this ⊢⟩
      clear hz
      go_upto_region 3 with (at_builtin; go_must (refine wpList_appendB _ rfl (.tmp 8) (.tmp 12) 38 rfl ((hB.out.alloc _).size (Nat.le_trans hG F0.out.size)) (hB.out.alloc _).bf rfl rfl (Src.oneZ wr _ HZ.out 5) rfl (by omega) ?_; intro a2 c2 w2 k1 k2 k3; have B2 := Aside.mk ((hB.out.alloc _).append k1 k2 k3); clear k1 k2 k3))
      go_wp2_with fail
      go_roundw
      case rel => exact ⟨m / 10, n + 1, a2, c2, _, by omega, by rw [HW.out], rfl, B2, hD1⟩
      case measure => have := HW.out; simp [intOf]; omega

/-- The text of a number of the reference's. -/
theorem natText_low {n : Nat} (h : n ≠ 0) : natText n = (dlow n).reverse.map fun c => UInt8.ofNat (48 + c.toNat) := by
  apply List.ext_getElem
  · rw [natText_length, List.length_map, List.length_reverse, dlow_length h]
  · intro i h1 h2
    rw [natText_length] at h1
    simp only [natText, List.getElem_map, List.getElem_range, List.getElem_reverse]
    rw [dlow_get, dlow_length h]
end Go.Proofs.YtgilnnipephfjaaGreatDoor
namespace Go.Proofs.YtgilnnipephfjaaGreatDoor
open Go.RowKit

/-- The result's block, behind a call. -/
theorem res2 {w w1 : World} (f : Fr (fun _ _ => False) (w.alloc (.cells #[.bool false, .slice none 0 0] 45)) w1) :
    w1.cell? ⟨w.heap.size, 0, none⟩ = some (.bool false) ∧ w1.cell? ⟨w.heap.size, 1, none⟩ = some (.slice none 0 0) ∧ w1.frozen? ⟨w.heap.size, 0, none⟩ = false ∧ w1.frozen? ⟨w.heap.size, 1, none⟩ = false ∧ w.heap.size < w1.heap.size := by
  have hk := (f.kind w.heap.size (by simp)).trans (kind_alloc_new w _ 45 (0, 0))
  refine ⟨(f.cell _ 0 (by simp) (fun q => q)).trans (by rw [World.cell?_alloc_new]; rfl), (f.cell _ 1 (by simp) (fun q => q)).trans (by rw [World.cell?_alloc_new]; rfl), free_of_kind hk 0, free_of_kind hk 1, ?_⟩
  have := f.size; simp at this; omega
theorem Bf.cell_u8 {w : World} {a : Option Addr} {n c b o : Nat} {l : List UInt8} (h : Bf w a n c l) (k : foot a c b o) : ∃ x : Nat, w.cell? ⟨b, o, none⟩ = some (.int .u8 (x : Nat)) := by
  obtain ⟨b', o', e, rfl, h1, h2⟩ := k
  rcases h.reg with ⟨q, _⟩ | ⟨b2, o2, q, ho, _⟩
  · rw [q] at e; cases e
  · rw [q] at e; cases e
    obtain ⟨x, _, hx⟩ := ho.cell (o - o') (by omega)
    exact ⟨x, by rwa [show o' + (o - o') = o from by omega] at hx⟩
theorem Bf.res {w : World} {a : Option Addr} {n c r : Nat} {l : List UInt8} (h : Bf w a n c l) {x : Bool} {y : Value} (hy : ∀ z : Int, y ≠ .int .u8 z) (r0 : w.cell? ⟨r, 0, none⟩ = some (.bool x)) (r1 : w.cell? ⟨r, 1, none⟩ = some y) (v0 v1 : Value) :
    Bf ((w.setCell ⟨r, 0, none⟩ v0).setCell ⟨r, 1, none⟩ v1) a n c l := by
  refine h.fr (((Fr.refl (fun b o => b = r ∧ (o = 0 ∨ o = 1)) w).setCell r 0 v0 (fun _ => ⟨rfl, .inl rfl⟩)).setCell r 1 v1 (fun _ => ⟨rfl, .inr rfl⟩)) ?_
  rintro b o k ⟨rfl, rfl | rfl⟩
  · obtain ⟨z, hz⟩ := h.cell_u8 k; rw [r0] at hz; cases hz
  · obtain ⟨z, hz⟩ := h.cell_u8 k; rw [r1] at hz; cases hz; exact hy _ rfl
set_option maxRecDepth 100000 in
set_option maxHeartbeats 1000000 in
theorem of_any {w : World} (n : Int) (hG : NG ≤ w.heap.size) (h0 : -9223372036854775808 ≤ n) (h1 : n ≤ 9223372036854775807) :
    Calls Tryz.prog 35 #[.int .i64 n] w fun e1 w' => ∃ s a m c, e1 = .returned (.agg #[.bool s, .slice a m c]) ∧ Bf w' a m c (dlow n.natAbs) ∧ Fr (fun _ _ => False) w w' := by
  have hlt := abs_lt n h0 h1
  have F0 := Aside.mk ((Fr.refl (fun _ _ => False) w).alloc (.cells #[.bool false, .slice none 0 0] 45))
  have H := Lib.hid (ofUint_any (w := w.alloc (.cells #[.bool false, .slice none 0 0] 45)) n.natAbs (by simp; omega) hlt)
  by_cases hn : n < 0
  · have hw : IntKind.u64.wrap (IntKind.u64.wrap (wrap64 (-wrap64 (n + 1))) + 1) = (n.natAbs : Int) := by
      rw [IntKind.wrap_u64, IntKind.wrap_u64]; unfold wrap64; omega
    have HW := Aside.mk hw
    clear h0 h1 hw hlt
    go_enter Tryz.func35, Tryz.ntmps35
    go_wp2_with fail
    rw [HW.out]
    refine H.out.mono ?_
    rintro e1 w1 ⟨a, m, c, rfl, k1, k2⟩
    obtain ⟨r0, r1, r2, r3, r4⟩ := res2 k2
    have K1 := Aside.mk k1
    have K2 := Aside.mk (F0.out.trans k2)
    have HR := Aside.mk r4
    clear k1 k2 H
    go_wp2_with fail
    refine bodyPost_ret (v := .agg #[.bool true, .slice a m c]) (by simp [results, Tryz.results35, go_sem, r0, r1, HR.out]) rfl ⟨true, a, m, c, rfl, ?_, ?_⟩
    · exact (K1.out.res (by intro z q; cases q) r0 r1 _ _).fr ((Fr.refl (fun _ _ => False) _).alloc _) (fun _ _ _ q => q)
    · exact ((K2.out.setCell w.heap.size 0 _ (fun q => by omega)).setCell w.heap.size 1 _ (fun q => by omega)).alloc _
  · have hw : IntKind.u64.wrap n = (n.natAbs : Int) := by rw [IntKind.wrap_u64]; omega
    have HW := Aside.mk hw
    clear h0 h1 hw hlt
    go_enter Tryz.func35, Tryz.ntmps35
    go_wp2_with fail
    rw [HW.out]
    refine H.out.mono ?_
    rintro e1 w1 ⟨a, m, c, rfl, k1, k2⟩
    obtain ⟨r0, r1, r2, r3, r4⟩ := res2 k2
    have K1 := Aside.mk k1
    have K2 := Aside.mk (F0.out.trans k2)
    clear k1 k2 H
    go_wp2_with fail
    refine bodyPost_ret (v := .agg #[.bool false, .slice a m c]) (by simp [results, Tryz.results35, go_sem, r0, r1]) rfl ⟨false, a, m, c, rfl, ?_, ?_⟩
    · exact K1.out.res (by intro z q; cases q) r0 r1 _ _
    · exact (K2.out.setCell w.heap.size 0 _ (fun q => by omega)).setCell w.heap.size 1 _ (fun q => by omega)
end Go.Proofs.YtgilnnipephfjaaGreatDoor
namespace Go.Proofs.YtgilnnipephfjaaGreatDoor
open Go.RowKit

/-- Digits, the lowest one first, as text from place r on. -/
def upT (l : List UInt8) (r : Nat) : List UInt8 := ((l.drop r).reverse).map fun c => UInt8.ofNat (48 + c.toNat)
theorem upT_step {l : List UInt8} {k : Nat} (h : k < l.length) : upT l k = upT l (k + 1) ++ [UInt8.ofNat (48 + l[k].toNat)] := by
  unfold upT
  rw [List.drop_eq_getElem_cons h]
  simp only [List.reverse_cons, List.map_append, List.map_cons, List.map_nil]
theorem upT_zero {X : Nat} (h : X ≠ 0) : upT (dlow X) 0 = natText X := by rw [natText_low h]; simp [upT]
theorem upT_length (l : List UInt8) (r : Nat) : (upT l r).length = l.length - r := by simp [upT]
end Go.Proofs.YtgilnnipephfjaaGreatDoor
namespace Go.Proofs.YtgilnnipephfjaaGreatDoor
open Go.RowKit

end Go.Proofs.YtgilnnipephfjaaGreatDoor
