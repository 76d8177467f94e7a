/- The reference's numbers: OfUint, Of, Abs, Text. The reference's numbers: Of, Abs, Text. The text of a number of the reference's that is not below 0. The reference's texts: noughts, number. The reference's texts: scientific, plain. The reference's texts: plain, Text. spec.Text in the formats e, E, f, g. -/
import Derived.Test.YtifkpcijheabhaaGreatDoorM33Eql
import Derived.Test.YtifkpcijheabhaaGreatDoorP34Fmt6
import Derived.Test.YtifkpcijheabhaaGreatDoorP39Fmt9
import Derived.Deep.RegionHeld3
set_option linter.unusedSimpArgs false
set_option linter.unusedVariables false
namespace Go.Proofs.YtifkpcijheabhaaGreatDoor
open Go.RowKit

/-- Decimal digits, the lowest one first. -/
def dlow (n : Nat) : List UInt8 := if h : n = 0 then [] else UInt8.ofNat (n % 10) :: dlow (n / 10)
  termination_by n
theorem dlow_zero : dlow 0 = [] := by rw [dlow]; simp
theorem dlow_pos {n : Nat} (h : n ≠ 0) : dlow n = UInt8.ofNat (n % 10) :: dlow (n / 10) := by rw [dlow, dif_neg h]
theorem dlow_length {n : Nat} (h : n ≠ 0) : (dlow n).length = ndig n := by
  induction n using Nat.strongRecOn with
  | _ n ih =>
    rw [dlow_pos h, List.length_cons, ndig]
    by_cases h1 : n < 10
    · rw [dif_pos h1, Nat.div_eq_of_lt h1, dlow_zero]; rfl
    · rw [dif_neg h1, ih (n / 10) (by omega) (by omega)]
theorem dlow_get : ∀ (n i : Nat) (h : i < (dlow n).length), ((dlow n)[i]).toNat = dg n i := by
  intro n
  induction n using Nat.strongRecOn with
  | _ n ih =>
    intro i h
    by_cases h0 : n = 0
    · subst h0; simp [dlow_zero] at h
    · have e := dlow_pos h0
      cases i with
      | zero =>
        simp only [e, List.getElem_cons_zero, UInt8.toNat_ofNat']
        simp [dg]; omega
      | succ i =>
        simp only [e, List.getElem_cons_succ]
        rw [ih (n / 10) (by omega) i (by rw [e] at h; simpa using h)]
        unfold dg
        rw [Nat.div_div_eq_div_mul, ← Nat.pow_succ']
theorem dlow_len_le {n : Nat} (h : n < 2 ^ 64) : (dlow n).length ≤ 65 := by
  by_cases h0 : n = 0
  · subst h0; simp [dlow_zero]
  · rw [dlow_length h0]
    have := ndig_bl n
    have := (lt_two_iff n 64).1 h
    omega
theorem Src.oneZ (w : World) {z : Int} (x : UInt8) (hz : z = ((x.toNat : Nat) : Int)) (t : TypeId) : Src Tryz.prog 1 32 (.slice (some ⟨w.heap.size, 0, none⟩) 1 1) 1 (bv [x]) (w.alloc (.cells #[.int .u8 z] t)) := by
  rw [hz]; exact Src.one w x t
set_option maxRecDepth 100000 in
set_option maxHeartbeats 1000000 in
theorem ofUint_any {w : World} (u : Nat) (hG : NG ≤ w.heap.size) (hu : u < B) :
    Calls Tryz.prog 85 #[.int .u64 u] w fun e1 w' => ∃ a n c, e1 = .returned (.agg #[.bool false, .slice a n c]) ∧ Bf w' a n c (dlow u) ∧ Fr (fun _ _ => False) w w' := by
  have F0 := Aside.mk ((Fr.refl (fun _ _ => False) w).alloc (.cells #[.bool false, .slice none 0 0] 36))
  have hlu := dlow_len_le (n := u) (by rw [B_two] at hu; exact hu)
  obtain ⟨w1, hw1⟩ : ∃ x, w.alloc (.cells #[.bool false, .slice none 0 0] 36) = x := ⟨_, rfl⟩
  have k0 : w1.cell? ⟨w.heap.size, 0, none⟩ = some (.bool false) := by rw [← hw1, World.cell?_alloc_new]; rfl
  have k1 : w1.cell? ⟨w.heap.size, 1, none⟩ = some (.slice none 0 0) := by rw [← hw1, World.cell?_alloc_new]; rfl
  have kk : kind? w1 w.heap.size = some (36, (0, 0)) := by rw [← hw1]; exact kind_alloc_new _ _ _ _
  rw [hw1] at F0
  have hs1 : w1.heap.size = w.heap.size + 1 := by rw [← hw1]; simp
  have HK := Aside.mk (And.intro k0 (And.intro k1 kk))
  have HS1 := Aside.mk hs1
  have B0 := Aside.mk (BW.start (Bf.nil w1))
  have hHU := Aside.mk hu
  clear k0 k1 kk hs1
  go_enter Tryz.func85, Tryz.ntmps85
  go_wp2_with fail
  clear hw1
  go_loopw [0, 3] (fun nv dv wr => ∃ (m n : Nat) (a : Option Addr) (c : Nat) (dl : List UInt8), m ≤ u ∧ nv = .int .u64 m ∧ dv = .slice a n c ∧ Aside (BW w1 wr none 0 a n c dl) ∧ Aside (dl ++ dlow m = dlow u)) (fun nv _ _ => (intOf nv).toNat)
  case atStart => exact ⟨u, 0, none, 0, [], Nat.le_refl _, rfl, rfl, B0, ⟨rfl⟩⟩
  case round =>
    obtain ⟨m, n, a, c, dl, hm, rfl, rfl, hB, hD⟩ := hrel
    by_cases h0 : m = 0
    · subst h0
      have hd2 : dl = dlow u := by rw [← hD.out, dlow_zero, List.append_nil]
      have r0 := (hB.out.fr.cell w.heap.size 0 (by rw [HS1.out]; omega) (foot_zero _ _ _)).trans HK.out.1
      have r1 := (hB.out.fr.cell w.heap.size 1 (by rw [HS1.out]; omega) (foot_zero _ _ _)).trans HK.out.2.1
      have rf := free_of_kind ((hB.out.fr.kind w.heap.size (by rw [HS1.out]; omega)).trans HK.out.2.2)
      have HD2 := Aside.mk hd2
      clear hd2
      go_wp2_with fail
      refine bodyPost_ret (v := .agg #[.bool false, .slice a n c]) (by simp [results, Tryz.results85, go_sem, r0, r1]) rfl ⟨a, n, c, rfl, ?_, ?_⟩
      · have hbf := hB.out.bf
        rw [HD2.out] at hbf
        refine hbf.fr (((Fr.refl (fun x _ => x = w.heap.size) wr).setCell w.heap.size 0 _ (fun _ => rfl)).setCell w.heap.size 1 _ (fun _ => rfl)) (fun x y k1 k2 => ?_)
        rcases hB.out.out with ⟨rfl, rfl⟩ | ⟨b2, o2, rfl, h2⟩
        · exact foot_none _ _ _ k1
        · rw [foot_some] at k1; rw [HS1.out] at h2; omega
      · exact ((F0.out.trans' hB.out.fr (fun _ _ _ k => k) (fun x y _ k => (foot_none _ _ _ k).elim)).setCell w.heap.size 0 _ (fun q => by omega)).setCell w.heap.size 1 _ (fun q => by omega)
    · have hpos : (0 : Int) < m := by omega
      have hlm := hD.out
      rw [dlow_pos h0] at hlm
      have hn1 : n + 1 ≤ 65 := by
        have h1 := congrArg List.length hlm
        simp at h1
        have := hB.out.bf.len
        omega
      have hD1 : Aside ((dl ++ [UInt8.ofNat (m % 10)]) ++ dlow (m / 10) = dlow u) := ⟨by rw [← hlm]; simp⟩
      clear hlm hlu
      have hz : (m : Int) % 10 = (((UInt8.ofNat (m % 10)).toNat : Nat) : Int) := by rw [UInt8.toNat_ofNat']; omega
      have HZ := Aside.mk hz
      have HW : Aside (IntKind.u64.wrap ((m : Int) / 10) = ((m / 10 : Nat) : Int)) := ⟨by
        have := wrapU (n := m / 10) (Nat.lt_of_le_of_lt (Nat.le_trans (Nat.div_le_self _ _) hm) hu)
        rwa [Int.natCast_ediv] at this ⊢⟩
      clear hz
      go_upto_region 3 with (at_builtin; go_must (refine wpList_appendB _ rfl (.tmp 8) (.tmp 12) 32 rfl ((hB.out.alloc _).size (Nat.le_trans hG F0.out.size)) (hB.out.alloc _).bf rfl rfl (Src.oneZ wr _ HZ.out 5) rfl (by omega) ?_; intro a2 c2 w2 k1 k2 k3; have B2 := Aside.mk ((hB.out.alloc _).append k1 k2 k3); clear k1 k2 k3))
      go_wp2_with fail
      go_roundw
      case rel => exact ⟨m / 10, n + 1, a2, c2, _, by omega, by rw [HW.out], rfl, B2, hD1⟩
      case measure => have := HW.out; simp [intOf]; omega

/-- The text of a number of the reference's. -/
theorem natText_low {n : Nat} (h : n ≠ 0) : natText n = (dlow n).reverse.map fun c => UInt8.ofNat (48 + c.toNat) := by
  apply List.ext_getElem
  · rw [natText_length, List.length_map, List.length_reverse, dlow_length h]
  · intro i h1 h2
    rw [natText_length] at h1
    simp only [natText, List.getElem_map, List.getElem_range, List.getElem_reverse]
    rw [dlow_get, dlow_length h]
end Go.Proofs.YtifkpcijheabhaaGreatDoor
namespace Go.Proofs.YtifkpcijheabhaaGreatDoor
open Go.RowKit

/-- The result's block, behind a call. -/
theorem res2 {w w1 : World} (f : Fr (fun _ _ => False) (w.alloc (.cells #[.bool false, .slice none 0 0] 36)) w1) :
    w1.cell? ⟨w.heap.size, 0, none⟩ = some (.bool false) ∧ w1.cell? ⟨w.heap.size, 1, none⟩ = some (.slice none 0 0) ∧ w1.frozen? ⟨w.heap.size, 0, none⟩ = false ∧ w1.frozen? ⟨w.heap.size, 1, none⟩ = false ∧ w.heap.size < w1.heap.size := by
  have hk := (f.kind w.heap.size (by simp)).trans (kind_alloc_new w _ 36 (0, 0))
  refine ⟨(f.cell _ 0 (by simp) (fun q => q)).trans (by rw [World.cell?_alloc_new]; rfl), (f.cell _ 1 (by simp) (fun q => q)).trans (by rw [World.cell?_alloc_new]; rfl), free_of_kind hk 0, free_of_kind hk 1, ?_⟩
  have := f.size; simp at this; omega
theorem Bf.cell_u8 {w : World} {a : Option Addr} {n c b o : Nat} {l : List UInt8} (h : Bf w a n c l) (k : foot a c b o) : ∃ x : Nat, w.cell? ⟨b, o, none⟩ = some (.int .u8 (x : Nat)) := by
  obtain ⟨b', o', e, rfl, h1, h2⟩ := k
  rcases h.reg with ⟨q, _⟩ | ⟨b2, o2, q, ho, _⟩
  · rw [q] at e; cases e
  · rw [q] at e; cases e
    obtain ⟨x, _, hx⟩ := ho.cell (o - o') (by omega)
    exact ⟨x, by rwa [show o' + (o - o') = o from by omega] at hx⟩
theorem Bf.res {w : World} {a : Option Addr} {n c r : Nat} {l : List UInt8} (h : Bf w a n c l) {x : Bool} {y : Value} (hy : ∀ z : Int, y ≠ .int .u8 z) (r0 : w.cell? ⟨r, 0, none⟩ = some (.bool x)) (r1 : w.cell? ⟨r, 1, none⟩ = some y) (v0 v1 : Value) :
    Bf ((w.setCell ⟨r, 0, none⟩ v0).setCell ⟨r, 1, none⟩ v1) a n c l := by
  refine h.fr (((Fr.refl (fun b o => b = r ∧ (o = 0 ∨ o = 1)) w).setCell r 0 v0 (fun _ => ⟨rfl, .inl rfl⟩)).setCell r 1 v1 (fun _ => ⟨rfl, .inr rfl⟩)) ?_
  rintro b o k ⟨rfl, rfl | rfl⟩
  · obtain ⟨z, hz⟩ := h.cell_u8 k; rw [r0] at hz; cases hz
  · obtain ⟨z, hz⟩ := h.cell_u8 k; rw [r1] at hz; cases hz; exact hy _ rfl
set_option maxRecDepth 100000 in
set_option maxHeartbeats 1000000 in
theorem of_any {w : World} (n : Int) (hG : NG ≤ w.heap.size) (h0 : -9223372036854775808 ≤ n) (h1 : n ≤ 9223372036854775807) :
    Calls Tryz.prog 63 #[.int .i64 n] w fun e1 w' => ∃ s a m c, e1 = .returned (.agg #[.bool s, .slice a m c]) ∧ Bf w' a m c (dlow n.natAbs) ∧ Fr (fun _ _ => False) w w' := by
  have hlt := abs_lt n h0 h1
  have F0 := Aside.mk ((Fr.refl (fun _ _ => False) w).alloc (.cells #[.bool false, .slice none 0 0] 36))
  have H := Lib.hid (ofUint_any (w := w.alloc (.cells #[.bool false, .slice none 0 0] 36)) n.natAbs (by simp; omega) hlt)
  by_cases hn : n < 0
  · have hw : IntKind.u64.wrap (IntKind.u64.wrap (wrap64 (-wrap64 (n + 1))) + 1) = (n.natAbs : Int) := by
      rw [IntKind.wrap_u64, IntKind.wrap_u64]; unfold wrap64; omega
    have HW := Aside.mk hw
    clear h0 h1 hw hlt
    go_enter Tryz.func63, Tryz.ntmps63
    go_wp2_with fail
    rw [HW.out]
    refine H.out.mono ?_
    rintro e1 w1 ⟨a, m, c, rfl, k1, k2⟩
    obtain ⟨r0, r1, r2, r3, r4⟩ := res2 k2
    have K1 := Aside.mk k1
    have K2 := Aside.mk (F0.out.trans k2)
    have HR := Aside.mk r4
    clear k1 k2 H
    go_wp2_with fail
    refine bodyPost_ret (v := .agg #[.bool true, .slice a m c]) (by simp [results, Tryz.results63, go_sem, r0, r1, HR.out]) rfl ⟨true, a, m, c, rfl, ?_, ?_⟩
    · exact (K1.out.res (by intro z q; cases q) r0 r1 _ _).fr ((Fr.refl (fun _ _ => False) _).alloc _) (fun _ _ _ q => q)
    · exact ((K2.out.setCell w.heap.size 0 _ (fun q => by omega)).setCell w.heap.size 1 _ (fun q => by omega)).alloc _
  · have hw : IntKind.u64.wrap n = (n.natAbs : Int) := by rw [IntKind.wrap_u64]; omega
    have HW := Aside.mk hw
    clear h0 h1 hw hlt
    go_enter Tryz.func63, Tryz.ntmps63
    go_wp2_with fail
    rw [HW.out]
    refine H.out.mono ?_
    rintro e1 w1 ⟨a, m, c, rfl, k1, k2⟩
    obtain ⟨r0, r1, r2, r3, r4⟩ := res2 k2
    have K1 := Aside.mk k1
    have K2 := Aside.mk (F0.out.trans k2)
    clear k1 k2 H
    go_wp2_with fail
    refine bodyPost_ret (v := .agg #[.bool false, .slice a m c]) (by simp [results, Tryz.results63, go_sem, r0, r1]) rfl ⟨false, a, m, c, rfl, ?_, ?_⟩
    · exact K1.out.res (by intro z q; cases q) r0 r1 _ _
    · exact (K2.out.setCell w.heap.size 0 _ (fun q => by omega)).setCell w.heap.size 1 _ (fun q => by omega)
end Go.Proofs.YtifkpcijheabhaaGreatDoor
namespace Go.Proofs.YtifkpcijheabhaaGreatDoor
open Go.RowKit

/-- Digits, the lowest one first, as text from place r on. -/
def upT (l : List UInt8) (r : Nat) : List UInt8 := ((l.drop r).reverse).map fun c => UInt8.ofNat (48 + c.toNat)
theorem upT_step {l : List UInt8} {k : Nat} (h : k < l.length) : upT l k = upT l (k + 1) ++ [UInt8.ofNat (48 + l[k].toNat)] := by
  unfold upT
  rw [List.drop_eq_getElem_cons h]
  simp only [List.reverse_cons, List.map_append, List.map_cons, List.map_nil]
theorem upT_zero {X : Nat} (h : X ≠ 0) : upT (dlow X) 0 = natText X := by rw [natText_low h]; simp [upT]
theorem upT_length (l : List UInt8) (r : Nat) : (upT l r).length = l.length - r := by simp [upT]
set_option maxRecDepth 100000 in
set_option maxHeartbeats 1000000 in
theorem numText_any {w : World} {a : Option Addr} {m c X : Nat} (hG : NG ≤ w.heap.size) (hB : Bf w a m c (dlow X)) (hm : m ≤ 100000) :
    Calls Tryz.prog 64 #[.agg #[.bool false, .slice a m c]] w fun e1 w' => e1 = .returned (.string (mk (natText X))) ∧ Fr (fun _ _ => False) w w' := by
  by_cases h0 : X = 0
  · subst h0
    have hm0 : m = 0 := by rw [← hB.len, dlow_zero]; rfl
    subst hm0
    rw [natText_zero]
    clear hB hm
    go_enter Tryz.func64, Tryz.ntmps64
    go_wp2_with fail
    go_ret
    exact ⟨rfl, (Fr.refl _ w).alloc _⟩
  · have hlen : (dlow X).length = m := hB.len
    have hp : 0 < m := by rw [← hlen, dlow_length h0]; exact ndig_pos X
    obtain ⟨db, dO, rfl, hbs, hdlt⟩ := hB.pos hp
    have hm0 : ((m : Int) == 0) = false := by rw [beq_eq_false_iff_ne]; omega
    obtain ⟨w1, hw1⟩ : ∃ x, w.alloc (.cells #[.bool false, .slice (some ⟨db, dO, none⟩) m c] 36) = x := ⟨_, rfl⟩
    have F1 : Aside (Fr (fun _ _ => False) w w1) := ⟨by rw [← hw1]; exact (Fr.refl _ w).alloc _⟩
    have xd : Aside (w1.cell? ⟨w.heap.size, 1, none⟩ = some (.slice (some ⟨db, dO, none⟩) m c)) := ⟨by rw [← hw1, World.cell?_alloc_new]; rfl⟩
    have hs1 : Aside (w1.heap.size = w.heap.size + 1) := ⟨by rw [← hw1]; simp⟩
    have x0 : w1.cell? ⟨w.heap.size, 0, none⟩ = some (.bool false) := by rw [← hw1, World.cell?_alloc_new]; rfl
    have x1 : w1.cell? ⟨w.heap.size, 1, none⟩ = some (.slice (some ⟨db, dO, none⟩) m c) := xd.out
    have B0 := Aside.mk (BW.start (Bf.nil w1))
    have HL := Aside.mk hlen
    have HBS := Aside.mk hbs
    have hd10 : Aside (∀ i (h : i < (dlow X).length), ((dlow X)[i]).toNat < 10) := ⟨fun i h => by rw [dlow_get]; exact dg_lt _ _⟩
    have H0 := Aside.mk h0
    clear hB hbs hlen h0
    go_enter Tryz.func64, Tryz.ntmps64
    go_wp2_with fail
    clear hw1
    go_loopw [3, 4] (fun sv iv wr => ∃ (r n : Nat) (a2 : Option Addr) (c2 : Nat), r ≤ m ∧ sv = .slice a2 n c2 ∧ iv = .int .i64 ((r : Int) - 1) ∧ Aside (BW w1 wr none 0 a2 n c2 (upT (dlow X) r))) (fun _ iv _ => (intOf iv + 1).toNat)
    case atStart => exact ⟨m, 0, none, 0, Nat.le_refl _, rfl, rfl, ⟨by
      have e : upT (dlow X) m = [] := List.eq_nil_of_length_eq_zero (by rw [upT_length, HL.out]; omega)
      rw [e]; exact B0.out⟩⟩
    case round =>
      obtain ⟨r, n, a2, c2, hr, rfl, rfl, hB⟩ := hrel
      have hn : n = m - r := by rw [← hB.out.bf.len, upT_length, HL.out]
      cases r with
      | zero =>
        have hcv := run_str hB.out.bf (by omega)
        rw [upT_zero H0.out] at hcv
        clear hn
        go_wp2_with fail
        go_ret
        exact ⟨rfl, F1.out.trans' hB.out.fr (fun _ _ _ k => k) (fun x y _ k => (foot_none _ _ _ k).elim)⟩
      | succ k =>
        have hk : k < (dlow X).length := by rw [HL.out]; omega
        have hc : wr.cell? ⟨w.heap.size, 1, none⟩ = some (.slice (some ⟨db, dO, none⟩) m c) := (hB.out.fr.cell _ 1 (by rw [hs1.out]; omega) (foot_zero _ _ _)).trans xd.out
        have hcd : wr.cell? ⟨db, dO + k, none⟩ = some (.int .u8 (((dlow X)[k].toNat : Nat) : Int)) := (hB.out.fr.cell db _ (by rw [hs1.out]; omega) (foot_zero _ _ _)).trans ((F1.out.cell db _ hdlt (fun q => q)).trans (HBS.out k hk))
        have h10 := hd10.out k hk
        obtain ⟨d, hd⟩ : ∃ d, ((dlow X)[k]).toNat = d := ⟨_, rfl⟩
        have hst := upT_step hk
        rw [hd] at hcd h10 hst
        have HST := Aside.mk hst
        have hz : Aside (48 + (d : Int) = (((UInt8.ofNat (48 + d)).toNat : Nat) : Int)) := ⟨by rw [UInt8.toNat_ofNat']; omega⟩
        rw [show ((k + 1 : Nat) : Int) - 1 = (k : Int) from by omega]
        have hn2 : n + 1 ≤ 100001 := by omega
        clear hst hn hd
        go_upto_region 8 with (at_builtin; go_must (refine wpList_appendB _ rfl (.tmp 22) (.tmp 29) 32 rfl ((hB.out.alloc _).size (Nat.le_trans hG F1.out.size)) (hB.out.alloc _).bf rfl rfl (Src.oneZ wr _ hz.out 5) rfl (by omega) ?_; intro a3 c3 w3 k1 k2 k3; have B2 := Aside.mk ((hB.out.alloc _).append k1 k2 k3); clear k1 k2 k3))
        go_wp2_with fail
        go_roundw
        case rel => exact ⟨k, n + 1, a3, c3, by omega, rfl, by go_num, ⟨by rw [HST.out]; exact B2.out⟩⟩
        case measure => simp [intOf]
end Go.Proofs.YtifkpcijheabhaaGreatDoor
namespace Go.Proofs.YtifkpcijheabhaaGreatDoor
open Go.RowKit

theorem run_str0 {w : World} {b o n c : Nat} {l : List UInt8} (h : Bf w (some ⟨b, o, none⟩) n c l) : (convert 32 9 (.slice (some ⟨b, o, none⟩) n c)).run Tryz.prog w = .ok (.string (mk l)) w := by
  have hb : Bs w b o l := by
    rcases h.reg with ⟨q, _⟩ | ⟨b2, o2, q, _, hb⟩
    · cases q
    · cases q; exact hb
  rw [← h.len]
  exact run_convert_bytes_back w _ _ _ ⟨b, o, none⟩ c l Tryz.underlying32 Tryz.underlying5 Tryz.underlying9 (fun j hj => by rw [Addr.add_lit]; exact hb j hj)
theorem BW.some {w wr : World} {b o bc n c : Nat} {a : Option Addr} {l : List UInt8} (h : BW w wr (some ⟨b, o, none⟩) bc a n c l) : ∃ b2 o2, a = some ⟨b2, o2, none⟩ := by
  rcases h.out with ⟨rfl, _⟩ | ⟨b2, o2, rfl, _⟩
  · exact ⟨_, _, rfl⟩
  · exact ⟨_, _, rfl⟩
theorem mk_append (l m : List UInt8) : mk (l ++ m) = mk l ++ mk m := by
  apply ByteArray.ext
  simp [mk]
theorem Bf.empty (w : World) (hG : NG ≤ w.heap.size) (t : TypeId) : Bf (w.alloc (.cells #[] t)) (some ⟨w.heap.size, 0, none⟩) 0 0 [] :=
  ⟨rfl, Nat.le_refl _, .inr ⟨_, _, rfl, ⟨fun i hi => by omega, ⟨hG, t, kind_alloc_new _ _ _ _⟩⟩, fun i hi => by simp at hi⟩⟩
set_option maxRecDepth 100000 in
set_option maxHeartbeats 1000000 in
theorem noughts_any {w : World} (z : Nat) (hG : NG ≤ w.heap.size) (hz : z ≤ 10000) :
    Calls Tryz.prog 50 #[.int .i64 z] w fun e1 w' => e1 = .returned (.string (mk (List.replicate z 48))) ∧ Fr (fun _ _ => False) w w' := by
  have F0 := Aside.mk ((Fr.refl (fun _ _ => False) w).alloc (.cells #[] 5))
  have Z0 := Aside.mk (BW.start (Bf.empty w hG 5))
  go_enter Tryz.func50, Tryz.ntmps50
  go_wp2_with fail
  obtain ⟨w1, hw1⟩ : ∃ x, w.alloc (.cells #[] 5) = x := ⟨_, rfl⟩
  simp only [hw1] at F0 Z0 ⊢
  have hs1 : w1.heap.size = w.heap.size + 1 := by rw [← hw1]; simp
  have HS := Aside.mk hs1
  clear hw1 hs1
  go_loopw [0, 3] (fun nv sv wr => ∃ (k : Nat) (a2 : Option Addr) (c2 : Nat), k ≤ z ∧ nv = .int .i64 ((z : Int) - k) ∧ sv = .slice a2 k c2 ∧ Aside (BW w1 wr (some ⟨w.heap.size, 0, none⟩) 0 a2 k c2 (List.replicate k 48))) (fun nv _ _ => (intOf nv).toNat)
  case atStart => exact ⟨0, _, 0, by omega, by simp, rfl, Z0⟩
  case round =>
    obtain ⟨k, a2, c2, hk, rfl, rfl, hB⟩ := hrel
    by_cases hkz : k < z
    · have hp : (0 : Int) < (z : Int) - k := by omega
      go_upto_region 3 with (at_builtin; go_must (refine wpList_appendB _ rfl (.tmp 9) (.tmp 10) 32 rfl ((hB.out.alloc _).size (Nat.le_trans hG F0.out.size)) (hB.out.alloc _).bf rfl rfl (Src.one wr 48 5) rfl (by omega) ?_; intro a3 c3 w3 k1 k2 k3; have B2 := Aside.mk ((hB.out.alloc _).append k1 k2 k3); clear k1 k2 k3))
      go_wp2_with fail
      go_roundw
      case rel => exact ⟨k + 1, a3, c3, by omega, by go_num, rfl, ⟨by rw [rep_snoc]; exact B2.out⟩⟩
      case measure => simp [intOf]; omega
    · obtain rfl : k = z := by omega
      obtain ⟨b2, o2, rfl⟩ := hB.out.some
      have hcv := run_str0 hB.out.bf
      have hp : ((k : Int) - k > 0) = False := by simp
      rw [show (k : Int) - k = 0 from by omega]
      go_wp2_with fail
      go_ret
      exact ⟨rfl, F0.out.trans' hB.out.fr (fun _ _ _ k => k) (fun x y hx k => by rw [foot_some] at k; omega)⟩
set_option maxRecDepth 100000 in
theorem of_nat {w : World} (u : Nat) (hG : NG ≤ w.heap.size) (hu : u ≤ 9999) :
    Calls Tryz.prog 63 #[.int .i64 u] w fun e1 w' => ∃ a m c, e1 = .returned (.agg #[.bool false, .slice a m c]) ∧ Bf w' a m c (dlow u) ∧ Fr (fun _ _ => False) w w' := by
  have hlt : u < B := Nat.lt_of_le_of_lt hu (by rw [B_two]; decide)
  have F0 := Aside.mk ((Fr.refl (fun _ _ => False) w).alloc (.cells #[.bool false, .slice none 0 0] 36))
  have H := Lib.hid (ofUint_any (w := w.alloc (.cells #[.bool false, .slice none 0 0] 36)) u (by simp; omega) hlt)
  have hw : IntKind.u64.wrap (u : Int) = (u : Int) := by rw [IntKind.wrap_u64]; omega
  have HW := Aside.mk hw
  clear hw hlt
  go_enter Tryz.func63, Tryz.ntmps63
  go_wp2_with fail
  try rw [HW.out]
  refine H.out.mono ?_
  rintro e1 w1 ⟨a, m, c, rfl, k1, k2⟩
  obtain ⟨r0, r1, r2, r3, r4⟩ := res2 k2
  have K1 := Aside.mk k1
  have K2 := Aside.mk (F0.out.trans k2)
  clear k1 k2 H
  go_wp2_with fail
  refine bodyPost_ret (v := .agg #[.bool false, .slice a m c]) (by simp [results, Tryz.results63, go_sem, r0, r1]) rfl ⟨a, m, c, rfl, ?_, ?_⟩
  · exact K1.out.res (by intro z q; cases q) r0 r1 _ _
  · exact (K2.out.setCell w.heap.size 0 _ (fun q => by omega)).setCell w.heap.size 1 _ (fun q => by omega)
set_option maxRecDepth 100000 in
theorem number_any {w : World} (k : Int) (hG : NG ≤ w.heap.size) (hk : -9999 ≤ k ∧ k ≤ 9999) :
    Calls Tryz.prog 49 #[.int .i64 k] w fun e1 w' => e1 = .returned (.string (mk (expL k))) ∧ Fr (fun _ _ => False) w w' := by
  have hT : Aside (∀ w1 (a : Option Addr) (m c X : Nat), Fr (fun _ _ => False) w w1 → X ≤ 9999 → Bf w1 a m c (dlow X) → Calls Tryz.prog 64 #[.agg #[.bool false, .slice a m c]] w1 fun e1 w' => e1 = .returned (.string (mk (natText X))) ∧ Fr (fun _ _ => False) w1 w') := ⟨fun w1 a m c X f hX hB => numText_any (Nat.le_trans hG f.size) hB (by rw [← hB.len]; exact Nat.le_trans (dlow_len_le (Nat.lt_of_le_of_lt hX (by decide))) (by decide))⟩
  by_cases hn : k < 0
  · obtain ⟨u, rfl⟩ : ∃ u : Nat, k = -(u : Int) := ⟨k.natAbs, by omega⟩
    have hu : u ≤ 9999 := by omega
    have HO := Lib.hid (of_nat (w := w) u hG hu)
    have hsz : (mk (natText u)).size ≤ 5 := by
      rw [mk_size, natText_length]
      have := ndig_le_of (X := u) (n := 4) (by decide) (by omega)
      omega
    have hex : expL (-(u : Int)) = [45] ++ natText u := by unfold expL; rw [if_pos hn]; simp
    rw [hex, mk_append]
    go_enter Tryz.func49, Tryz.ntmps49
    go_wp2_with fail
    refine HO.out.mono ?_
    rintro e1 w1 ⟨a, m, c, rfl, k1, k2⟩
    have K2 := Aside.mk k2
    have HX := Lib.hid (hT.out w1 a m c u k2 hu k1)
    clear k1 k2 HO
    go_wp2_with fail
    refine HX.out.mono ?_
    rintro e1 w2 ⟨rfl, k3⟩
    have K3 := Aside.mk (K2.out.trans k3)
    clear k3 HX
    go_wp2_with fail
    go_ret
    exact ⟨rfl, K3.out⟩
  · obtain ⟨u, rfl⟩ : ∃ u : Nat, k = (u : Int) := ⟨k.natAbs, by omega⟩
    have hu : u ≤ 9999 := by omega
    have HO := Lib.hid (of_nat (w := w) u hG hu)
    have hsz : (mk (natText u)).size ≤ 5 := by
      rw [mk_size, natText_length]
      have := ndig_le_of (X := u) (n := 4) (by decide) (by omega)
      omega
    have hex : expL (u : Int) = [43] ++ natText u := by unfold expL; rw [if_neg hn]; simp
    rw [hex, mk_append]
    go_enter Tryz.func49, Tryz.ntmps49
    go_wp2_with fail
    refine HO.out.mono ?_
    rintro e1 w1 ⟨a, m, c, rfl, k1, k2⟩
    have K2 := Aside.mk k2
    have HX := Lib.hid (hT.out w1 a m c u k2 hu k1)
    clear k1 k2 HO
    go_wp2_with fail
    refine HX.out.mono ?_
    rintro e1 w2 ⟨rfl, k3⟩
    have K3 := Aside.mk (K2.out.trans k3)
    clear k3 HX
    go_wp2_with fail
    go_ret
    exact ⟨rfl, K3.out⟩
end Go.Proofs.YtifkpcijheabhaaGreatDoor
namespace Go.Proofs.YtifkpcijheabhaaGreatDoor
open Go.RowKit

theorem lit46 : (⟨#[46]⟩ : ByteArray) = mk [46] := rfl
theorem lit0p : (⟨#[48, 46]⟩ : ByteArray) = mk [48, 46] := rfl
theorem ext_one (dl : List UInt8) : (mk dl).extract 0 1 = mk (dl.take 1) := by rw [mk_extract]; simp
theorem ext_rest (dl : List UInt8) : (mk dl).extract 1 (mk dl).size = mk (dl.drop 1) := by rw [mk_extract, mk_size, List.take_of_length_le (by simp)]
theorem sci_many {dl : List UInt8} {e : Int} {fm : UInt8} (h : 1 < dl.length) (A : Int) (hA : e + (dl.length : Int) - 1 = A) : (mk dl).extract 0 1 ++ (mk [46] ++ (mk dl).extract 1 (mk dl).size) ++ mk [fm] ++ mk (expL A) = mk (sciL dl e fm) := by
  rw [ext_one, ext_rest, ← mk_append, ← mk_append, ← mk_append, ← mk_append]
  congr 1
  unfold sciL
  rw [if_pos h, hA]
  simp
theorem sci_one {dl : List UInt8} {e : Int} {fm : UInt8} (h : dl.length = 1) (A : Int) (hA : e + (dl.length : Int) - 1 = A) : (mk dl).extract 0 1 ++ mk [fm] ++ mk (expL A) = mk (sciL dl e fm) := by
  rw [ext_one, ← mk_append, ← mk_append]
  congr 1
  unfold sciL
  rw [if_neg (by omega), hA]
  simp
set_option maxRecDepth 100000 in
set_option maxHeartbeats 1000000 in
theorem scientific_any {w : World} {f e : Int} {n : Bool} {s : ByteArray} {fm : UInt8} (hG : NG ≤ w.heap.size) (he : -5000 ≤ e ∧ e ≤ 5000) (h0 : 0 < s.size) (hs : s.size ≤ 300) :
    Calls Tryz.prog 28 #[.agg #[.int .i64 f, .bool n, .int .i32 e, .string s], .string (mk [fm])] w fun e1 w' => e1 = .returned (.string (mk (sciL s.data.toList e fm))) ∧ Fr (fun _ _ => False) w w' := by
  have hsl : s.data.toList.length = s.size := rfl
  have F1 := (Fr.refl (fun _ _ => False) w).alloc (.cells #[.int .i64 f, .bool n, .int .i32 e, .string s] 23)
  have FF := Aside.mk F1
  obtain ⟨A, hA⟩ : ∃ A : Int, e + (s.size : Int) - 1 = A := ⟨_, rfl⟩
  have HN := Lib.hid (fun w1 (q : Fr (fun _ _ => False) w w1) => number_any (w := w1) A (Nat.le_trans hG q.size) (by omega))
  have hsp : (0 : Int) < s.size := by omega
  have hse : (mk (expL A)).size ≤ 10 := by
    rw [mk_size]
    unfold expL
    have := ndig_le_of (X := A.natAbs) (n := 4) (by decide) (by omega)
    split <;> simp [natText_length] <;> omega
  have hsf : (mk [fm]).size = 1 := rfl
  have hs3 : (s.size : Int) ≤ 300 := by omega
  by_cases h1 : s.size = 1
  · have hfin := sci_one (dl := s.data.toList) (e := e) (fm := fm) (by omega) A (by rw [hsl]; exact hA)
    rw [← mk_of] at hfin
    have HFI := Aside.mk hfin
    have hi1 : (s.size : Int) = 1 := by omega
    obtain rfl : A = e := by omega
    clear hfin F1 hsl
    go_enter Tryz.func28, Tryz.ntmps28
    go_wp2_with fail
    try rw [hA]
    refine (HN.out _ (by repeat first | exact Fr.refl _ _ | refine Fr.drewN ?_ _ | refine Fr.drew ?_ | refine Fr.alloc ?_ _)).mono ?_
    rintro e1 w2 ⟨rfl, k2⟩
    have K2 := Aside.mk (FF.out.trans k2)
    clear k2
    go_wp2_with fail
    go_ret
    exact ⟨by rw [← HFI.out]; rfl, K2.out⟩
  · have hfin := sci_many (dl := s.data.toList) (e := e) (fm := fm) (by omega) A (by rw [hsl]; exact hA)
    rw [← mk_of] at hfin
    have HFI := Aside.mk hfin
    have hi1 : (1 : Int) < (s.size : Int) := by omega
    clear hfin F1 hsl h1
    go_enter Tryz.func28, Tryz.ntmps28
    go_wp2_with fail
    try rw [hA]
    refine (HN.out _ (by repeat first | exact Fr.refl _ _ | refine Fr.drewN ?_ _ | refine Fr.drew ?_ | refine Fr.alloc ?_ _)).mono ?_
    rintro e1 w2 ⟨rfl, k2⟩
    have K2 := Aside.mk (FF.out.trans k2)
    clear k2
    go_wp2_with fail
    go_ret
    exact ⟨by rw [← HFI.out]; rfl, K2.out⟩
end Go.Proofs.YtifkpcijheabhaaGreatDoor
namespace Go.Proofs.YtifkpcijheabhaaGreatDoor
open Go.RowKit

theorem mk_nil_app (l : List UInt8) : (⟨#[]⟩ : ByteArray) ++ mk l = mk l := by rw [show (⟨#[]⟩ : ByteArray) = mk [] from rfl, ← mk_append]; rfl
theorem eq_48 {s : ByteArray} (h : s.data.toList = [48]) : s = ⟨#[48]⟩ := by rw [mk_of s, h]; rfl
set_option maxRecDepth 100000 in
theorem plain_high {w : World} {f : Int} {n : Bool} {s : ByteArray} (z : Nat) (hG : NG ≤ w.heap.size) (hz : z ≤ 5000) (hs : s.size ≤ 300) :
    Calls Tryz.prog 29 #[.agg #[.int .i64 f, .bool n, .int .i32 z, .string s]] w fun e1 w' => e1 = .returned (.string (s ++ mk (List.replicate z 48))) ∧ Fr (fun _ _ => False) w w' := by
  have FF := Aside.mk ((Fr.refl (fun _ _ => False) w).alloc (.cells #[.int .i64 f, .bool n, .int .i32 z, .string s] 23))
  have HN : Hid (∀ w1, Fr (fun _ _ => False) (w.alloc (.cells #[.int .i64 f, .bool n, .int .i32 z, .string s] 23)) w1 → Calls Tryz.prog 50 #[.int .i64 z] w1 fun e1 w' => e1 = .returned (.string (mk (List.replicate z 48))) ∧ w'.cell? ⟨w.heap.size, 3, none⟩ = some (.string s) ∧ Aside (Fr (fun _ _ => False) w w')) := Lib.hid (fun w1 q => by
    have f1 := ((Fr.refl (fun _ _ => False) w).alloc (.cells #[.int .i64 f, .bool n, .int .i32 z, .string s] 23)).trans q
    refine (noughts_any (w := w1) z (Nat.le_trans hG f1.size) (by omega)).mono ?_
    rintro e1 w' ⟨rfl, k⟩
    exact ⟨rfl, (((D4.new (w := w) f z n s 23).fr q (fun _ q => q)).fr k (fun _ q => q)).c3.cell, ⟨f1.trans k⟩⟩)
  have hzz : (mk (List.replicate z 48)).size ≤ 5000 := by rw [mk_size]; simp; omega
  by_cases h1 : s.data.toList = [48]
  · have hs' : (s.toList == [48]) = true := by rw [ByteArray.toList_eq, beq_iff_eq]; exact h1
    have e1 := eq_48 h1
    have E1 := Aside.mk e1
    clear h1 e1
    go_enter Tryz.func29, Tryz.ntmps29
    go_wp2_with fail
    refine (HN.out _ (by repeat first | exact Fr.refl _ _ | refine Fr.drewN ?_ _ | refine Fr.drew ?_ | refine Fr.alloc ?_ _)).mono ?_
    rintro e1 w2 ⟨rfl, hc3, K2⟩
    go_wp2_with fail
    go_ret
    exact ⟨by rw [E1.out]; rfl, K2.out⟩
  · have hs' : (s.toList == [48]) = false := by rw [ByteArray.toList_eq, beq_eq_false_iff_ne]; exact h1
    clear h1
    go_enter Tryz.func29, Tryz.ntmps29
    go_wp2_with fail
    go_region_with (go_at_call 50; go_must (refine (HN.out _ (by repeat first | exact Fr.refl _ _ | refine Fr.drewN ?_ _ | refine Fr.drew ?_)).mono ?_; rintro e1 w2 ⟨rfl, hc3, K2⟩))
    all_goals
      go_wp2_with fail
      go_ret
      exact ⟨rfl, K2.out⟩
set_option maxRecDepth 100000 in
theorem plain_mid {w : World} {f : Int} {n : Bool} {s : ByteArray} (k q : Nat) (hG : NG ≤ w.heap.size) (hq : 0 < q) (hk : 0 < k) (hs : s.size = k + q) (h3 : s.size ≤ 300) :
    Calls Tryz.prog 29 #[.agg #[.int .i64 f, .bool n, .int .i32 (-(q : Int)), .string s]] w fun e1 w' => e1 = .returned (.string (s.extract 0 k ++ mk [46] ++ s.extract k s.size)) ∧ Fr (fun _ _ => False) w w' := by
  have hk1 : (s.size : Int) + -(q : Int) = (k : Int) := by omega
  have hk2 : (s.size : Int) - (q : Int) = (k : Int) := by omega
  have hq1 : ¬ (-(q : Int)) ≥ 0 := by omega
  have hq2 : ¬ (0 : Int) ≤ (-(q : Int)) := by omega
  have hlt : (q : Int) < (s.size : Int) := by omega
  have hkn : k ≤ s.size := by omega
  clear hs
  go_enter Tryz.func29, Tryz.ntmps29
  go_wp2_with fail
  go_quiet (fail)
  go_wp2_with fail
  go_ret
  exact ⟨rfl, ((Fr.refl _ w).alloc _).drewN _⟩
set_option maxRecDepth 100000 in
set_option maxHeartbeats 2000000 in
theorem plain_low {w : World} {f : Int} {n : Bool} {s : ByteArray} (z : Nat) (hG : NG ≤ w.heap.size) (h0 : 0 < s.size) (hz : z ≤ 5000) (h3 : s.size ≤ 300) :
    Calls Tryz.prog 29 #[.agg #[.int .i64 f, .bool n, .int .i32 (-((s.size + z : Nat) : Int)), .string s]] w fun e1 w' => e1 = .returned (.string (mk [48, 46] ++ mk (List.replicate z 48) ++ s)) ∧ Fr (fun _ _ => False) w w' := by
  have hzz : (mk (List.replicate z 48)).size ≤ 5000 := by rw [mk_size]; simp; omega
  obtain ⟨E, hE⟩ : ∃ E : Int, -((s.size + z : Nat) : Int) = E := ⟨_, rfl⟩
  rw [hE]
  have FF := Aside.mk ((Fr.refl (fun _ _ => False) w).alloc (.cells #[.int .i64 f, .bool n, .int .i32 E, .string s] 23))
  have HN : Hid (∀ w1, Fr (fun _ _ => False) (w.alloc (.cells #[.int .i64 f, .bool n, .int .i32 E, .string s] 23)) w1 → Calls Tryz.prog 50 #[.int .i64 z] w1 fun e1 w' => e1 = .returned (.string (mk (List.replicate z 48))) ∧ w'.cell? ⟨w.heap.size, 3, none⟩ = some (.string s) ∧ Aside (Fr (fun _ _ => False) w w')) := Lib.hid (fun w1 q => by
    have f1 := ((Fr.refl (fun _ _ => False) w).alloc (.cells #[.int .i64 f, .bool n, .int .i32 E, .string s] 23)).trans q
    refine (noughts_any (w := w1) z (Nat.le_trans hG f1.size) (by omega)).mono ?_
    rintro e1 w' ⟨rfl, k⟩
    exact ⟨rfl, (((D4.new (w := w) f E n s 23).fr q (fun _ q => q)).fr k (fun _ q => q)).c3.cell, ⟨f1.trans k⟩⟩)
  have h1 : ¬ E ≥ 0 := by omega
  have h1' : ¬ (0 : Int) ≤ E := by omega
  have h2 : ¬ (-E) < (s.size : Int) := by omega
  have hs3 : (s.size : Int) ≤ 300 := by omega
  have h5 : -10000 ≤ E := by omega
  have hw1 : IntKind.i64.wrap (-E) = -E := by rw [IntKind.wrap_i64]; omega
  have hw2 : IntKind.i64.wrap (-E - (s.size : Int)) = (z : Int) := by rw [IntKind.wrap_i64]; omega
  have hc3W := (D4.new (w := w) f E n s 23).c3.cell
  have hc2W := (D4.new (w := w) f E n s 23).c2.cell
  clear hE
  go_enter Tryz.func29, Tryz.ntmps29
  go_upto_region 1 with fail
  obtain ⟨W0, hW0⟩ : ∃ x, w.alloc (.cells #[.int .i64 f, .bool n, .int .i32 E, .string s] 23) = x := ⟨_, rfl⟩
  simp only [hW0] at hc3W hc2W HN FF ⊢
  clear hW0
  go_wp2_with fail
  go_region_with (go_at_call 50; go_must (refine (HN.out _ (by repeat first | exact Fr.refl _ _ | refine Fr.drewN ?_ _ | refine Fr.drew ?_)).mono ?_; rintro e1 w2 ⟨rfl, hc3, K2⟩))
  all_goals
    go_wp2_with fail
    go_ret
    exact ⟨rfl, K2.out⟩
theorem plain_any2 {w : World} {f e : Int} {n : Bool} {s : ByteArray} (hG : NG ≤ w.heap.size) (he : -5000 ≤ e ∧ e ≤ 5000) (h0 : 0 < s.size) (hs : s.size ≤ 300) :
    Calls Tryz.prog 29 #[.agg #[.int .i64 f, .bool n, .int .i32 e, .string s]] w fun e1 w' => e1 = .returned (.string (mk (plainL s.data.toList e))) ∧ Fr (fun _ _ => False) w w' := by
  have hsl : s.data.toList.length = s.size := rfl
  by_cases h1 : 0 ≤ e
  · obtain ⟨z, rfl⟩ : ∃ z : Nat, e = z := ⟨e.toNat, by omega⟩
    have := plain_high (f := f) (n := n) (s := s) z hG (by omega) hs
    have e1 : plainL s.data.toList (z : Int) = s.data.toList ++ List.replicate z 48 := by unfold plainL; rw [if_neg (by omega)]; simp
    rw [e1, mk_append, ← mk_of]
    exact this
  · by_cases h2 : (s.size : Int) ≤ -e
    · obtain ⟨z, rfl⟩ : ∃ z : Nat, e = -((s.size + z : Nat) : Int) := ⟨(-e - s.size).toNat, by omega⟩
      have := plain_low (f := f) (n := n) (s := s) z hG h0 (by omega) hs
      have e1 : plainL s.data.toList (-((s.size + z : Nat) : Int)) = [48, 46] ++ List.replicate z 48 ++ s.data.toList := by
        unfold plainL
        rw [if_pos (by omega), if_pos (by omega), hsl, show (- -((s.size + z : Nat) : Int) - (s.size : Int)).toNat = z from by omega]
      rw [e1, mk_append, mk_append, ← mk_of]
      exact this
    · obtain ⟨q, rfl⟩ : ∃ q : Nat, e = -(q : Int) := ⟨(-e).toNat, by omega⟩
      have := plain_mid (f := f) (n := n) (s := s) (s.size - q) q hG (by omega) (by omega) (by omega) hs
      have e1 : plainL s.data.toList (-(q : Int)) = s.data.toList.take (s.size - q) ++ [46] ++ s.data.toList.drop (s.size - q) := by
        unfold plainL
        rw [if_pos (by omega), if_neg (by omega), hsl, show (- -(q : Int)).toNat = q from by omega]
      have e2 : s.extract 0 (s.size - q) = mk (s.data.toList.take (s.size - q)) := by
        have h := mk_extract s.data.toList 0 (s.size - q)
        rw [← mk_of] at h
        rw [h]; simp
      have e3 : s.extract (s.size - q) s.size = mk (s.data.toList.drop (s.size - q)) := by
        have h := mk_extract s.data.toList (s.size - q) s.size
        have hk3 : (s.data.toList.drop (s.size - q)).length ≤ s.size - (s.size - q) := by rw [List.length_drop, hsl]; exact Nat.le_refl _
        rw [← mk_of] at h
        rw [h, List.take_of_length_le hk3]
      rw [e1, mk_append, mk_append, ← e2, ← e3]
      exact this
theorem plainL_len (dl : List UInt8) (e : Int) : (plainL dl e).length ≤ dl.length + e.natAbs + 2 := by
  unfold plainL
  split
  · split
    · simp; omega
    · simp; omega
  · simp; omega
theorem expL_len {A : Int} (h : -9999 ≤ A ∧ A ≤ 9999) : (expL A).length ≤ 6 := by
  unfold expL
  have := ndig_le_of (X := A.natAbs) (n := 4) (by decide) (by omega)
  split <;> simp [natText_length] <;> omega
theorem sciL_len {dl : List UInt8} {e : Int} {fm : UInt8} (he : -5000 ≤ e ∧ e ≤ 5000) (hl : dl.length ≤ 300) : (sciL dl e fm).length ≤ 310 := by
  unfold sciL
  have := expL_len (A := e + (dl.length : Int) - 1) (by omega)
  split <;> simp <;> omega
theorem mark_mk (n : Bool) (l : List UInt8) : mk (markL n ++ l) = (if n = true then ⟨#[45]⟩ else ⟨#[]⟩) ++ mk l := by
  cases n
  · rw [if_neg (by simp), mk_nil_app]; rfl
  · rw [if_pos rfl, mk_append]; rfl
set_option maxRecDepth 100000 in
theorem sText_nf {w : World} {e : Int} {n : Bool} {s : ByteArray} {f fm : Nat} (hf : 1 ≤ f ∧ f ≤ 3) :
    Calls Tryz.prog 12 #[.agg #[.int .i64 f, .bool n, .int .i32 e, .string s], .int .u8 fm] w fun e1 w' => e1 = .returned (.string (mk (markL n ++ formL f))) ∧ Fr (fun _ _ => False) w w' := by
  have c0 : f = 1 ∨ f = 2 ∨ f = 3 := by omega
  clear hf
  rcases c0 with rfl | rfl | rfl <;> cases n <;>
  · go_enter Tryz.func12, Tryz.ntmps12
    go_wp2_with fail
    go_ret
    exact ⟨rfl, (Fr.refl _ w).alloc _⟩
set_option maxRecDepth 100000 in
set_option maxHeartbeats 1000000 in
theorem sText_G {w : World} {e : Int} {n : Bool} {s : ByteArray} (hG : NG ≤ w.heap.size) (he : -5000 ≤ e ∧ e ≤ 5000) (h0 : 0 < s.size) (hs : s.size ≤ 300) :
    Calls Tryz.prog 12 #[.agg #[.int .i64 0, .bool n, .int .i32 e, .string s], .int .u8 71] w fun e1 w' => e1 = .returned (.string (mk (markL n ++ bodyL s.data.toList e 71))) ∧ Fr (fun _ _ => False) w w' := by
  have hsl : s.data.toList.length = s.size := rfl
  have FF := Aside.mk ((Fr.refl (fun _ _ => False) w).alloc (.cells #[.int .i64 0, .bool n, .int .i32 e, .string s] 23))
  have HS := Lib.hid (fun w1 (q : Fr (fun _ _ => False) w w1) => scientific_any (w := w1) (f := 0) (e := e) (n := n) (s := s) (fm := 69) (Nat.le_trans hG q.size) he h0 hs)
  have HP := Lib.hid (fun w1 (q : Fr (fun _ _ => False) w w1) => plain_any2 (w := w1) (f := 0) (e := e) (n := n) (s := s) (Nat.le_trans hG q.size) he h0 hs)
  rw [show mk [69] = ⟨#[69]⟩ from rfl] at HS
  have key : ∀ L : Int, (if s.data.toList = [48] then (-2000 : Int) else -6) = L → bodyL s.data.toList e 71 = if 0 < e ∨ e + (s.size : Int) - 1 < L then sciL s.data.toList e 69 else plainL s.data.toList e := by
    intro L hL
    unfold bodyL
    rw [if_neg (by omega), if_neg (by omega), if_neg (by omega), hL, hsl]
    simp
  have hs3 : (s.size : Int) ≤ 300 := by omega
  have hsp : (0 : Int) < s.size := by omega
  obtain ⟨S, hS⟩ : ∃ S, mk (sciL s.data.toList e 69) = S := ⟨_, rfl⟩
  obtain ⟨P, hP⟩ : ∃ P, mk (plainL s.data.toList e) = P := ⟨_, rfl⟩
  have hSz : S.size ≤ 10000 := by rw [← hS, mk_size]; have := sciL_len (fm := 69) (dl := s.data.toList) he (by omega); omega
  have hPz : P.size ≤ 10000 := by rw [← hP, mk_size]; have := plainL_len s.data.toList e; omega
  obtain ⟨he1, he2⟩ := he
  rw [mark_mk]
  have key2 : ∀ L : Int, (if s.data.toList = [48] then (-2000 : Int) else -6) = L → mk (bodyL s.data.toList e 71) = if 0 < e ∨ e + (s.size : Int) - 1 < L then S else P := by
    intro L hL
    rw [key L hL, ← hS, ← hP]
    split <;> rfl
  clear key
  by_cases h48 : s.data.toList = [48]
  · have q48 : (s.toList == [48]) = true := by rw [ByteArray.toList_eq, beq_iff_eq]; exact h48
    rw [key2 (-2000) (if_pos h48)]
    clear key2 h48 hsl
    rw [hS] at HS
    rw [hP] at HP
    clear hS hP
    by_cases h1 : 0 < e
    · rw [if_pos (show 0 < e ∨ _ from .inl h1)]
      cases n <;>
      · go_enter Tryz.func12, Tryz.ntmps12
        go_wp2_with fail
        refine (HS.out _ (by repeat first | exact Fr.refl _ _ | refine Fr.drewN ?_ _ | refine Fr.drew ?_ | refine Fr.alloc ?_ _)).mono ?_
        rintro e1 w2 ⟨rfl, k2⟩
        have K2 := Aside.mk (FF.out.trans k2)
        clear k2
        go_wp2_with fail
        go_ret
        exact ⟨rfl, K2.out⟩
    · by_cases h2 : e + (s.size : Int) - 1 < -2000
      · rw [if_pos (show 0 < e ∨ _ from .inr h2)]
        cases n <;>
        · go_enter Tryz.func12, Tryz.ntmps12
          go_wp2_with fail
          refine (HS.out _ (by repeat first | exact Fr.refl _ _ | refine Fr.drewN ?_ _ | refine Fr.drew ?_ | refine Fr.alloc ?_ _)).mono ?_
          rintro e1 w2 ⟨rfl, k2⟩
          have K2 := Aside.mk (FF.out.trans k2)
          clear k2
          go_wp2_with fail
          go_ret
          exact ⟨rfl, K2.out⟩
      · rw [if_neg (show ¬ (0 < e ∨ _) from fun q => q.elim h1 h2)]
        cases n <;>
        · go_enter Tryz.func12, Tryz.ntmps12
          go_wp2_with fail
          refine (HP.out _ (by repeat first | exact Fr.refl _ _ | refine Fr.drewN ?_ _ | refine Fr.drew ?_ | refine Fr.alloc ?_ _)).mono ?_
          rintro e1 w2 ⟨rfl, k2⟩
          have K2 := Aside.mk (FF.out.trans k2)
          clear k2
          go_wp2_with fail
          go_ret
          exact ⟨rfl, K2.out⟩
  · have q48 : (s.toList == [48]) = false := by rw [ByteArray.toList_eq, beq_eq_false_iff_ne]; exact h48
    rw [key2 (-6) (if_neg h48)]
    clear key2 h48 hsl
    rw [hS] at HS
    rw [hP] at HP
    clear hS hP
    by_cases h1 : 0 < e
    · rw [if_pos (show 0 < e ∨ _ from .inl h1)]
      cases n <;>
      · go_enter Tryz.func12, Tryz.ntmps12
        go_wp2_with fail
        refine (HS.out _ (by repeat first | exact Fr.refl _ _ | refine Fr.drewN ?_ _ | refine Fr.drew ?_ | refine Fr.alloc ?_ _)).mono ?_
        rintro e1 w2 ⟨rfl, k2⟩
        have K2 := Aside.mk (FF.out.trans k2)
        clear k2
        go_wp2_with fail
        go_ret
        exact ⟨rfl, K2.out⟩
    · by_cases h2 : e + (s.size : Int) - 1 < -6
      · rw [if_pos (show 0 < e ∨ _ from .inr h2)]
        cases n <;>
        · go_enter Tryz.func12, Tryz.ntmps12
          go_wp2_with fail
          refine (HS.out _ (by repeat first | exact Fr.refl _ _ | refine Fr.drewN ?_ _ | refine Fr.drew ?_ | refine Fr.alloc ?_ _)).mono ?_
          rintro e1 w2 ⟨rfl, k2⟩
          have K2 := Aside.mk (FF.out.trans k2)
          clear k2
          go_wp2_with fail
          go_ret
          exact ⟨rfl, K2.out⟩
      · rw [if_neg (show ¬ (0 < e ∨ _) from fun q => q.elim h1 h2)]
        cases n <;>
        · go_enter Tryz.func12, Tryz.ntmps12
          go_wp2_with fail
          refine (HP.out _ (by repeat first | exact Fr.refl _ _ | refine Fr.drewN ?_ _ | refine Fr.drew ?_ | refine Fr.alloc ?_ _)).mono ?_
          rintro e1 w2 ⟨rfl, k2⟩
          have K2 := Aside.mk (FF.out.trans k2)
          clear k2
          go_wp2_with fail
          go_ret
          exact ⟨rfl, K2.out⟩
end Go.Proofs.YtifkpcijheabhaaGreatDoor
namespace Go.Proofs.YtifkpcijheabhaaGreatDoor
open Go.RowKit

set_option maxRecDepth 100000 in
set_option maxHeartbeats 1000000 in
theorem sText_g {w : World} {e : Int} {n : Bool} {s : ByteArray} (hG : NG ≤ w.heap.size) (he : -5000 ≤ e ∧ e ≤ 5000) (h0 : 0 < s.size) (hs : s.size ≤ 300) :
    Calls Tryz.prog 12 #[.agg #[.int .i64 0, .bool n, .int .i32 e, .string s], .int .u8 103] w fun e1 w' => e1 = .returned (.string (mk (markL n ++ bodyL s.data.toList e 103))) ∧ Fr (fun _ _ => False) w w' := by
  have hsl : s.data.toList.length = s.size := rfl
  have FF := Aside.mk ((Fr.refl (fun _ _ => False) w).alloc (.cells #[.int .i64 0, .bool n, .int .i32 e, .string s] 23))
  have HS := Lib.hid (fun w1 (q : Fr (fun _ _ => False) w w1) => scientific_any (w := w1) (f := 0) (e := e) (n := n) (s := s) (fm := 101) (Nat.le_trans hG q.size) he h0 hs)
  have HP := Lib.hid (fun w1 (q : Fr (fun _ _ => False) w w1) => plain_any2 (w := w1) (f := 0) (e := e) (n := n) (s := s) (Nat.le_trans hG q.size) he h0 hs)
  rw [show mk [101] = ⟨#[101]⟩ from rfl] at HS
  have key : ∀ L : Int, (if s.data.toList = [48] then (-2000 : Int) else -6) = L → bodyL s.data.toList e 103 = if 0 < e ∨ e + (s.size : Int) - 1 < L then sciL s.data.toList e 101 else plainL s.data.toList e := by
    intro L hL
    unfold bodyL
    rw [if_neg (by omega), if_neg (by omega), if_neg (by omega), hL, hsl]
    simp
  have hs3 : (s.size : Int) ≤ 300 := by omega
  have hsp : (0 : Int) < s.size := by omega
  obtain ⟨S, hS⟩ : ∃ S, mk (sciL s.data.toList e 101) = S := ⟨_, rfl⟩
  obtain ⟨P, hP⟩ : ∃ P, mk (plainL s.data.toList e) = P := ⟨_, rfl⟩
  have hSz : S.size ≤ 10000 := by rw [← hS, mk_size]; have := sciL_len (fm := 101) (dl := s.data.toList) he (by omega); omega
  have hPz : P.size ≤ 10000 := by rw [← hP, mk_size]; have := plainL_len s.data.toList e; omega
  obtain ⟨he1, he2⟩ := he
  rw [mark_mk]
  have key2 : ∀ L : Int, (if s.data.toList = [48] then (-2000 : Int) else -6) = L → mk (bodyL s.data.toList e 103) = if 0 < e ∨ e + (s.size : Int) - 1 < L then S else P := by
    intro L hL
    rw [key L hL, ← hS, ← hP]
    split <;> rfl
  clear key
  by_cases h48 : s.data.toList = [48]
  · have q48 : (s.toList == [48]) = true := by rw [ByteArray.toList_eq, beq_iff_eq]; exact h48
    rw [key2 (-2000) (if_pos h48)]
    clear key2 h48 hsl
    rw [hS] at HS
    rw [hP] at HP
    clear hS hP
    by_cases h1 : 0 < e
    · rw [if_pos (show 0 < e ∨ _ from .inl h1)]
      cases n <;>
      · go_enter Tryz.func12, Tryz.ntmps12
        go_wp2_with fail
        refine (HS.out _ (by repeat first | exact Fr.refl _ _ | refine Fr.drewN ?_ _ | refine Fr.drew ?_ | refine Fr.alloc ?_ _)).mono ?_
        rintro e1 w2 ⟨rfl, k2⟩
        have K2 := Aside.mk (FF.out.trans k2)
        clear k2
        go_wp2_with fail
        go_ret
        exact ⟨rfl, K2.out⟩
    · by_cases h2 : e + (s.size : Int) - 1 < -2000
      · rw [if_pos (show 0 < e ∨ _ from .inr h2)]
        cases n <;>
        · go_enter Tryz.func12, Tryz.ntmps12
          go_wp2_with fail
          refine (HS.out _ (by repeat first | exact Fr.refl _ _ | refine Fr.drewN ?_ _ | refine Fr.drew ?_ | refine Fr.alloc ?_ _)).mono ?_
          rintro e1 w2 ⟨rfl, k2⟩
          have K2 := Aside.mk (FF.out.trans k2)
          clear k2
          go_wp2_with fail
          go_ret
          exact ⟨rfl, K2.out⟩
      · rw [if_neg (show ¬ (0 < e ∨ _) from fun q => q.elim h1 h2)]
        cases n <;>
        · go_enter Tryz.func12, Tryz.ntmps12
          go_wp2_with fail
          refine (HP.out _ (by repeat first | exact Fr.refl _ _ | refine Fr.drewN ?_ _ | refine Fr.drew ?_ | refine Fr.alloc ?_ _)).mono ?_
          rintro e1 w2 ⟨rfl, k2⟩
          have K2 := Aside.mk (FF.out.trans k2)
          clear k2
          go_wp2_with fail
          go_ret
          exact ⟨rfl, K2.out⟩
  · have q48 : (s.toList == [48]) = false := by rw [ByteArray.toList_eq, beq_eq_false_iff_ne]; exact h48
    rw [key2 (-6) (if_neg h48)]
    clear key2 h48 hsl
    rw [hS] at HS
    rw [hP] at HP
    clear hS hP
    by_cases h1 : 0 < e
    · rw [if_pos (show 0 < e ∨ _ from .inl h1)]
      cases n <;>
      · go_enter Tryz.func12, Tryz.ntmps12
        go_wp2_with fail
        refine (HS.out _ (by repeat first | exact Fr.refl _ _ | refine Fr.drewN ?_ _ | refine Fr.drew ?_ | refine Fr.alloc ?_ _)).mono ?_
        rintro e1 w2 ⟨rfl, k2⟩
        have K2 := Aside.mk (FF.out.trans k2)
        clear k2
        go_wp2_with fail
        go_ret
        exact ⟨rfl, K2.out⟩
    · by_cases h2 : e + (s.size : Int) - 1 < -6
      · rw [if_pos (show 0 < e ∨ _ from .inr h2)]
        cases n <;>
        · go_enter Tryz.func12, Tryz.ntmps12
          go_wp2_with fail
          refine (HS.out _ (by repeat first | exact Fr.refl _ _ | refine Fr.drewN ?_ _ | refine Fr.drew ?_ | refine Fr.alloc ?_ _)).mono ?_
          rintro e1 w2 ⟨rfl, k2⟩
          have K2 := Aside.mk (FF.out.trans k2)
          clear k2
          go_wp2_with fail
          go_ret
          exact ⟨rfl, K2.out⟩
      · rw [if_neg (show ¬ (0 < e ∨ _) from fun q => q.elim h1 h2)]
        cases n <;>
        · go_enter Tryz.func12, Tryz.ntmps12
          go_wp2_with fail
          refine (HP.out _ (by repeat first | exact Fr.refl _ _ | refine Fr.drewN ?_ _ | refine Fr.drew ?_ | refine Fr.alloc ?_ _)).mono ?_
          rintro e1 w2 ⟨rfl, k2⟩
          have K2 := Aside.mk (FF.out.trans k2)
          clear k2
          go_wp2_with fail
          go_ret
          exact ⟨rfl, K2.out⟩
set_option maxRecDepth 100000 in
set_option maxHeartbeats 1000000 in
theorem sText_e101 {w : World} {e : Int} {n : Bool} {s : ByteArray} (hG : NG ≤ w.heap.size) (he : -5000 ≤ e ∧ e ≤ 5000) (h0 : 0 < s.size) (hs : s.size ≤ 300) :
    Calls Tryz.prog 12 #[.agg #[.int .i64 0, .bool n, .int .i32 e, .string s], .int .u8 101] w fun e1 w' => e1 = .returned (.string (mk (markL n ++ sciL s.data.toList e 101))) ∧ Fr (fun _ _ => False) w w' := by
  have FF := Aside.mk ((Fr.refl (fun _ _ => False) w).alloc (.cells #[.int .i64 0, .bool n, .int .i32 e, .string s] 23))
  have HS := Lib.hid (fun w1 (q : Fr (fun _ _ => False) w w1) => scientific_any (w := w1) (f := 0) (e := e) (n := n) (s := s) (fm := 101) (Nat.le_trans hG q.size) he h0 hs)
  rw [show mk [101] = ⟨#[101]⟩ from rfl] at HS
  obtain ⟨S, hS⟩ : ∃ S, mk (sciL s.data.toList e 101) = S := ⟨_, rfl⟩
  have hsl : s.data.toList.length = s.size := rfl
  have hSz : S.size ≤ 10000 := by rw [← hS, mk_size]; have := sciL_len (fm := 101) (dl := s.data.toList) he (by omega); omega
  rw [mark_mk]
  rw [hS] at HS ⊢
  clear hS he hsl
  cases n <;>
  · go_enter Tryz.func12, Tryz.ntmps12
    go_wp2_with fail
    refine (HS.out _ (by repeat first | exact Fr.refl _ _ | refine Fr.drewN ?_ _ | refine Fr.drew ?_ | refine Fr.alloc ?_ _)).mono ?_
    rintro e1 w2 ⟨rfl, k2⟩
    have K2 := Aside.mk (FF.out.trans k2)
    clear k2
    go_wp2_with fail
    go_ret
    exact ⟨rfl, K2.out⟩
set_option maxRecDepth 100000 in
set_option maxHeartbeats 1000000 in
theorem sText_E69 {w : World} {e : Int} {n : Bool} {s : ByteArray} (hG : NG ≤ w.heap.size) (he : -5000 ≤ e ∧ e ≤ 5000) (h0 : 0 < s.size) (hs : s.size ≤ 300) :
    Calls Tryz.prog 12 #[.agg #[.int .i64 0, .bool n, .int .i32 e, .string s], .int .u8 69] w fun e1 w' => e1 = .returned (.string (mk (markL n ++ sciL s.data.toList e 69))) ∧ Fr (fun _ _ => False) w w' := by
  have FF := Aside.mk ((Fr.refl (fun _ _ => False) w).alloc (.cells #[.int .i64 0, .bool n, .int .i32 e, .string s] 23))
  have HS := Lib.hid (fun w1 (q : Fr (fun _ _ => False) w w1) => scientific_any (w := w1) (f := 0) (e := e) (n := n) (s := s) (fm := 69) (Nat.le_trans hG q.size) he h0 hs)
  rw [show mk [69] = ⟨#[69]⟩ from rfl] at HS
  obtain ⟨S, hS⟩ : ∃ S, mk (sciL s.data.toList e 69) = S := ⟨_, rfl⟩
  have hsl : s.data.toList.length = s.size := rfl
  have hSz : S.size ≤ 10000 := by rw [← hS, mk_size]; have := sciL_len (fm := 69) (dl := s.data.toList) he (by omega); omega
  rw [mark_mk]
  rw [hS] at HS ⊢
  clear hS he hsl
  cases n <;>
  · go_enter Tryz.func12, Tryz.ntmps12
    go_wp2_with fail
    refine (HS.out _ (by repeat first | exact Fr.refl _ _ | refine Fr.drewN ?_ _ | refine Fr.drew ?_ | refine Fr.alloc ?_ _)).mono ?_
    rintro e1 w2 ⟨rfl, k2⟩
    have K2 := Aside.mk (FF.out.trans k2)
    clear k2
    go_wp2_with fail
    go_ret
    exact ⟨rfl, K2.out⟩
set_option maxRecDepth 100000 in
set_option maxHeartbeats 1000000 in
theorem sText_f {w : World} {e : Int} {n : Bool} {s : ByteArray} (hG : NG ≤ w.heap.size) (he : -5000 ≤ e ∧ e ≤ 5000) (h0 : 0 < s.size) (hs : s.size ≤ 300) :
    Calls Tryz.prog 12 #[.agg #[.int .i64 0, .bool n, .int .i32 e, .string s], .int .u8 102] w fun e1 w' => e1 = .returned (.string (mk (markL n ++ plainL s.data.toList e))) ∧ Fr (fun _ _ => False) w w' := by
  have FF := Aside.mk ((Fr.refl (fun _ _ => False) w).alloc (.cells #[.int .i64 0, .bool n, .int .i32 e, .string s] 23))
  have HS := Lib.hid (fun w1 (q : Fr (fun _ _ => False) w w1) => plain_any2 (w := w1) (f := 0) (e := e) (n := n) (s := s) (Nat.le_trans hG q.size) he h0 hs)
  obtain ⟨S, hS⟩ : ∃ S, mk (plainL s.data.toList e) = S := ⟨_, rfl⟩
  have hsl : s.data.toList.length = s.size := rfl
  have hSz : S.size ≤ 10000 := by rw [← hS, mk_size]; have := plainL_len s.data.toList e; omega
  rw [mark_mk]
  rw [hS] at HS ⊢
  clear hS he hsl
  cases n <;>
  · go_enter Tryz.func12, Tryz.ntmps12
    go_wp2_with fail
    refine (HS.out _ (by repeat first | exact Fr.refl _ _ | refine Fr.drewN ?_ _ | refine Fr.drew ?_ | refine Fr.alloc ?_ _)).mono ?_
    rintro e1 w2 ⟨rfl, k2⟩
    have K2 := Aside.mk (FF.out.trans k2)
    clear k2
    go_wp2_with fail
    go_ret
    exact ⟨rfl, K2.out⟩
/-- The formats. -/
def FmOk (fm : Nat) : Prop := fm = 101 ∨ fm = 69 ∨ fm = 102 ∨ fm = 103 ∨ fm = 71
theorem sText_all {w : World} {f fm : Nat} {e : Int} {n : Bool} {s : ByteArray} (hfm : FmOk fm) (hG : NG ≤ w.heap.size) (hf : f ≤ 3) (he : -5000 ≤ e ∧ e ≤ 5000) (h0 : 0 < s.size) (hs : s.size ≤ 300) :
    Calls Tryz.prog 12 #[.agg #[.int .i64 f, .bool n, .int .i32 e, .string s], .int .u8 fm] w fun e1 w' => e1 = .returned (.string (mk (textL f n e s.data.toList fm))) ∧ Fr (fun _ _ => False) w w' := by
  by_cases h : f = 0
  · subst h
    have e0 : textL ((0 : Nat) : Int) n e s.data.toList fm = markL n ++ bodyL s.data.toList e fm := rfl
    rw [e0]
    rcases hfm with rfl | rfl | rfl | rfl | rfl
    · exact sText_e101 hG he h0 hs
    · exact sText_E69 hG he h0 hs
    · exact sText_f hG he h0 hs
    · exact sText_g hG he h0 hs
    · exact sText_G hG he h0 hs
  · have e1 : textL (f : Int) n e s.data.toList fm = markL n ++ formL f := by unfold textL; rw [if_neg (by omega)]
    rw [e1]
    exact sText_nf ⟨by omega, hf⟩
end Go.Proofs.YtifkpcijheabhaaGreatDoor
