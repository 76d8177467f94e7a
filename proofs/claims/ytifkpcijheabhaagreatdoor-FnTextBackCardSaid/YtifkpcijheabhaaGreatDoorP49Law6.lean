/- laws.FnTextBack. -/
import Derived.Test.YtifkpcijheabhaaGreatDoorP47Impl6
import Derived.Test.YtifkpcijheabhaaGreatDoorP48SN7
import Derived.Test.YtifkpcijheabhaaGreatDoorP44Par6s
import Derived.Test.YtifkpcijheabhaaGreatDoorM33Eql
import Derived.Deep.CutBlock
import Derived.Deep.DeepCutAuto
import Derived.Deep.RegionHeld3
set_option linter.unusedSimpArgs false
set_option linter.unusedVariables false
namespace Go.Proofs.YtifkpcijheabhaaGreatDoor
open Go.RowKit

set_option maxRecDepth 100000 in
theorem fnBack_big {w : World} {f e b1 b2 : Int} {n : Bool} {s : ByteArray} (h : ¬ s.size ≤ 2147483647) : Calls Tryz.prog 4 #[.agg #[.int .i64 f, .bool n, .int .i32 e, .string s], .int .u8 b1, .int .u8 b2] w fun e1 w' => e1 = .returned (.bool true) ∧ Fr (fun _ _ => False) w w' := by
  have HZ := Lib.hid (fun w1 => zz_big (w := w1) (f := f) (e := e) (n := n) h)
  clear h
  go_enter Tryz.func4, Tryz.ntmps4
  go_wp2_with fail
  refine (HZ.out _).mono ?_
  rintro e1 w2 ⟨rfl, k2⟩
  have K2 := Aside.mk k2
  clear k2
  go_wp2_with fail
  go_ret
  exact ⟨rfl, ((Fr.refl _ w).alloc _).trans K2.out⟩
set_option maxRecDepth 100000 in
theorem fnBack_not {w : World} {f e b1 b2 : Int} {n : Bool} {s : ByteArray} (g : Gv w) (h : s.size ≤ 2147483647) (hn : ¬ ClearP f e s) : Calls Tryz.prog 4 #[.agg #[.int .i64 f, .bool n, .int .i32 e, .string s], .int .u8 b1, .int .u8 b2] w fun e1 w' => e1 = .returned (.bool true) ∧ Fr (fun _ _ => False) w w' := by
  have HZ := Lib.hid (fun w1 => zz_small (w := w1) (f := f) (e := e) (n := n) h)
  have hA : Hid (∀ w1, Fr (fun _ _ => False) w w1 → Calls Tryz.prog 8 #[] w1 fun e1 w2 => e1 = .returned (.bool true) ∧ Fr (fun _ _ => False) w1 w2) := Lib.hid (fun w1 q => alive (g.new q))
  have hC : Hid (∀ w1, Calls Tryz.prog 11 #[.agg #[.int .i64 f, .bool n, .int .i32 e, .string s]] w1 fun e1 w' => e1 = .returned (.bool false) ∧ Fr (fun _ _ => False) w1 w') := Lib.hid (fun w1 => by
    refine (clear_any (w := w1)).mono ?_
    rintro e1 w2 ⟨k, rfl | ⟨rfl, q⟩⟩
    · exact ⟨rfl, k⟩
    · exact absurd q hn)
  have HB := Aside.mk (D4.new (w := w) f e n s 23)
  have HF := Aside.mk ((Fr.refl (fun _ _ => False) w).alloc (.cells #[.int .i64 f, .bool n, .int .i32 e, .string s] 23))
  clear h hn g
  go_enter Tryz.func4, Tryz.ntmps4
  go_wp2_with fail
  refine (HZ.out _).mono ?_
  rintro e1 w2 ⟨rfl, k2⟩
  obtain ⟨d0, d1, d2, d3, _⟩ := E8.of (HB.out.fr k2 (fun _ q => q))
  have K2 := Aside.mk (HF.out.trans k2)
  clear k2 HZ
  go_wp2_with fail
  refine (hC.out _).mono ?_
  rintro e1 w3 ⟨rfl, k3⟩
  have K3 := Aside.mk (K2.out.trans k3)
  clear k3 hC
  go_wp2_with fail
  refine (hA.out _ K3.out).mono ?_
  rintro e1 w5 ⟨rfl, k5⟩
  have F5 := Aside.mk (K3.out.trans k5)
  clear k5
  go_wp2_with fail
  go_ret
  exact ⟨rfl, F5.out⟩
/-- What the law asks of the callees, at a clear decimal. -/
structure BackC (w : World) (f : Nat) (n : Bool) (e : Int) (s ts : ByteArray) (fm k : Nat) : Prop where
  text : ∀ w1, Fr (fun _ _ => False) w w1 → Calls Tryz.prog 12 #[.agg #[.int .i64 f, .bool n, .int .i32 e, .string s], .int .u8 fm] w1 fun e1 w' => e1 = .returned (.string ts) ∧ Fr (fun _ _ => False) w1 w'
  itext : ∀ w1, Fr (fun _ _ => False) w w1 → Calls Tryz.prog 13 #[.agg #[.int .i64 f, .bool n, .int .i32 e, .string s], .int .u8 fm, .int .i64 0] w1 fun e1 w' => e1 = .returned (.string ts) ∧ Fr (fun _ _ => False) w1 w'
  parse : ts.size ≤ 700 → (fm = 102 → ts.size ≤ 280) → ∃ (e2 : Int) (s2 : ByteArray), (∀ w1, Fr (fun _ _ => False) w w1 → Calls Tryz.prog 9 #[.string ts, .int .i64 k] w1 fun e1 w' => e1 = .returned (.tuple #[.agg #[.int .i64 f, .bool n, .int .i32 e2, .string s2], .bool true]) ∧ Fr (fun _ _ => False) w1 w') ∧
    ((fm ≠ 102 ∨ f ≠ 0) → e2 = e ∧ s2 = s) ∧ (f = 0 → (∀ w1, Calls Tryz.prog 11 #[.agg #[.int .i64 f, .bool n, .int .i32 e2, .string s2]] w1 fun e1 w' => e1 = .returned (.bool true) ∧ Fr (fun _ _ => False) w1 w') ∧ ∃ V,
      (∀ w1, Fr (fun _ _ => False) w w1 → Calls Tryz.prog 14 #[.agg #[.int .i64 f, .bool n, .int .i32 e2, .string s2]] w1 fun e1 w' => ∃ a m c, e1 = .returned (.agg #[.bool (sg1 n V), .slice a m c]) ∧ m ≤ 30000 ∧ Bf w' a m c (dlow V) ∧ Fr (fun _ _ => False) w1 w') ∧
      (∀ w1, Fr (fun _ _ => False) w w1 → Calls Tryz.prog 14 #[.agg #[.int .i64 f, .bool n, .int .i32 e, .string s]] w1 fun e1 w' => ∃ a m c, e1 = .returned (.agg #[.bool (sg1 n V), .slice a m c]) ∧ m ≤ 30000 ∧ Bf w' a m c (dlow V) ∧ Fr (fun _ _ => False) w1 w'))
theorem natText_lead {X : Nat} (h : 1 < ndig X) (hp : 0 < (mk (natText X)).size) : (mk (natText X))[0] ≠ 48 := by
  have e1 : (mk (natText X))[0] = (natText X)[0]'(by rw [natText_length]; omega) := rfl
  rw [e1]
  intro k
  have h1 := natText_get X 0 (by omega)
  rw [k] at h1
  have h0 : X ≠ 0 := by rintro rfl; rw [ndig] at h; simp at h
  have h2 := ndig_le h0
  have h3 := lt_ndig X
  have h4 : X / 10 ^ (ndig X - 1 - 0) % 10 = 0 := by
    have : dg X (ndig X - 1 - 0) = 0 := by have : (48 : UInt8).toNat = 48 := rfl
                                           omega
    exact this
  obtain ⟨m, hm⟩ : ∃ m, ndig X = m + 1 := ⟨ndig X - 1, by omega⟩
  rw [hm] at h2 h3 h4
  rw [Nat.add_sub_cancel] at h2 h4
  rw [Nat.sub_zero] at h4
  rw [Nat.pow_succ] at h3
  have h5 : X / 10 ^ m < 10 := Nat.div_lt_of_lt_mul h3
  have h6 : 0 < X / 10 ^ m := Nat.div_pos h2 (Nat.pow_pos (by decide))
  omega
theorem cmpS_self (t : Bool) (V : Nat) : cmpS t V t V = 0 := by unfold cmpS; cases t <;> simp [sg_eq]
theorem backC {w : World} {f fm k : Nat} {n : Bool} {e : Int} {s : ByteArray} (g : Gv w) (sy : SyV w) (hp : PT w) (hk : k ≤ 2) (hc : ClearP f e s) (hfm : FmOk fm) : BackC w f n e s (mk (textL f n e s.data.toList fm)) fm k := by
  obtain ⟨hd, h0, h3, hf, hnt, he, hnf⟩ := hc.all
  have hG := g.g.size
  have hf3 : f ≤ 3 := by omega
  have hsl : s.data.toList.length = s.size := rfl
  have hnd : ndig (numOf s.data.toList) ≤ 1000 := by rw [← natText_length, hnt]; omega
  refine ⟨fun w1 q => sText_all hfm (Nat.le_trans hG q.size) hf3 (by omega) h0 h3, fun w1 q => ?_, fun hT hT2 => ?_⟩
  · refine text_all hf3 (g.new q) (hp.new hG q) hd h0 (by omega) ?_
    intro w2 p a c g2 hp2 hD
    have := dText_of fm (appAll hfm hf3 (sm_digs hd (by omega)) (bl_digs hd h3) hnd (by omega)) g2 hp2 hD
    rwa [hnt] at this
  · rw [mk_size] at hT hT2
    obtain ⟨X2, e2, k1, k2, k3, k4, k5, k6, k7⟩ := back_of hc hfm hT hT2
    refine ⟨e2, mk (natText X2), fun w1 q => parse_ok hk (g.new q) (sy.new hG q) k1 k2 (by omega) hf3 k3, k5, fun hf0 => ?_⟩
    subst hf0
    have hdn : Digs (mk (natText X2)).data.toList := by rw [mk_toList]; exact digs_nat X2
    have hsz : (mk (natText X2)).size = ndig X2 := by rw [mk_size, natText_length]
    have hp2 : 0 < (mk (natText X2)).size := by rw [hsz]; exact ndig_pos X2
    refine ⟨fun w1 => clear_yes hdn hp2 (by omega) ?_ k4, _, fun w1 q => ?_, fun w1 q => value_any (Nat.le_trans hG q.size) hd h0 (by omega) he⟩
    · by_cases h1 : (mk (natText X2)).size = 1
      · exact .inl h1
      · right
        intro h
        exact natText_lead (by omega) h
    · have := value_any (w := w1) (f := 0) (e := e2) (n := n) (s := mk (natText X2)) (Nat.le_trans hG q.size) hdn hp2 (by omega) k4
      rw [mk_toList, numOf_natText, k7 rfl] at this
      exact this
/-- The cells of both decimals. -/
def T8 (w : World) (gb db : Nat) (f : Int) (n : Bool) (e2 : Int) (s2 : ByteArray) (e : Int) (s : ByteArray) : Prop :=
  w.cell? ⟨gb, 0, none⟩ = some (.int .i64 f) ∧ w.cell? ⟨gb, 1, none⟩ = some (.bool n) ∧ w.cell? ⟨gb, 2, none⟩ = some (.int .i32 e2) ∧ w.cell? ⟨gb, 3, none⟩ = some (.string s2) ∧
  w.cell? ⟨db, 0, none⟩ = some (.int .i64 f) ∧ w.cell? ⟨db, 1, none⟩ = some (.bool n) ∧ w.cell? ⟨db, 2, none⟩ = some (.int .i32 e) ∧ w.cell? ⟨db, 3, none⟩ = some (.string s)
theorem T8.of {w : World} {gb db : Nat} {f : Int} {n : Bool} {e2 e : Int} {s2 s : ByteArray} (h : D4 w gb f n e2 s2) (k : D4 w db f n e s) : T8 w gb db f n e2 s2 e s :=
  ⟨h.c0.cell, h.c1.cell, h.c2.cell, h.c3.cell, k.c0.cell, k.c1.cell, k.c2.cell, k.c3.cell⟩
set_option maxRecDepth 100000 in
set_option maxHeartbeats 8000000 in
theorem fnBack_go {w : World} {f fm k : Nat} {e b1 b2 : Int} {n : Bool} {s ts : ByteArray} (g : Gv w) (hz : s.size ≤ 2147483647) (hC : BackC w f n e s ts fm k) (hk : b2 % 3 = (k : Int)) (hb1 : 0 ≤ b1 ∧ b1 ≤ 255) (hb2 : 0 ≤ b2 ∧ b2 ≤ 255) (hts : ts.size ≤ 2147483647)
    (hfm : (b1 % 5 = 0 ∧ fm = 101) ∨ (b1 % 5 = 1 ∧ fm = 69) ∨ (b1 % 5 = 2 ∧ fm = 103) ∨ (b1 % 5 = 3 ∧ fm = 71) ∨ (b1 % 5 = 4 ∧ fm = 102)) :
    Calls Tryz.prog 4 #[.agg #[.int .i64 f, .bool n, .int .i32 e, .string s], .int .u8 b1, .int .u8 b2] w fun e1 w' => e1 = .returned (.bool true) ∧ Fr (fun _ _ => False) w w' := by
  have HZ := Lib.hid (fun w1 => zz_small (w := w1) (f := f) (e := e) (n := n) (s := s) hz)
  have hCl : Hid (∀ w1, Calls Tryz.prog 11 #[.agg #[.int .i64 f, .bool n, .int .i32 e, .string s]] w1 fun e1 w' => Fr (fun _ _ => False) w1 w' ∧ (e1 = .returned (.bool false) ∨ e1 = .returned (.bool true))) := Lib.hid (fun w1 => by
    refine (clear_any (w := w1)).mono ?_
    rintro e1 w2 ⟨k, rfl | ⟨rfl, q⟩⟩
    · exact ⟨k, .inl rfl⟩
    · exact ⟨k, .inr rfl⟩)
  have hA : Hid (∀ w1, Fr (fun _ _ => False) w w1 → Calls Tryz.prog 8 #[] w1 fun e1 w2 => e1 = .returned (.bool true) ∧ Fr (fun _ _ => False) w1 w2) := Lib.hid (fun w1 q => alive (g.new q))
  have HX := Lib.hid hC.text
  have HI := Lib.hid hC.itext
  have HP := Lib.hid hC.parse
  have HB := Aside.mk (D4.new (w := w) f e n s 23)
  have HF := Aside.mk ((Fr.refl (fun _ _ => False) w).alloc (.cells #[.int .i64 f, .bool n, .int .i32 e, .string s] 23))
  have HFM := Aside.mk hfm
  obtain ⟨hb3, hb4⟩ := hb1
  obtain ⟨hb5, hb6⟩ := hb2
  clear g hC hz hfm
  go_enter Tryz.func4, Tryz.ntmps4
  go_wp2_with fail
  refine (HZ.out _).mono ?_
  rintro e1 w2 ⟨rfl, k2⟩
  have B2 := HB.out.fr k2 (fun _ q => q)
  have K2 := Aside.mk (HF.out.trans k2)
  have HB2 := Aside.mk B2
  obtain ⟨d0, d1, d2, d3, _⟩ := E8.of B2
  clear k2 B2 HZ
  go_wp2_with fail
  refine (hCl.out _).mono ?_
  rintro e1 w3 ⟨k3, rfl | rfl⟩
  · have K3 := Aside.mk (K2.out.trans k3)
    clear k3 hCl
    go_wp2_with fail
    refine (hA.out _ K3.out).mono ?_
    rintro e1 w5 ⟨rfl, k5⟩
    have F5 := Aside.mk (K3.out.trans k5)
    clear k5
    go_wp2_with fail
    go_ret
    exact ⟨rfl, F5.out⟩
  have B3 := HB2.out.fr k3 (fun _ q => q)
  have K3 := Aside.mk (K2.out.trans k3)
  have HB3 := Aside.mk B3
  clear k3 B3 hCl d0 d1 d2 d3 HB HF
  go_upto_region 5 with fail
  have fc := Lib.run_convert_bytes_const (P := Tryz.prog) w3 32 5 #[.int .u8 101, .int .u8 69, .int .u8 103, .int .u8 71, .int .u8 102] 5 5 Tryz.underlying32 Tryz.underlying5
  have hm0 : (w3.alloc (.cells #[.int .u8 101, .int .u8 69, .int .u8 103, .int .u8 71, .int .u8 102] 5 (5, 6))).cell? ⟨w3.heap.size, 0, none⟩ = some (.int .u8 101) := by rw [World.cell?_alloc_mark]; rfl
  have hm1 : (w3.alloc (.cells #[.int .u8 101, .int .u8 69, .int .u8 103, .int .u8 71, .int .u8 102] 5 (5, 6))).cell? ⟨w3.heap.size, 1, none⟩ = some (.int .u8 69) := by rw [World.cell?_alloc_mark]; rfl
  have hm2 : (w3.alloc (.cells #[.int .u8 101, .int .u8 69, .int .u8 103, .int .u8 71, .int .u8 102] 5 (5, 6))).cell? ⟨w3.heap.size, 2, none⟩ = some (.int .u8 103) := by rw [World.cell?_alloc_mark]; rfl
  have hm3 : (w3.alloc (.cells #[.int .u8 101, .int .u8 69, .int .u8 103, .int .u8 71, .int .u8 102] 5 (5, 6))).cell? ⟨w3.heap.size, 3, none⟩ = some (.int .u8 71) := by rw [World.cell?_alloc_mark]; rfl
  have hm4 : (w3.alloc (.cells #[.int .u8 101, .int .u8 69, .int .u8 103, .int .u8 71, .int .u8 102] 5 (5, 6))).cell? ⟨w3.heap.size, 4, none⟩ = some (.int .u8 102) := by rw [World.cell?_alloc_mark]; rfl
  go_cut [7] (fun v wr => v = .int .u8 fm ∧ Aside (Fr (fun _ _ => False) w3 wr))
  case first =>
    rcases HFM.out with ⟨h1, h2⟩ | ⟨h1, h2⟩ | ⟨h1, h2⟩ | ⟨h1, h2⟩ | ⟨h1, h2⟩ <;> subst h2 <;>
    · go_wp2_with fail
      go_meet
      exact ⟨rfl, ⟨(Fr.refl _ _).alloc _⟩⟩
  case rest =>
  obtain ⟨rfl, k4⟩ := hcut
  clear fc hm0 hm1 hm2 hm3 hm4
  have B4 := HB3.out.fr k4.out (fun _ q => q)
  have HB4 := Aside.mk B4
  have K4 := Aside.mk (K3.out.trans k4.out)
  obtain ⟨d0, d1, d2, d3, _⟩ := E8.of B4
  clear k4 B4 HFM HB2 HB3
  go_wp2_with fail
  refine (HX.out _ K4.out).mono ?_
  rintro e1 w5 ⟨rfl, k5⟩
  have B5 := HB4.out.fr k5 (fun _ q => q)
  have HB5 := Aside.mk B5
  have K5 := Aside.mk (K4.out.trans k5)
  obtain ⟨d0, d1, d2, d3, _⟩ := E8.of B5
  clear k5 B5 HX HB4
  have hts2 : (ts.size : Int) ≤ 2147483647 := by omega
  clear hts
  by_cases h7 : (700 : Int) < (ts.size : Int)
  · clear d0 d1 d2 d3
    go_wp2_with fail
    refine (hA.out _ K5.out).mono ?_
    rintro e1 w6 ⟨rfl, k6⟩
    have F6 := Aside.mk (K5.out.trans k6)
    clear k6
    go_wp2_with fail
    go_ret
    exact ⟨rfl, F6.out⟩
  have h7n : ts.size ≤ 700 := by omega
  by_cases h102 : fm = 102
  · subst h102
    by_cases h28 : (280 : Int) < (ts.size : Int)
    · clear d0 d1 d2 d3
      go_wp2_with fail
      refine (hA.out _ K5.out).mono ?_
      rintro e1 w6 ⟨rfl, k6⟩
      have F6 := Aside.mk (K5.out.trans k6)
      clear k6
      go_wp2_with fail
      go_ret
      exact ⟨rfl, F6.out⟩
    obtain ⟨e2, s2, hPa, hE, hV⟩ := HP.out h7n (fun _ => by omega)
    have HPa := Lib.hid hPa
    clear HP hPa h7n
    go_wp2_with fail
    refine (HI.out _ K5.out).mono ?_
    rintro e1 w6 ⟨rfl, k6⟩
    have HB6 := Aside.mk (HB5.out.fr k6 (fun _ q => q))
    have K6 := Aside.mk (K5.out.trans k6)
    clear k6 HB5 d0 d1 d2 d3 HI
    go_wp2_with fail
    refine (HPa.out _ K6.out).mono ?_
    rintro e1 w7 ⟨rfl, k7⟩
    have HB7 := Aside.mk (HB6.out.fr k7 (fun _ q => q))
    have K7 := Aside.mk (K6.out.trans k7)
    clear k7 HB6 HPa
    go_upto_region 12 with fail
    by_cases hf0 : f = 0
    case neg =>
      have hff : ((f : Int) != 0) = true := by simp; omega
      obtain ⟨h1, h2⟩ := hE (.inr hf0)
      have h1 := h1.symm
      have h2 := h2.symm
      subst h1
      subst h2
      clear hV hE
      have HG := Aside.mk (D4.new (w := w7) f e n s 23)
      have HD := Aside.mk (HB7.out.fr ((Fr.refl (fun _ _ => False) w7).alloc (.cells #[.int .i64 f, .bool n, .int .i32 e, .string s] 23)) (fun _ q => q))
      have K8 := Aside.mk (K7.out.alloc (.cells #[.int .i64 f, .bool n, .int .i32 e, .string s] 23))
      obtain ⟨gb, hgb⟩ : ∃ x, w7.heap.size = x := ⟨_, rfl⟩
      obtain ⟨W8, hW8⟩ : ∃ x, w7.alloc (.cells #[.int .i64 f, .bool n, .int .i32 e, .string s] 23) = x := ⟨_, rfl⟩
      rw [hgb] at HG
      rw [hW8] at HG HD K8 ⊢
      try rw [hgb]
      clear hgb hW8 HB7 K7
      obtain ⟨d0, d1, d2, d3, _⟩ := E8.of HD.out
      go_wp2_with fail
      refine (hA.out _ K8.out).mono ?_
      rintro e1 w9 ⟨rfl, k9⟩
      obtain ⟨t0, t1, t2, t3, t4, t5, t6, t7⟩ := T8.of (HG.out.fr k9 (fun _ q => q)) (HD.out.fr k9 (fun _ q => q))
      have K9 := Aside.mk (K8.out.trans k9)
      have hq9 := eql_dec w9 f e n s
      clear k9 d0 d1 d2 d3
      go_wp2_with fail
      go_ret
      exact ⟨rfl, K9.out⟩
    have HG := Aside.mk (D4.new (w := w7) f e2 n s2 23)
    have HD := Aside.mk (HB7.out.fr ((Fr.refl (fun _ _ => False) w7).alloc (.cells #[.int .i64 f, .bool n, .int .i32 e2, .string s2] 23)) (fun _ q => q))
    have K8 := Aside.mk (K7.out.alloc (.cells #[.int .i64 f, .bool n, .int .i32 e2, .string s2] 23))
    obtain ⟨gb, hgb⟩ : ∃ x, w7.heap.size = x := ⟨_, rfl⟩
    obtain ⟨db, hdb⟩ : ∃ x, w.heap.size = x := ⟨_, rfl⟩
    obtain ⟨W8, hW8⟩ : ∃ x, w7.alloc (.cells #[.int .i64 f, .bool n, .int .i32 e2, .string s2] 23) = x := ⟨_, rfl⟩
    rw [hgb] at HG
    rw [hdb] at HD
    rw [hW8] at HG HD K8 ⊢
    try rw [hgb]
    rw [hdb]
    clear hgb hW8 hdb HB7 K7
    have hff : ((f : Int) != 0) = false := by simp [hf0]
    obtain ⟨hCy, V, hV1, hV2⟩ := hV hf0
    have T : ∀ w1, Fr (fun _ _ => False) W8 w1 → T8 w1 gb db f n e2 s2 e s := fun w1 q => T8.of (HG.out.fr q (fun _ q => q)) (HD.out.fr q (fun _ q => q))
    obtain ⟨t0, t1, t2, t3, t4, t5, t6, t7⟩ := T W8 (Fr.refl _ _)
    have HA1 : Hid (∀ w1, Fr (fun _ _ => False) W8 w1 → Calls Tryz.prog 8 #[] w1 fun e1 w' => e1 = .returned (.bool true) ∧ T8 w' gb db f n e2 s2 e s ∧ Aside (Fr (fun _ _ => False) W8 w') ∧
        Hid (∀ w1, Fr (fun _ _ => False) w' w1 → Calls Tryz.prog 11 #[.agg #[.int .i64 f, .bool n, .int .i32 e2, .string s2]] w1 fun e1 w' => e1 = .returned (.bool true) ∧ T8 w' gb db f n e2 s2 e s ∧ Aside (Fr (fun _ _ => False) W8 w') ∧
          Hid (∀ w1, Fr (fun _ _ => False) w' w1 → Calls Tryz.prog 14 #[.agg #[.int .i64 f, .bool n, .int .i32 e2, .string s2]] w1 fun e1 w' => ∃ a m c, e1 = .returned (.agg #[.bool (sg1 n V), .slice a m c]) ∧ T8 w' gb db f n e2 s2 e s ∧
            Hid (∀ w1, Fr (fun _ _ => False) w' w1 → Calls Tryz.prog 14 #[.agg #[.int .i64 f, .bool n, .int .i32 e, .string s]] w1 fun e1 w' => ∃ a' m' c', e1 = .returned (.agg #[.bool (sg1 n V), .slice a' m' c']) ∧ T8 w' gb db f n e2 s2 e s ∧
              Hid (∀ w1, Fr (fun _ _ => False) w' w1 → Calls Tryz.prog 15 #[.agg #[.bool (sg1 n V), .slice a m c], .agg #[.bool (sg1 n V), .slice a' m' c']] w1 fun e1 w' => e1 = .returned (.int .i64 0) ∧ T8 w' gb db f n e2 s2 e s ∧ Aside (Fr (fun _ _ => False) w w')))))) := Lib.hid (fun w1 q1 => by
      refine (hA.out w1 (K8.out.trans q1)).mono ?_
      rintro e1 w2 ⟨rfl, k2⟩
      have f2 := q1.trans k2
      refine ⟨rfl, T _ f2, ⟨f2⟩, Lib.hid (fun w3 q3 => ?_)⟩
      refine (hCy w3).mono ?_
      rintro e1 w4 ⟨rfl, k4⟩
      have f4 := f2.trans (q3.trans k4)
      refine ⟨rfl, T _ f4, ⟨f4⟩, Lib.hid (fun w5 q5 => ?_)⟩
      refine (hV1 w5 (K8.out.trans (f4.trans q5))).mono ?_
      rintro e1 w6 ⟨a, m, c, rfl, m1, k6, k7⟩
      have f6 := f4.trans (q5.trans k7)
      refine ⟨a, m, c, rfl, T _ f6, Lib.hid (fun w7 q7 => ?_)⟩
      refine (hV2 w7 (K8.out.trans (f6.trans q7))).mono ?_
      rintro e1 w8 ⟨a', m', c', rfl, m2, k8, k9⟩
      have f8 := f6.trans (q7.trans k9)
      refine ⟨a', m', c', rfl, T _ f8, Lib.hid (fun w9 q9 => ?_)⟩
      refine (ncmp_any (sg1 n V) (sg1 n V) (k6.fr ((q7.trans k9).trans q9) (fun _ _ _ q => q)) (k8.fr q9 (fun _ _ _ q => q)) (by omega) (by omega)).mono ?_
      rintro e1 w10 ⟨rfl, k10⟩
      have f10 := f8.trans (q9.trans k10)
      exact ⟨by rw [cmpS_self], T _ f10, ⟨K8.out.trans f10⟩⟩)
    have hnn : (n == n) = true := by simp
    clear hCy hV1 hV2 hV T hE HG HD K8 hA hf0
    go_wp2_with fail
    go_region_held3 (fun w' => w'.cell? ⟨gb, 0, none⟩ = some (.int .i64 ((f : Nat) : Int)) ∧ w'.cell? ⟨gb, 1, none⟩ = some (.bool n) ∧ w'.cell? ⟨gb, 2, none⟩ = some (.int .i32 e2) ∧ w'.cell? ⟨gb, 3, none⟩ = some (.string s2) ∧ w'.cell? ⟨db, 0, none⟩ = some (.int .i64 ((f : Nat) : Int)) ∧ w'.cell? ⟨db, 1, none⟩ = some (.bool n) ∧ w'.cell? ⟨db, 2, none⟩ = some (.int .i32 e) ∧ w'.cell? ⟨db, 3, none⟩ = some (.string s)) (first | exact ⟨t0, t1, t2, t3, t4, t5, t6, t7⟩ | go_keep) (first | (go_at_call 8; go_must (refine (HA1.out _ (by repeat first | exact Fr.refl _ _ | refine Fr.drewN ?_ _ | refine Fr.drew ?_)).mono ?_; rintro e1 w9 ⟨rfl, ⟨t0, t1, t2, t3, t4, t5, t6, t7⟩, F9, HA2⟩)) | (go_at_call 11; go_must (refine (HA2.out _ (by repeat first | exact Fr.refl _ _ | refine Fr.drewN ?_ _ | refine Fr.drew ?_)).mono ?_; rintro e1 w10 ⟨rfl, ⟨t0, t1, t2, t3, t4, t5, t6, t7⟩, F10, HA3⟩)) | (go_at_call 14; go_must (first | (refine (HA4.out _ (by repeat first | exact Fr.refl _ _ | refine Fr.drewN ?_ _ | refine Fr.drew ?_)).mono ?_; rintro e1 w12 ⟨a2, m2, c2, rfl, ⟨t0, t1, t2, t3, t4, t5, t6, t7⟩, HA5⟩) | (refine (HA3.out _ (by repeat first | exact Fr.refl _ _ | refine Fr.drewN ?_ _ | refine Fr.drew ?_)).mono ?_; rintro e1 w11 ⟨a1, m1, c1, rfl, ⟨t0, t1, t2, t3, t4, t5, t6, t7⟩, HA4⟩; clear HA3))) | (go_at_call 15; go_must (refine (HA5.out _ (by repeat first | exact Fr.refl _ _ | refine Fr.drewN ?_ _ | refine Fr.drew ?_)).mono ?_; rintro e1 w13 ⟨rfl, ⟨t0, t1, t2, t3, t4, t5, t6, t7⟩, F13⟩)))
    all_goals
      go_wp2_with fail
      go_ret
      exact ⟨rfl, F13.out⟩
  have q102 : (((fm : Nat) : Int) == 102) = false := by rw [beq_eq_false_iff_ne]; omega
  have q103 : (((fm : Nat) : Int) != 102) = true := by simp; omega
  obtain ⟨e2, s2, hPa, hE, hV⟩ := HP.out h7n (fun q => absurd q h102)
  obtain ⟨h1, h2⟩ := hE (.inl h102)
  have h1 := h1.symm
  have h2 := h2.symm
  subst h1
  subst h2
  clear hV hE
  have HPa := Lib.hid hPa
  clear HP hPa h7n
  go_wp2_with fail
  refine (HI.out _ K5.out).mono ?_
  rintro e1 w6 ⟨rfl, k6⟩
  have HB6 := Aside.mk (HB5.out.fr k6 (fun _ q => q))
  have K6 := Aside.mk (K5.out.trans k6)
  clear k6 HB5 d0 d1 d2 d3 HI
  go_wp2_with fail
  refine (HPa.out _ K6.out).mono ?_
  rintro e1 w7 ⟨rfl, k7⟩
  have HB7 := Aside.mk (HB6.out.fr k7 (fun _ q => q))
  have K7 := Aside.mk (K6.out.trans k7)
  clear k7 HB6 HPa
  go_upto_region 12 with fail
  have HG := Aside.mk (D4.new (w := w7) f e n s 23)
  have HD := Aside.mk (HB7.out.fr ((Fr.refl (fun _ _ => False) w7).alloc (.cells #[.int .i64 f, .bool n, .int .i32 e, .string s] 23)) (fun _ q => q))
  have K8 := Aside.mk (K7.out.alloc (.cells #[.int .i64 f, .bool n, .int .i32 e, .string s] 23))
  obtain ⟨gb, hgb⟩ : ∃ x, w7.heap.size = x := ⟨_, rfl⟩
  obtain ⟨W8, hW8⟩ : ∃ x, w7.alloc (.cells #[.int .i64 f, .bool n, .int .i32 e, .string s] 23) = x := ⟨_, rfl⟩
  rw [hgb] at HG
  rw [hW8] at HG HD K8 ⊢
  try rw [hgb]
  clear hgb hW8 HB7 K7
  obtain ⟨d0, d1, d2, d3, _⟩ := E8.of HD.out
  go_wp2_with fail
  refine (hA.out _ K8.out).mono ?_
  rintro e1 w9 ⟨rfl, k9⟩
  obtain ⟨t0, t1, t2, t3, t4, t5, t6, t7⟩ := T8.of (HG.out.fr k9 (fun _ q => q)) (HD.out.fr k9 (fun _ q => q))
  have K9 := Aside.mk (K8.out.trans k9)
  have hq9 := eql_dec w9 f e n s
  clear k9 d0 d1 d2 d3
  go_wp2_with fail
  go_ret
  exact ⟨rfl, K9.out⟩
theorem textL_len {f : Nat} {n : Bool} {e : Int} {dl : List UInt8} {fm : Nat} (he : -5000 ≤ e ∧ e ≤ 5000) (hl : dl.length ≤ 300) : (textL f n e dl fm).length ≤ 10000 := by
  have h1 : ∀ x : UInt8, (sciL dl e x).length ≤ 310 := fun x => sciL_len he hl
  have h2 := plainL_len dl e
  have h3 : (markL n).length ≤ 1 := by cases n <;> simp [markL]
  unfold textL
  rw [List.length_append]
  have h4 : (if (f : Int) = 0 then bodyL dl e fm else formL f).length ≤ 6000 := by
    split
    · unfold bodyL
      generalize (if dl = [48] then (-2000 : Int) else -6) = L
      split
      · have := h1 101; omega
      · split
        · have := h1 69; omega
        · split
          · omega
          · split
            · split
              · have := h1 101; omega
              · have := h1 69; omega
            · omega
    · unfold formL
      repeat' split
      all_goals simp
  omega
theorem fnTextBack_any {w : World} {f e b1 b2 : Int} {n : Bool} {s : ByteArray} (g : Gv w) (sy : SyV w) (hp : PT w) (hb1 : 0 ≤ b1 ∧ b1 ≤ 255) (hb2 : 0 ≤ b2 ∧ b2 ≤ 255) : Calls Tryz.prog 4 #[.agg #[.int .i64 f, .bool n, .int .i32 e, .string s], .int .u8 b1, .int .u8 b2] w fun e1 w' => e1 = .returned (.bool true) ∧ Fr (fun _ _ => False) w w' := by
  by_cases hz : s.size ≤ 2147483647
  case neg => exact fnBack_big hz
  by_cases hc : ClearP f e s
  case neg => exact fnBack_not g hz hc
  obtain ⟨hdg, h0, h300, hfr, hnt, he, _⟩ := hc.all
  obtain ⟨f', rfl⟩ : ∃ f' : Nat, f = f' := ⟨f.toNat, by omega⟩
  obtain ⟨k, hk, hk2⟩ : ∃ k : Nat, b2 % 3 = (k : Int) ∧ k ≤ 2 := ⟨(b2 % 3).toNat, by omega, by omega⟩
  obtain ⟨fm, hfm, hd⟩ : ∃ fm : Nat, FmOk fm ∧ ((b1 % 5 = 0 ∧ fm = 101) ∨ (b1 % 5 = 1 ∧ fm = 69) ∨ (b1 % 5 = 2 ∧ fm = 103) ∨ (b1 % 5 = 3 ∧ fm = 71) ∨ (b1 % 5 = 4 ∧ fm = 102)) := by
    have : b1 % 5 = 0 ∨ b1 % 5 = 1 ∨ b1 % 5 = 2 ∨ b1 % 5 = 3 ∨ b1 % 5 = 4 := by omega
    rcases this with h | h | h | h | h
    · exact ⟨101, .inl rfl, .inl ⟨h, rfl⟩⟩
    · exact ⟨69, .inr (.inl rfl), .inr (.inl ⟨h, rfl⟩)⟩
    · exact ⟨103, .inr (.inr (.inr (.inl rfl))), .inr (.inr (.inl ⟨h, rfl⟩))⟩
    · exact ⟨71, .inr (.inr (.inr (.inr rfl))), .inr (.inr (.inr (.inl ⟨h, rfl⟩)))⟩
    · exact ⟨102, .inr (.inr (.inl rfl)), .inr (.inr (.inr (.inr ⟨h, rfl⟩)))⟩
  have hsl : s.data.toList.length = s.size := rfl
  have hl := textL_len (f := f') (n := n) (e := e) (dl := s.data.toList) (fm := fm) (by omega) (by omega)
  exact fnBack_go g hz (backC g sy hp hk2 hc hfm) hk hb1 hb2 (by rw [mk_size]; omega) hd
end Go.Proofs.YtifkpcijheabhaaGreatDoor
