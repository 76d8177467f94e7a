/- Decimal.setString at infinity, and at a NaN without a payload. Decimal.setString at a NaN with a payload. -/
import Derived.Test.YtifkpcijheabhaaGreatDoorP40Par1
set_option linter.unusedSimpArgs false
set_option linter.unusedVariables false
namespace Go.Proofs.YtifkpcijheabhaaGreatDoor
open Go.RowKit

set_option maxRecDepth 100000 in
set_option maxHeartbeats 8000000 in
theorem setString_inf1 {w : World} {b : Nat} {f e : Int} {n ng : Bool} {a : Option Addr} {c X : Nat} {s : ByteArray} {r : List UInt8} (g : Gv w) (h : DA w b f n e a c X) (hsg : sgnR s.data.toList = (ng, r)) (hasc : ∀ x ∈ r, x.toNat < 128) (hs : s.size ≤ 1000) (hU : Lib.toLowerA r = [105, 110, 102, 105, 110, 105, 116, 121]) :
    Calls Tryz.prog 59 #[.pointer (some ⟨b, 0, none⟩), .pointer (some ⟨0, 0, none⟩), .string s] w fun e1 w' => ∃ a' c', e1 = .returned (.tuple #[.int .u32 0, .nilIface]) ∧ DA w' b 1 ng 0 a' c' 0 ∧ Fr (dfoot b a c) w w' ∧ Out w a c a' c' := by
  have hcb : 0 ≠ b := by rintro rfl; exact absurd h.num.blk.1 (by decide)
  have hap : ∀ o, ¬ foot a c 0 o := fun o k => absurd (h.num.nt.reg.lo _ _ k) (by decide)
  obtain ⟨u, hu⟩ : ∃ u, mk (Lib.toLowerA r) = u := ⟨_, rfl⟩
  have hul : u.data.toList = [105, 110, 102, 105, 110, 105, 116, 121] := by rw [← hu, mk_toList, hU]
  have hrl : r.length ≤ 1000 := sgn_len hsg hs
  have husz : u.size ≤ 1000 := by rw [← hu, mk_size]; simp [Lib.toLowerA]; exact hrl
  have huasc : ∀ x ∈ u.data.toList, x.toNat < 128 := by rw [← hu, mk_toList]; exact lower_asc hasc
  obtain ⟨s1, C1', C2', hS1⟩ := sgn_calls hsg hs
  have C1 := Lib.hid C1'
  have C2 := Lib.hid C2'
  have CL : Hid (∀ w, Calls Tryz.prog 74 #[.string (mk r)] w fun e w' => e = .returned (.string u) ∧ Aside (Fr (fun _ _ => False) w w')) := Lib.hid (fun w => by
    refine (Tryz.strings_ToLower_ascii (mk r) w (by rw [mk_size]; omega) (fun j y k => hasc _ (List.mem_of_getElem? (by rwa [mk_toList] at k)))).mono ?_
    rintro e w' ⟨rfl, hb⟩
    refine ⟨?_, ⟨Fr.of_below hb⟩⟩
    rw [mk_toList, ← hu]; rfl)
  obtain ⟨u0, hu0⟩ : ∃ u0, mk r = u0 := ⟨_, rfl⟩
  rw [hu0] at C2 CL hS1
  have HS1 := Aside.mk hS1
  clear C1' C2' hS1
  have hP1 : Lib.hasPrefix ([105, 110, 102, 105, 110, 105, 116, 121]) [45] = false := by simp [Lib.hasPrefix, List.isPrefixOf]
  have hP2 : Lib.hasPrefix ([105, 110, 102, 105, 110, 105, 116, 121]) [43] = false := by simp [Lib.hasPrefix, List.isPrefixOf]
  have P1 : Hid (∀ w, Calls Tryz.prog 76 #[.string u, .string ⟨#[45]⟩] w fun e w' => e = .returned (.bool false) ∧ w' = w) := Lib.hid (fun w => by
    have := Tryz.strings_HasPrefix u ⟨#[45]⟩ w
    rwa [hul, hP1] at this)
  have P2 : Hid (∀ w, Calls Tryz.prog 76 #[.string u, .string ⟨#[43]⟩] w fun e w' => e = .returned (.bool false) ∧ w' = w) := Lib.hid (fun w => by
    have := Tryz.strings_HasPrefix u ⟨#[43]⟩ w
    rwa [hul, hP2] at this)
  have Q1 : (u.toList == [105, 110, 102, 105, 110, 105, 116, 121]) = true := by rw [beq_iff_eq, ByteArray.toList_eq, hul]
  have hf := h.form
  have hn := h.neg
  have he := h.exp
  have z0 := h.num.blk.free 0
  have z1 := h.num.blk.free 1
  have z2 := h.num.blk.free 2
  have D1 := Aside.mk (h.setNeg ng)
  have F1 := Aside.mk ((Fr.refl (dfoot b a c) w).setD 1 (.bool ng))
  have HC := Aside.mk g.base
  have HG := Aside.mk g.g
  have HE := Aside.mk g.eof
  have HAP := Aside.mk hap
  have HLO := Aside.mk h.lo
  clear h g hap hs hu hul hasc huasc hU hsg hrl hu0 hP1 hP2
  go_enter Tryz.func59, Tryz.ntmps59
  go_wp2_with fail
  refine (C1.out _).mono ?_
  rintro e1 w' ⟨rfl, rfl⟩
  go_upto_if 34 with fail
  go_cut [2] (fun sv wr => sv = .string u0 ∧ wr = w'.setCell ⟨b, 1, none⟩ (.bool ng))
  case first =>
    cases ng
    · go_wp2_with fail
      refine (C2.out (by trivial) _).mono ?_
      rintro e1 w2 ⟨⟨p, rfl⟩, rfl⟩
      go_wp2_with fail
      go_meet
      exact ⟨rfl, rfl⟩
    · go_wp2_with fail
      go_meet
      exact ⟨by rw [HS1.out (by trivial)], rfl⟩
  case rest =>
  obtain ⟨rfl, rfl⟩ := hcut
  go_wp2_with fail
  refine (CL.out _).mono ?_
  rintro e1 w2 ⟨rfl, f2⟩
  have DD2 := Aside.mk (D1.out.fr f2.out (fun _ _ _ k => k))
  have F2 := Aside.mk (F1.out.trans' f2.out (U := dfoot b a c) (fun _ _ _ k => k) (fun _ _ _ k => k.elim))
  have hf2 := DD2.out.form
  have hn2 := DD2.out.neg
  have he2 := DD2.out.exp
  have y0 := DD2.out.num.blk.free 0
  have y1 := DD2.out.num.blk.free 1
  have y2 := DD2.out.num.blk.free 2
  have D3 := Aside.mk (DD2.out.setExp 0)
  have F3 := Aside.mk (F2.out.setD 2 (.int .i32 0))
  have hS := Lib.hid (bSetInt64 0 (Nat.le_trans HG.out.size F3.out.size) D3.out.num (by omega) (by omega))
  clear hf hn he z0 z1 z2 f2
  go_wp2_with fail
  refine hS.out.mono ?_
  rintro e1 w3 ⟨a3, c3, rfl, s1, s2, s3⟩
  have D4 := D3.out.put s1 s2
  have F4 := Aside.mk (F3.out.trans' s2 (U := dfoot b a c) (fun _ _ _ k => k) (fun x y _ k => ifoot_d x y k))
  have hf3 := D4.form
  have y3 := D4.num.blk.free 0
  have D5 := Aside.mk (D4.setForm 3)
  have F5 := Aside.mk (F4.out.setD 0 (.int .i8 3))
  have O5 := Aside.mk (s3.older (w := w') F3.out.size)
  clear D4 s1 s2 s3 hf2 hn2 he2 y0 y1 y2 hS
  go_wp2_with fail
  refine (P1.out _).mono ?_
  rintro e1 w4 ⟨rfl, rfl⟩
  go_wp2_with fail
  refine (P2.out _).mono ?_
  rintro e1 w4 ⟨rfl, rfl⟩
  go_wp2_with fail
  go_ret2
  exact ⟨a3, c3, rfl, D5.out.setForm 1, F5.out.setD 0 _, O5.out⟩
set_option maxRecDepth 100000 in
set_option maxHeartbeats 8000000 in
theorem setString_inf2 {w : World} {b : Nat} {f e : Int} {n ng : Bool} {a : Option Addr} {c X : Nat} {s : ByteArray} {r : List UInt8} (g : Gv w) (h : DA w b f n e a c X) (hsg : sgnR s.data.toList = (ng, r)) (hasc : ∀ x ∈ r, x.toNat < 128) (hs : s.size ≤ 1000) (hU : Lib.toLowerA r = [105, 110, 102]) :
    Calls Tryz.prog 59 #[.pointer (some ⟨b, 0, none⟩), .pointer (some ⟨0, 0, none⟩), .string s] w fun e1 w' => ∃ a' c', e1 = .returned (.tuple #[.int .u32 0, .nilIface]) ∧ DA w' b 1 ng 0 a' c' 0 ∧ Fr (dfoot b a c) w w' ∧ Out w a c a' c' := by
  have hcb : 0 ≠ b := by rintro rfl; exact absurd h.num.blk.1 (by decide)
  have hap : ∀ o, ¬ foot a c 0 o := fun o k => absurd (h.num.nt.reg.lo _ _ k) (by decide)
  obtain ⟨u, hu⟩ : ∃ u, mk (Lib.toLowerA r) = u := ⟨_, rfl⟩
  have hul : u.data.toList = [105, 110, 102] := by rw [← hu, mk_toList, hU]
  have hrl : r.length ≤ 1000 := sgn_len hsg hs
  have husz : u.size ≤ 1000 := by rw [← hu, mk_size]; simp [Lib.toLowerA]; exact hrl
  have huasc : ∀ x ∈ u.data.toList, x.toNat < 128 := by rw [← hu, mk_toList]; exact lower_asc hasc
  obtain ⟨s1, C1', C2', hS1⟩ := sgn_calls hsg hs
  have C1 := Lib.hid C1'
  have C2 := Lib.hid C2'
  have CL : Hid (∀ w, Calls Tryz.prog 74 #[.string (mk r)] w fun e w' => e = .returned (.string u) ∧ Aside (Fr (fun _ _ => False) w w')) := Lib.hid (fun w => by
    refine (Tryz.strings_ToLower_ascii (mk r) w (by rw [mk_size]; omega) (fun j y k => hasc _ (List.mem_of_getElem? (by rwa [mk_toList] at k)))).mono ?_
    rintro e w' ⟨rfl, hb⟩
    refine ⟨?_, ⟨Fr.of_below hb⟩⟩
    rw [mk_toList, ← hu]; rfl)
  obtain ⟨u0, hu0⟩ : ∃ u0, mk r = u0 := ⟨_, rfl⟩
  rw [hu0] at C2 CL hS1
  have HS1 := Aside.mk hS1
  clear C1' C2' hS1
  have hP1 : Lib.hasPrefix ([105, 110, 102]) [45] = false := by simp [Lib.hasPrefix, List.isPrefixOf]
  have hP2 : Lib.hasPrefix ([105, 110, 102]) [43] = false := by simp [Lib.hasPrefix, List.isPrefixOf]
  have P1 : Hid (∀ w, Calls Tryz.prog 76 #[.string u, .string ⟨#[45]⟩] w fun e w' => e = .returned (.bool false) ∧ w' = w) := Lib.hid (fun w => by
    have := Tryz.strings_HasPrefix u ⟨#[45]⟩ w
    rwa [hul, hP1] at this)
  have P2 : Hid (∀ w, Calls Tryz.prog 76 #[.string u, .string ⟨#[43]⟩] w fun e w' => e = .returned (.bool false) ∧ w' = w) := Lib.hid (fun w => by
    have := Tryz.strings_HasPrefix u ⟨#[43]⟩ w
    rwa [hul, hP2] at this)
  have Q1 : (u.toList == [105, 110, 102, 105, 110, 105, 116, 121]) = false := by rw [ByteArray.toList_eq, hul]; rfl
  have Q2 : (u.toList == [105, 110, 102]) = true := by rw [beq_iff_eq, ByteArray.toList_eq, hul]
  have hf := h.form
  have hn := h.neg
  have he := h.exp
  have z0 := h.num.blk.free 0
  have z1 := h.num.blk.free 1
  have z2 := h.num.blk.free 2
  have D1 := Aside.mk (h.setNeg ng)
  have F1 := Aside.mk ((Fr.refl (dfoot b a c) w).setD 1 (.bool ng))
  have HC := Aside.mk g.base
  have HG := Aside.mk g.g
  have HE := Aside.mk g.eof
  have HAP := Aside.mk hap
  have HLO := Aside.mk h.lo
  clear h g hap hs hu hul hasc huasc hU hsg hrl hu0 hP1 hP2
  go_enter Tryz.func59, Tryz.ntmps59
  go_wp2_with fail
  refine (C1.out _).mono ?_
  rintro e1 w' ⟨rfl, rfl⟩
  go_upto_if 34 with fail
  go_cut [2] (fun sv wr => sv = .string u0 ∧ wr = w'.setCell ⟨b, 1, none⟩ (.bool ng))
  case first =>
    cases ng
    · go_wp2_with fail
      refine (C2.out (by trivial) _).mono ?_
      rintro e1 w2 ⟨⟨p, rfl⟩, rfl⟩
      go_wp2_with fail
      go_meet
      exact ⟨rfl, rfl⟩
    · go_wp2_with fail
      go_meet
      exact ⟨by rw [HS1.out (by trivial)], rfl⟩
  case rest =>
  obtain ⟨rfl, rfl⟩ := hcut
  go_wp2_with fail
  refine (CL.out _).mono ?_
  rintro e1 w2 ⟨rfl, f2⟩
  have DD2 := Aside.mk (D1.out.fr f2.out (fun _ _ _ k => k))
  have F2 := Aside.mk (F1.out.trans' f2.out (U := dfoot b a c) (fun _ _ _ k => k) (fun _ _ _ k => k.elim))
  have hf2 := DD2.out.form
  have hn2 := DD2.out.neg
  have he2 := DD2.out.exp
  have y0 := DD2.out.num.blk.free 0
  have y1 := DD2.out.num.blk.free 1
  have y2 := DD2.out.num.blk.free 2
  have D3 := Aside.mk (DD2.out.setExp 0)
  have F3 := Aside.mk (F2.out.setD 2 (.int .i32 0))
  have hS := Lib.hid (bSetInt64 0 (Nat.le_trans HG.out.size F3.out.size) D3.out.num (by omega) (by omega))
  clear hf hn he z0 z1 z2 f2
  go_wp2_with fail
  refine hS.out.mono ?_
  rintro e1 w3 ⟨a3, c3, rfl, s1, s2, s3⟩
  have D4 := D3.out.put s1 s2
  have F4 := Aside.mk (F3.out.trans' s2 (U := dfoot b a c) (fun _ _ _ k => k) (fun x y _ k => ifoot_d x y k))
  have hf3 := D4.form
  have y3 := D4.num.blk.free 0
  have D5 := Aside.mk (D4.setForm 3)
  have F5 := Aside.mk (F4.out.setD 0 (.int .i8 3))
  have O5 := Aside.mk (s3.older (w := w') F3.out.size)
  clear D4 s1 s2 s3 hf2 hn2 he2 y0 y1 y2 hS
  go_wp2_with fail
  refine (P1.out _).mono ?_
  rintro e1 w4 ⟨rfl, rfl⟩
  go_wp2_with fail
  refine (P2.out _).mono ?_
  rintro e1 w4 ⟨rfl, rfl⟩
  go_wp2_with fail
  go_ret2
  exact ⟨a3, c3, rfl, D5.out.setForm 1, F5.out.setD 0 _, O5.out⟩
set_option maxRecDepth 100000 in
set_option maxHeartbeats 8000000 in
theorem setString_nan0 {w : World} {b : Nat} {f e : Int} {n ng : Bool} {a : Option Addr} {c X : Nat} {s : ByteArray} {r : List UInt8} (g : Gv w) (h : DA w b f n e a c X) (hsg : sgnR s.data.toList = (ng, r)) (hasc : ∀ x ∈ r, x.toNat < 128) (hs : s.size ≤ 1000) (hU : Lib.toLowerA r = 110 :: 97 :: 110 :: []) :
    Calls Tryz.prog 59 #[.pointer (some ⟨b, 0, none⟩), .pointer (some ⟨0, 0, none⟩), .string s] w fun e1 w' => ∃ a' c', e1 = .returned (.tuple #[.int .u32 0, .nilIface]) ∧ DA w' b 3 ng 0 a' c' 0 ∧ Fr (dfoot b a c) w w' ∧ Out w a c a' c' := by
  have hcb : 0 ≠ b := by rintro rfl; exact absurd h.num.blk.1 (by decide)
  have hap : ∀ o, ¬ foot a c 0 o := fun o k => absurd (h.num.nt.reg.lo _ _ k) (by decide)
  obtain ⟨u, hu⟩ : ∃ u, mk (Lib.toLowerA r) = u := ⟨_, rfl⟩
  have hul : u.data.toList = 110 :: 97 :: 110 :: [] := by rw [← hu, mk_toList, hU]
  have hrl : r.length ≤ 1000 := sgn_len hsg hs
  have husz : u.size ≤ 1000 := by rw [← hu, mk_size]; simp [Lib.toLowerA]; exact hrl
  have huasc : ∀ x ∈ u.data.toList, x.toNat < 128 := by rw [← hu, mk_toList]; exact lower_asc hasc
  obtain ⟨s1, C1', C2', hS1⟩ := sgn_calls hsg hs
  have C1 := Lib.hid C1'
  have C2 := Lib.hid C2'
  have CL : Hid (∀ w, Calls Tryz.prog 74 #[.string (mk r)] w fun e w' => e = .returned (.string u) ∧ Aside (Fr (fun _ _ => False) w w')) := Lib.hid (fun w => by
    refine (Tryz.strings_ToLower_ascii (mk r) w (by rw [mk_size]; omega) (fun j y k => hasc _ (List.mem_of_getElem? (by rwa [mk_toList] at k)))).mono ?_
    rintro e w' ⟨rfl, hb⟩
    refine ⟨?_, ⟨Fr.of_below hb⟩⟩
    rw [mk_toList, ← hu]; rfl)
  obtain ⟨u0, hu0⟩ : ∃ u0, mk r = u0 := ⟨_, rfl⟩
  rw [hu0] at C2 CL hS1
  have HS1 := Aside.mk hS1
  clear C1' C2' hS1
  have hP1 : Lib.hasPrefix (110 :: 97 :: 110 :: []) [45] = false := by simp [Lib.hasPrefix, List.isPrefixOf]
  have hP2 : Lib.hasPrefix (110 :: 97 :: 110 :: []) [43] = false := by simp [Lib.hasPrefix, List.isPrefixOf]
  have P1 : Hid (∀ w, Calls Tryz.prog 76 #[.string u, .string ⟨#[45]⟩] w fun e w' => e = .returned (.bool false) ∧ w' = w) := Lib.hid (fun w => by
    have := Tryz.strings_HasPrefix u ⟨#[45]⟩ w
    rwa [hul, hP1] at this)
  have P2 : Hid (∀ w, Calls Tryz.prog 76 #[.string u, .string ⟨#[43]⟩] w fun e w' => e = .returned (.bool false) ∧ w' = w) := Lib.hid (fun w => by
    have := Tryz.strings_HasPrefix u ⟨#[43]⟩ w
    rwa [hul, hP2] at this)
  have Q1 : (u.toList == [105, 110, 102, 105, 110, 105, 116, 121]) = false := by rw [beq_eq_false_iff_ne, ByteArray.toList_eq, hul]; simp
  have Q2 : (u.toList == [105, 110, 102]) = false := by rw [beq_eq_false_iff_ne, ByteArray.toList_eq, hul]; simp
  have heu : u = mk (110 :: 97 :: 110 :: []) := by rw [← hul]; exact mk_of u
  obtain ⟨rr, hrr⟩ : ∃ rr, mk ([] : List UInt8) = rr := ⟨_, rfl⟩
  have hrrl : rr.data.toList = ([] : List UInt8) := by rw [← hrr, mk_toList]
  have C3 : Hid (∀ w, Calls Tryz.prog 73 #[.string u, .string ⟨#[110, 97, 110]⟩] w fun e w' => e = .returned (.tuple #[.string rr, .bool true]) ∧ w' = w) := Lib.hid (fun w => by
    refine (consume_yes u ⟨#[110, 97, 110]⟩ (by rw [hul]; simp [Lib.hasPrefix]) (by rw [heu, mk_size]; show 3 ≤ _; simp) (by omega) w).mono ?_
    rintro e w' ⟨rfl, rfl⟩
    refine ⟨?_, rfl⟩
    have e3 : u.extract 3 u.size = rr := by
      rw [heu, mk_extract, mk_size, ← hrr]
      congr 1
      all_goals (first | rfl | (rw [List.take_of_length_le (by simp)]; all_goals rfl))
    rw [← e3]; rfl)
  have C4 := Lib.hid (consume_no rr ⟨#[115, 110, 97, 110]⟩ (by rw [hrrl]; rfl))
  have Q3 : (rr.toList == []) = true := by rw [ByteArray.toList_eq, hrrl]; rfl
  have hf := h.form
  have hn := h.neg
  have he := h.exp
  have z0 := h.num.blk.free 0
  have z1 := h.num.blk.free 1
  have z2 := h.num.blk.free 2
  have D1 := Aside.mk (h.setNeg ng)
  have F1 := Aside.mk ((Fr.refl (dfoot b a c) w).setD 1 (.bool ng))
  have HC := Aside.mk g.base
  have HG := Aside.mk g.g
  have HE := Aside.mk g.eof
  have HAP := Aside.mk hap
  have HLO := Aside.mk h.lo
  clear h g hap hs hu hul hasc huasc hU hsg hrl hu0 hP1 hP2 heu hrr hrrl
  go_enter Tryz.func59, Tryz.ntmps59
  go_wp2_with fail
  refine (C1.out _).mono ?_
  rintro e1 w' ⟨rfl, rfl⟩
  go_upto_if 34 with fail
  go_cut [2] (fun sv wr => sv = .string u0 ∧ wr = w'.setCell ⟨b, 1, none⟩ (.bool ng))
  case first =>
    cases ng
    · go_wp2_with fail
      refine (C2.out (by trivial) _).mono ?_
      rintro e1 w2 ⟨⟨p, rfl⟩, rfl⟩
      go_wp2_with fail
      go_meet
      exact ⟨rfl, rfl⟩
    · go_wp2_with fail
      go_meet
      exact ⟨by rw [HS1.out (by trivial)], rfl⟩
  case rest =>
  obtain ⟨rfl, rfl⟩ := hcut
  go_wp2_with fail
  refine (CL.out _).mono ?_
  rintro e1 w2 ⟨rfl, f2⟩
  have DD2 := Aside.mk (D1.out.fr f2.out (fun _ _ _ k => k))
  have F2 := Aside.mk (F1.out.trans' f2.out (U := dfoot b a c) (fun _ _ _ k => k) (fun _ _ _ k => k.elim))
  have hf2 := DD2.out.form
  have hn2 := DD2.out.neg
  have he2 := DD2.out.exp
  have y0 := DD2.out.num.blk.free 0
  have y1 := DD2.out.num.blk.free 1
  have y2 := DD2.out.num.blk.free 2
  have D3 := Aside.mk (DD2.out.setExp 0)
  have F3 := Aside.mk (F2.out.setD 2 (.int .i32 0))
  have hS := Lib.hid (bSetInt64 0 (Nat.le_trans HG.out.size F3.out.size) D3.out.num (by omega) (by omega))
  clear hf hn he z0 z1 z2 f2
  go_wp2_with fail
  refine hS.out.mono ?_
  rintro e1 w3 ⟨a3, c3, rfl, s1, s2, s3⟩
  have D4 := D3.out.put s1 s2
  have F4 := Aside.mk (F3.out.trans' s2 (U := dfoot b a c) (fun _ _ _ k => k) (fun x y _ k => ifoot_d x y k))
  have hf3 := D4.form
  have y3 := D4.num.blk.free 0
  have D5 := Aside.mk (D4.setForm 3)
  have F5 := Aside.mk (F4.out.setD 0 (.int .i8 3))
  have O5 := Aside.mk (s3.older (w := w') F3.out.size)
  clear D4 s1 s2 s3 hf2 hn2 he2 y0 y1 y2 hS
  go_wp2_with fail
  refine (P1.out _).mono ?_
  rintro e1 w4 ⟨rfl, rfl⟩
  go_wp2_with fail
  refine (P2.out _).mono ?_
  rintro e1 w4 ⟨rfl, rfl⟩
  go_wp2_with fail
  refine (C3.out _).mono ?_
  rintro e1 w4 ⟨rfl, rfl⟩
  go_wp2_with fail
  refine (C4.out _).mono ?_
  rintro e1 w4 ⟨rfl, rfl⟩
  go_wp2_with fail
  go_ret2
  exact ⟨a3, c3, rfl, D5.out, F5.out, O5.out⟩
set_option maxRecDepth 100000 in
set_option maxHeartbeats 8000000 in
theorem setString_snan0 {w : World} {b : Nat} {f e : Int} {n ng : Bool} {a : Option Addr} {c X : Nat} {s : ByteArray} {r : List UInt8} (g : Gv w) (h : DA w b f n e a c X) (hsg : sgnR s.data.toList = (ng, r)) (hasc : ∀ x ∈ r, x.toNat < 128) (hs : s.size ≤ 1000) (hU : Lib.toLowerA r = 115 :: 110 :: 97 :: 110 :: []) :
    Calls Tryz.prog 59 #[.pointer (some ⟨b, 0, none⟩), .pointer (some ⟨0, 0, none⟩), .string s] w fun e1 w' => ∃ a' c', e1 = .returned (.tuple #[.int .u32 0, .nilIface]) ∧ DA w' b 2 ng 0 a' c' 0 ∧ Fr (dfoot b a c) w w' ∧ Out w a c a' c' := by
  have hcb : 0 ≠ b := by rintro rfl; exact absurd h.num.blk.1 (by decide)
  have hap : ∀ o, ¬ foot a c 0 o := fun o k => absurd (h.num.nt.reg.lo _ _ k) (by decide)
  obtain ⟨u, hu⟩ : ∃ u, mk (Lib.toLowerA r) = u := ⟨_, rfl⟩
  have hul : u.data.toList = 115 :: 110 :: 97 :: 110 :: [] := by rw [← hu, mk_toList, hU]
  have hrl : r.length ≤ 1000 := sgn_len hsg hs
  have husz : u.size ≤ 1000 := by rw [← hu, mk_size]; simp [Lib.toLowerA]; exact hrl
  have huasc : ∀ x ∈ u.data.toList, x.toNat < 128 := by rw [← hu, mk_toList]; exact lower_asc hasc
  obtain ⟨s1, C1', C2', hS1⟩ := sgn_calls hsg hs
  have C1 := Lib.hid C1'
  have C2 := Lib.hid C2'
  have CL : Hid (∀ w, Calls Tryz.prog 74 #[.string (mk r)] w fun e w' => e = .returned (.string u) ∧ Aside (Fr (fun _ _ => False) w w')) := Lib.hid (fun w => by
    refine (Tryz.strings_ToLower_ascii (mk r) w (by rw [mk_size]; omega) (fun j y k => hasc _ (List.mem_of_getElem? (by rwa [mk_toList] at k)))).mono ?_
    rintro e w' ⟨rfl, hb⟩
    refine ⟨?_, ⟨Fr.of_below hb⟩⟩
    rw [mk_toList, ← hu]; rfl)
  obtain ⟨u0, hu0⟩ : ∃ u0, mk r = u0 := ⟨_, rfl⟩
  rw [hu0] at C2 CL hS1
  have HS1 := Aside.mk hS1
  clear C1' C2' hS1
  have hP1 : Lib.hasPrefix (115 :: 110 :: 97 :: 110 :: []) [45] = false := by simp [Lib.hasPrefix, List.isPrefixOf]
  have hP2 : Lib.hasPrefix (115 :: 110 :: 97 :: 110 :: []) [43] = false := by simp [Lib.hasPrefix, List.isPrefixOf]
  have P1 : Hid (∀ w, Calls Tryz.prog 76 #[.string u, .string ⟨#[45]⟩] w fun e w' => e = .returned (.bool false) ∧ w' = w) := Lib.hid (fun w => by
    have := Tryz.strings_HasPrefix u ⟨#[45]⟩ w
    rwa [hul, hP1] at this)
  have P2 : Hid (∀ w, Calls Tryz.prog 76 #[.string u, .string ⟨#[43]⟩] w fun e w' => e = .returned (.bool false) ∧ w' = w) := Lib.hid (fun w => by
    have := Tryz.strings_HasPrefix u ⟨#[43]⟩ w
    rwa [hul, hP2] at this)
  have Q1 : (u.toList == [105, 110, 102, 105, 110, 105, 116, 121]) = false := by rw [beq_eq_false_iff_ne, ByteArray.toList_eq, hul]; simp
  have Q2 : (u.toList == [105, 110, 102]) = false := by rw [beq_eq_false_iff_ne, ByteArray.toList_eq, hul]; simp
  have heu : u = mk (115 :: 110 :: 97 :: 110 :: []) := by rw [← hul]; exact mk_of u
  obtain ⟨rr, hrr⟩ : ∃ rr, mk ([] : List UInt8) = rr := ⟨_, rfl⟩
  have hrrl : rr.data.toList = ([] : List UInt8) := by rw [← hrr, mk_toList]
  have C3 := Lib.hid (consume_no u ⟨#[110, 97, 110]⟩ (by rw [hul]; simp [Lib.hasPrefix, List.isPrefixOf]))
  have C4 : Hid (∀ w, Calls Tryz.prog 73 #[.string u, .string ⟨#[115, 110, 97, 110]⟩] w fun e w' => e = .returned (.tuple #[.string rr, .bool true]) ∧ w' = w) := Lib.hid (fun w => by
    refine (consume_yes u ⟨#[115, 110, 97, 110]⟩ (by rw [hul]; simp [Lib.hasPrefix]) (by rw [heu, mk_size]; show 4 ≤ _; simp) (by omega) w).mono ?_
    rintro e w' ⟨rfl, rfl⟩
    refine ⟨?_, rfl⟩
    have e3 : u.extract 4 u.size = rr := by
      rw [heu, mk_extract, mk_size, ← hrr]
      congr 1
      all_goals (first | rfl | (rw [List.take_of_length_le (by simp)]; all_goals rfl))
    rw [← e3]; rfl)
  have Q3 : (rr.toList == []) = true := by rw [ByteArray.toList_eq, hrrl]; rfl
  have hf := h.form
  have hn := h.neg
  have he := h.exp
  have z0 := h.num.blk.free 0
  have z1 := h.num.blk.free 1
  have z2 := h.num.blk.free 2
  have D1 := Aside.mk (h.setNeg ng)
  have F1 := Aside.mk ((Fr.refl (dfoot b a c) w).setD 1 (.bool ng))
  have HC := Aside.mk g.base
  have HG := Aside.mk g.g
  have HE := Aside.mk g.eof
  have HAP := Aside.mk hap
  have HLO := Aside.mk h.lo
  clear h g hap hs hu hul hasc huasc hU hsg hrl hu0 hP1 hP2 heu hrr hrrl
  go_enter Tryz.func59, Tryz.ntmps59
  go_wp2_with fail
  refine (C1.out _).mono ?_
  rintro e1 w' ⟨rfl, rfl⟩
  go_upto_if 34 with fail
  go_cut [2] (fun sv wr => sv = .string u0 ∧ wr = w'.setCell ⟨b, 1, none⟩ (.bool ng))
  case first =>
    cases ng
    · go_wp2_with fail
      refine (C2.out (by trivial) _).mono ?_
      rintro e1 w2 ⟨⟨p, rfl⟩, rfl⟩
      go_wp2_with fail
      go_meet
      exact ⟨rfl, rfl⟩
    · go_wp2_with fail
      go_meet
      exact ⟨by rw [HS1.out (by trivial)], rfl⟩
  case rest =>
  obtain ⟨rfl, rfl⟩ := hcut
  go_wp2_with fail
  refine (CL.out _).mono ?_
  rintro e1 w2 ⟨rfl, f2⟩
  have DD2 := Aside.mk (D1.out.fr f2.out (fun _ _ _ k => k))
  have F2 := Aside.mk (F1.out.trans' f2.out (U := dfoot b a c) (fun _ _ _ k => k) (fun _ _ _ k => k.elim))
  have hf2 := DD2.out.form
  have hn2 := DD2.out.neg
  have he2 := DD2.out.exp
  have y0 := DD2.out.num.blk.free 0
  have y1 := DD2.out.num.blk.free 1
  have y2 := DD2.out.num.blk.free 2
  have D3 := Aside.mk (DD2.out.setExp 0)
  have F3 := Aside.mk (F2.out.setD 2 (.int .i32 0))
  have hS := Lib.hid (bSetInt64 0 (Nat.le_trans HG.out.size F3.out.size) D3.out.num (by omega) (by omega))
  clear hf hn he z0 z1 z2 f2
  go_wp2_with fail
  refine hS.out.mono ?_
  rintro e1 w3 ⟨a3, c3, rfl, s1, s2, s3⟩
  have D4 := D3.out.put s1 s2
  have F4 := Aside.mk (F3.out.trans' s2 (U := dfoot b a c) (fun _ _ _ k => k) (fun x y _ k => ifoot_d x y k))
  have hf3 := D4.form
  have y3 := D4.num.blk.free 0
  have D5 := Aside.mk (D4.setForm 3)
  have F5 := Aside.mk (F4.out.setD 0 (.int .i8 3))
  have O5 := Aside.mk (s3.older (w := w') F3.out.size)
  clear D4 s1 s2 s3 hf2 hn2 he2 y0 y1 y2 hS
  go_wp2_with fail
  refine (P1.out _).mono ?_
  rintro e1 w4 ⟨rfl, rfl⟩
  go_wp2_with fail
  refine (P2.out _).mono ?_
  rintro e1 w4 ⟨rfl, rfl⟩
  go_wp2_with fail
  refine (C3.out _).mono ?_
  rintro e1 w4 ⟨rfl, rfl⟩
  go_wp2_with fail
  refine (C4.out _).mono ?_
  rintro e1 w4 ⟨rfl, rfl⟩
  go_wp2_with fail
  go_ret2
  exact ⟨a3, c3, rfl, D5.out.setForm 2, F5.out.setD 0 _, O5.out⟩
end Go.Proofs.YtifkpcijheabhaaGreatDoor
namespace Go.Proofs.YtifkpcijheabhaaGreatDoor
open Go.RowKit

set_option maxRecDepth 100000 in
set_option maxHeartbeats 8000000 in
theorem setString_nan1 {w : World} {b : Nat} {f e : Int} {n ng : Bool} {a : Option Addr} {c X : Nat} {s : ByteArray} {r : List UInt8} {R : List UInt8} (g : Gv w) (h : DA w b f n e a c X) (hsg : sgnR s.data.toList = (ng, r)) (hasc : ∀ x ∈ r, x.toNat < 128) (hs : s.size ≤ 1000) (hU : Lib.toLowerA r = 110 :: 97 :: 110 :: R) (hN2 : Lib.hasPrefix R [115, 110, 97, 110] = false) {v : Nat} (h0 : R ≠ []) (hv : Lib.parseUintB 64 R = .ok v) :
    Calls Tryz.prog 59 #[.pointer (some ⟨b, 0, none⟩), .pointer (some ⟨0, 0, none⟩), .string s] w fun e1 w' => ∃ a' c', e1 = .returned (.tuple #[.int .u32 0, .nilIface]) ∧ DA w' b 3 ng 0 a' c' 0 ∧ Fr (dfoot b a c) w w' ∧ Out w a c a' c' := by
  have hcb : 0 ≠ b := by rintro rfl; exact absurd h.num.blk.1 (by decide)
  have hap : ∀ o, ¬ foot a c 0 o := fun o k => absurd (h.num.nt.reg.lo _ _ k) (by decide)
  obtain ⟨u, hu⟩ : ∃ u, mk (Lib.toLowerA r) = u := ⟨_, rfl⟩
  have hul : u.data.toList = 110 :: 97 :: 110 :: R := by rw [← hu, mk_toList, hU]
  have hrl : r.length ≤ 1000 := sgn_len hsg hs
  have husz : u.size ≤ 1000 := by rw [← hu, mk_size]; simp [Lib.toLowerA]; exact hrl
  have huasc : ∀ x ∈ u.data.toList, x.toNat < 128 := by rw [← hu, mk_toList]; exact lower_asc hasc
  obtain ⟨s1, C1', C2', hS1⟩ := sgn_calls hsg hs
  have C1 := Lib.hid C1'
  have C2 := Lib.hid C2'
  have CL : Hid (∀ w, Calls Tryz.prog 74 #[.string (mk r)] w fun e w' => e = .returned (.string u) ∧ Aside (Fr (fun _ _ => False) w w')) := Lib.hid (fun w => by
    refine (Tryz.strings_ToLower_ascii (mk r) w (by rw [mk_size]; omega) (fun j y k => hasc _ (List.mem_of_getElem? (by rwa [mk_toList] at k)))).mono ?_
    rintro e w' ⟨rfl, hb⟩
    refine ⟨?_, ⟨Fr.of_below hb⟩⟩
    rw [mk_toList, ← hu]; rfl)
  obtain ⟨u0, hu0⟩ : ∃ u0, mk r = u0 := ⟨_, rfl⟩
  rw [hu0] at C2 CL hS1
  have HS1 := Aside.mk hS1
  clear C1' C2' hS1
  have hP1 : Lib.hasPrefix (110 :: 97 :: 110 :: R) [45] = false := by simp [Lib.hasPrefix, List.isPrefixOf]
  have hP2 : Lib.hasPrefix (110 :: 97 :: 110 :: R) [43] = false := by simp [Lib.hasPrefix, List.isPrefixOf]
  have P1 : Hid (∀ w, Calls Tryz.prog 76 #[.string u, .string ⟨#[45]⟩] w fun e w' => e = .returned (.bool false) ∧ w' = w) := Lib.hid (fun w => by
    have := Tryz.strings_HasPrefix u ⟨#[45]⟩ w
    rwa [hul, hP1] at this)
  have P2 : Hid (∀ w, Calls Tryz.prog 76 #[.string u, .string ⟨#[43]⟩] w fun e w' => e = .returned (.bool false) ∧ w' = w) := Lib.hid (fun w => by
    have := Tryz.strings_HasPrefix u ⟨#[43]⟩ w
    rwa [hul, hP2] at this)
  have Q1 : (u.toList == [105, 110, 102, 105, 110, 105, 116, 121]) = false := by rw [beq_eq_false_iff_ne, ByteArray.toList_eq, hul]; simp
  have Q2 : (u.toList == [105, 110, 102]) = false := by rw [beq_eq_false_iff_ne, ByteArray.toList_eq, hul]; simp
  have heu : u = mk (110 :: 97 :: 110 :: R) := by rw [← hul]; exact mk_of u
  obtain ⟨rr, hrr⟩ : ∃ rr, mk R = rr := ⟨_, rfl⟩
  have hrrl : rr.data.toList = R := by rw [← hrr, mk_toList]
  have hRl : R.length ≤ 1000 := by have e2 : u.size = u.data.toList.length := rfl; rw [hul] at e2; simp at e2; omega
  have C3 : Hid (∀ w, Calls Tryz.prog 73 #[.string u, .string ⟨#[110, 97, 110]⟩] w fun e w' => e = .returned (.tuple #[.string rr, .bool true]) ∧ w' = w) := Lib.hid (fun w => by
    refine (consume_yes u ⟨#[110, 97, 110]⟩ (by rw [hul]; simp [Lib.hasPrefix]) (by rw [heu, mk_size]; show 3 ≤ _; simp) (by omega) w).mono ?_
    rintro e w' ⟨rfl, rfl⟩
    refine ⟨?_, rfl⟩
    have e3 : u.extract 3 u.size = rr := by
      rw [heu, mk_extract, mk_size, ← hrr]
      congr 1
      all_goals (first | rfl | (rw [List.take_of_length_le (by simp)]; all_goals rfl))
    rw [← e3]; rfl)
  have C4 := Lib.hid (consume_no rr ⟨#[115, 110, 97, 110]⟩ (by rw [hrrl]; exact hN2))
  have Q3 : (rr.toList == []) = false := by rw [beq_eq_false_iff_ne, ByteArray.toList_eq, hrrl]; exact h0
  have PU : Hid (∀ w1, Calls Tryz.prog 78 #[.string rr, .int .i64 10, .int .i64 64] w1 fun e w2 => e = .returned (.tuple #[.int .u64 v, .nilIface]) ∧ Aside (Fr (fun _ _ => False) w1 w2)) := Lib.hid (fun w1 => by
    rw [← hrr]
    exact parseUint_ok hv hRl)
  have hf := h.form
  have hn := h.neg
  have he := h.exp
  have z0 := h.num.blk.free 0
  have z1 := h.num.blk.free 1
  have z2 := h.num.blk.free 2
  have D1 := Aside.mk (h.setNeg ng)
  have F1 := Aside.mk ((Fr.refl (dfoot b a c) w).setD 1 (.bool ng))
  have HC := Aside.mk g.base
  have HG := Aside.mk g.g
  have HE := Aside.mk g.eof
  have HAP := Aside.mk hap
  have HLO := Aside.mk h.lo
  clear h g hap hs hu hul hasc huasc hU hsg hrl hu0 hP1 hP2 heu hrr hrrl h0 hv hRl hN2
  go_enter Tryz.func59, Tryz.ntmps59
  go_wp2_with fail
  refine (C1.out _).mono ?_
  rintro e1 w' ⟨rfl, rfl⟩
  go_upto_if 34 with fail
  go_cut [2] (fun sv wr => sv = .string u0 ∧ wr = w'.setCell ⟨b, 1, none⟩ (.bool ng))
  case first =>
    cases ng
    · go_wp2_with fail
      refine (C2.out (by trivial) _).mono ?_
      rintro e1 w2 ⟨⟨p, rfl⟩, rfl⟩
      go_wp2_with fail
      go_meet
      exact ⟨rfl, rfl⟩
    · go_wp2_with fail
      go_meet
      exact ⟨by rw [HS1.out (by trivial)], rfl⟩
  case rest =>
  obtain ⟨rfl, rfl⟩ := hcut
  go_wp2_with fail
  refine (CL.out _).mono ?_
  rintro e1 w2 ⟨rfl, f2⟩
  have DD2 := Aside.mk (D1.out.fr f2.out (fun _ _ _ k => k))
  have F2 := Aside.mk (F1.out.trans' f2.out (U := dfoot b a c) (fun _ _ _ k => k) (fun _ _ _ k => k.elim))
  have hf2 := DD2.out.form
  have hn2 := DD2.out.neg
  have he2 := DD2.out.exp
  have y0 := DD2.out.num.blk.free 0
  have y1 := DD2.out.num.blk.free 1
  have y2 := DD2.out.num.blk.free 2
  have D3 := Aside.mk (DD2.out.setExp 0)
  have F3 := Aside.mk (F2.out.setD 2 (.int .i32 0))
  have hS := Lib.hid (bSetInt64 0 (Nat.le_trans HG.out.size F3.out.size) D3.out.num (by omega) (by omega))
  clear hf hn he z0 z1 z2 f2
  go_wp2_with fail
  refine hS.out.mono ?_
  rintro e1 w3 ⟨a3, c3, rfl, s1, s2, s3⟩
  have D4 := D3.out.put s1 s2
  have F4 := Aside.mk (F3.out.trans' s2 (U := dfoot b a c) (fun _ _ _ k => k) (fun x y _ k => ifoot_d x y k))
  have hf3 := D4.form
  have y3 := D4.num.blk.free 0
  have D5 := Aside.mk (D4.setForm 3)
  have F5 := Aside.mk (F4.out.setD 0 (.int .i8 3))
  have O5 := Aside.mk (s3.older (w := w') F3.out.size)
  clear D4 s1 s2 s3 hf2 hn2 he2 y0 y1 y2 hS
  go_wp2_with fail
  refine (P1.out _).mono ?_
  rintro e1 w4 ⟨rfl, rfl⟩
  go_wp2_with fail
  refine (P2.out _).mono ?_
  rintro e1 w4 ⟨rfl, rfl⟩
  go_wp2_with fail
  refine (C3.out _).mono ?_
  rintro e1 w4 ⟨rfl, rfl⟩
  go_wp2_with fail
  refine (C4.out _).mono ?_
  rintro e1 w4 ⟨rfl, rfl⟩
  go_wp2_with fail
  have F6 := F5
  have D6 := D5
  refine (PU.out _).mono ?_
  rintro e1 w7 ⟨rfl, f7⟩
  have F7 := Aside.mk (F6.out.trans' f7.out (U := dfoot b a c) (fun _ _ _ k => k) (fun _ _ _ k => k.elim))
  have D7 := Aside.mk (D6.out.fr f7.out (fun _ _ _ k => k))
  clear f7
  go_wp2_with fail
  go_ret2
  exact ⟨a3, c3, rfl, D7.out, F7.out, O5.out⟩
set_option maxRecDepth 100000 in
set_option maxHeartbeats 8000000 in
theorem setString_nanx {w : World} {b : Nat} {f e : Int} {n ng : Bool} {a : Option Addr} {c X : Nat} {s : ByteArray} {r : List UInt8} {R : List UInt8} (g : Gv w) (h : DA w b f n e a c X) (hsg : sgnR s.data.toList = (ng, r)) (hasc : ∀ x ∈ r, x.toNat < 128) (hs : s.size ≤ 1000) (hU : Lib.toLowerA r = 110 :: 97 :: 110 :: R) (hN2 : Lib.hasPrefix R [115, 110, 97, 110] = false) (h0 : R ≠ []) (hv : ∀ v, Lib.parseUintB 64 R = .ok v → False) (hSy : SyV w) :
    Calls Tryz.prog 59 #[.pointer (some ⟨b, 0, none⟩), .pointer (some ⟨0, 0, none⟩), .string s] w fun e1 w' => ∃ p, e1 = .returned (.tuple #[.int .u32 0, .iface 150 (.pointer (some p))]) ∧ Fr (dfoot b a c) w w' := by
  have hcb : 0 ≠ b := by rintro rfl; exact absurd h.num.blk.1 (by decide)
  have hap : ∀ o, ¬ foot a c 0 o := fun o k => absurd (h.num.nt.reg.lo _ _ k) (by decide)
  obtain ⟨u, hu⟩ : ∃ u, mk (Lib.toLowerA r) = u := ⟨_, rfl⟩
  have hul : u.data.toList = 110 :: 97 :: 110 :: R := by rw [← hu, mk_toList, hU]
  have hrl : r.length ≤ 1000 := sgn_len hsg hs
  have husz : u.size ≤ 1000 := by rw [← hu, mk_size]; simp [Lib.toLowerA]; exact hrl
  have huasc : ∀ x ∈ u.data.toList, x.toNat < 128 := by rw [← hu, mk_toList]; exact lower_asc hasc
  obtain ⟨s1, C1', C2', hS1⟩ := sgn_calls hsg hs
  have C1 := Lib.hid C1'
  have C2 := Lib.hid C2'
  have CL : Hid (∀ w, Calls Tryz.prog 74 #[.string (mk r)] w fun e w' => e = .returned (.string u) ∧ Aside (Fr (fun _ _ => False) w w')) := Lib.hid (fun w => by
    refine (Tryz.strings_ToLower_ascii (mk r) w (by rw [mk_size]; omega) (fun j y k => hasc _ (List.mem_of_getElem? (by rwa [mk_toList] at k)))).mono ?_
    rintro e w' ⟨rfl, hb⟩
    refine ⟨?_, ⟨Fr.of_below hb⟩⟩
    rw [mk_toList, ← hu]; rfl)
  obtain ⟨u0, hu0⟩ : ∃ u0, mk r = u0 := ⟨_, rfl⟩
  rw [hu0] at C2 CL hS1
  have HS1 := Aside.mk hS1
  clear C1' C2' hS1
  have hP1 : Lib.hasPrefix (110 :: 97 :: 110 :: R) [45] = false := by simp [Lib.hasPrefix, List.isPrefixOf]
  have hP2 : Lib.hasPrefix (110 :: 97 :: 110 :: R) [43] = false := by simp [Lib.hasPrefix, List.isPrefixOf]
  have P1 : Hid (∀ w, Calls Tryz.prog 76 #[.string u, .string ⟨#[45]⟩] w fun e w' => e = .returned (.bool false) ∧ w' = w) := Lib.hid (fun w => by
    have := Tryz.strings_HasPrefix u ⟨#[45]⟩ w
    rwa [hul, hP1] at this)
  have P2 : Hid (∀ w, Calls Tryz.prog 76 #[.string u, .string ⟨#[43]⟩] w fun e w' => e = .returned (.bool false) ∧ w' = w) := Lib.hid (fun w => by
    have := Tryz.strings_HasPrefix u ⟨#[43]⟩ w
    rwa [hul, hP2] at this)
  have Q1 : (u.toList == [105, 110, 102, 105, 110, 105, 116, 121]) = false := by rw [beq_eq_false_iff_ne, ByteArray.toList_eq, hul]; simp
  have Q2 : (u.toList == [105, 110, 102]) = false := by rw [beq_eq_false_iff_ne, ByteArray.toList_eq, hul]; simp
  have heu : u = mk (110 :: 97 :: 110 :: R) := by rw [← hul]; exact mk_of u
  obtain ⟨rr, hrr⟩ : ∃ rr, mk R = rr := ⟨_, rfl⟩
  have hrrl : rr.data.toList = R := by rw [← hrr, mk_toList]
  have hRl : R.length ≤ 1000 := by have e2 : u.size = u.data.toList.length := rfl; rw [hul] at e2; simp at e2; omega
  have C3 : Hid (∀ w, Calls Tryz.prog 73 #[.string u, .string ⟨#[110, 97, 110]⟩] w fun e w' => e = .returned (.tuple #[.string rr, .bool true]) ∧ w' = w) := Lib.hid (fun w => by
    refine (consume_yes u ⟨#[110, 97, 110]⟩ (by rw [hul]; simp [Lib.hasPrefix]) (by rw [heu, mk_size]; show 3 ≤ _; simp) (by omega) w).mono ?_
    rintro e w' ⟨rfl, rfl⟩
    refine ⟨?_, rfl⟩
    have e3 : u.extract 3 u.size = rr := by
      rw [heu, mk_extract, mk_size, ← hrr]
      congr 1
      all_goals (first | rfl | (rw [List.take_of_length_le (by simp)]; all_goals rfl))
    rw [← e3]; rfl)
  have C4 := Lib.hid (consume_no rr ⟨#[115, 110, 97, 110]⟩ (by rw [hrrl]; exact hN2))
  have Q3 : (rr.toList == []) = false := by rw [beq_eq_false_iff_ne, ByteArray.toList_eq, hrrl]; exact h0
  have PU : Hid (∀ w1, Fr (dfoot b a c) w w1 → Calls Tryz.prog 78 #[.string rr, .int .i64 10, .int .i64 64] w1 fun e w2 => ∃ x T p, e = .returned (.tuple #[.int .u64 x, .iface T (.pointer (some p))]) ∧ Aside (Fr (fun _ _ => False) w1 w2)) := Lib.hid (fun w1 q => by
    rw [← hrr]
    exact parseUint_bad hv hRl (hSy.fr g.g.size q h.lo))
  have hf := h.form
  have hn := h.neg
  have he := h.exp
  have z0 := h.num.blk.free 0
  have z1 := h.num.blk.free 1
  have z2 := h.num.blk.free 2
  have D1 := Aside.mk (h.setNeg ng)
  have F1 := Aside.mk ((Fr.refl (dfoot b a c) w).setD 1 (.bool ng))
  have HC := Aside.mk g.base
  have HG := Aside.mk g.g
  have HE := Aside.mk g.eof
  have HAP := Aside.mk hap
  have HLO := Aside.mk h.lo
  clear h g hap hs hu hul hasc huasc hU hsg hrl hu0 hP1 hP2 heu hrr hrrl h0 hv hRl hN2 hSy
  go_enter Tryz.func59, Tryz.ntmps59
  go_wp2_with fail
  refine (C1.out _).mono ?_
  rintro e1 w' ⟨rfl, rfl⟩
  go_upto_if 34 with fail
  go_cut [2] (fun sv wr => sv = .string u0 ∧ wr = w'.setCell ⟨b, 1, none⟩ (.bool ng))
  case first =>
    cases ng
    · go_wp2_with fail
      refine (C2.out (by trivial) _).mono ?_
      rintro e1 w2 ⟨⟨p, rfl⟩, rfl⟩
      go_wp2_with fail
      go_meet
      exact ⟨rfl, rfl⟩
    · go_wp2_with fail
      go_meet
      exact ⟨by rw [HS1.out (by trivial)], rfl⟩
  case rest =>
  obtain ⟨rfl, rfl⟩ := hcut
  go_wp2_with fail
  refine (CL.out _).mono ?_
  rintro e1 w2 ⟨rfl, f2⟩
  have DD2 := Aside.mk (D1.out.fr f2.out (fun _ _ _ k => k))
  have F2 := Aside.mk (F1.out.trans' f2.out (U := dfoot b a c) (fun _ _ _ k => k) (fun _ _ _ k => k.elim))
  have hf2 := DD2.out.form
  have hn2 := DD2.out.neg
  have he2 := DD2.out.exp
  have y0 := DD2.out.num.blk.free 0
  have y1 := DD2.out.num.blk.free 1
  have y2 := DD2.out.num.blk.free 2
  have D3 := Aside.mk (DD2.out.setExp 0)
  have F3 := Aside.mk (F2.out.setD 2 (.int .i32 0))
  have hS := Lib.hid (bSetInt64 0 (Nat.le_trans HG.out.size F3.out.size) D3.out.num (by omega) (by omega))
  clear hf hn he z0 z1 z2 f2
  go_wp2_with fail
  refine hS.out.mono ?_
  rintro e1 w3 ⟨a3, c3, rfl, s1, s2, s3⟩
  have D4 := D3.out.put s1 s2
  have F4 := Aside.mk (F3.out.trans' s2 (U := dfoot b a c) (fun _ _ _ k => k) (fun x y _ k => ifoot_d x y k))
  have hf3 := D4.form
  have y3 := D4.num.blk.free 0
  have D5 := Aside.mk (D4.setForm 3)
  have F5 := Aside.mk (F4.out.setD 0 (.int .i8 3))
  have O5 := Aside.mk (s3.older (w := w') F3.out.size)
  clear D4 s1 s2 s3 hf2 hn2 he2 y0 y1 y2 hS
  go_wp2_with fail
  refine (P1.out _).mono ?_
  rintro e1 w4 ⟨rfl, rfl⟩
  go_wp2_with fail
  refine (P2.out _).mono ?_
  rintro e1 w4 ⟨rfl, rfl⟩
  go_wp2_with fail
  refine (C3.out _).mono ?_
  rintro e1 w4 ⟨rfl, rfl⟩
  go_wp2_with fail
  refine (C4.out _).mono ?_
  rintro e1 w4 ⟨rfl, rfl⟩
  go_wp2_with fail
  have F6 := F5
  have D6 := D5
  refine (PU.out _ F6.out).mono ?_
  rintro e1 w7 ⟨xx, T, p, rfl, f7⟩
  have F7 := Aside.mk (F6.out.trans' f7.out (U := dfoot b a c) (fun _ _ _ k => k) (fun _ _ _ k => k.elim))
  clear f7
  go_wp2_with fail
  refine (errNew _ _).mono ?_
  rintro e1 w8 ⟨rfl, f8⟩
  have F8 := Aside.mk (F7.out.trans' f8 (U := dfoot b a c) (fun _ _ _ k => k) (fun _ _ _ k => k.elim))
  clear f8
  go_wp2_with fail
  go_ret2
  exact ⟨_, rfl, F8.out⟩
set_option maxRecDepth 100000 in
set_option maxHeartbeats 8000000 in
theorem setString_snan1 {w : World} {b : Nat} {f e : Int} {n ng : Bool} {a : Option Addr} {c X : Nat} {s : ByteArray} {r : List UInt8} {R : List UInt8} (g : Gv w) (h : DA w b f n e a c X) (hsg : sgnR s.data.toList = (ng, r)) (hasc : ∀ x ∈ r, x.toNat < 128) (hs : s.size ≤ 1000) (hU : Lib.toLowerA r = 115 :: 110 :: 97 :: 110 :: R) {v : Nat} (h0 : R ≠ []) (hv : Lib.parseUintB 64 R = .ok v) :
    Calls Tryz.prog 59 #[.pointer (some ⟨b, 0, none⟩), .pointer (some ⟨0, 0, none⟩), .string s] w fun e1 w' => ∃ a' c', e1 = .returned (.tuple #[.int .u32 0, .nilIface]) ∧ DA w' b 2 ng 0 a' c' 0 ∧ Fr (dfoot b a c) w w' ∧ Out w a c a' c' := by
  have hcb : 0 ≠ b := by rintro rfl; exact absurd h.num.blk.1 (by decide)
  have hap : ∀ o, ¬ foot a c 0 o := fun o k => absurd (h.num.nt.reg.lo _ _ k) (by decide)
  obtain ⟨u, hu⟩ : ∃ u, mk (Lib.toLowerA r) = u := ⟨_, rfl⟩
  have hul : u.data.toList = 115 :: 110 :: 97 :: 110 :: R := by rw [← hu, mk_toList, hU]
  have hrl : r.length ≤ 1000 := sgn_len hsg hs
  have husz : u.size ≤ 1000 := by rw [← hu, mk_size]; simp [Lib.toLowerA]; exact hrl
  have huasc : ∀ x ∈ u.data.toList, x.toNat < 128 := by rw [← hu, mk_toList]; exact lower_asc hasc
  obtain ⟨s1, C1', C2', hS1⟩ := sgn_calls hsg hs
  have C1 := Lib.hid C1'
  have C2 := Lib.hid C2'
  have CL : Hid (∀ w, Calls Tryz.prog 74 #[.string (mk r)] w fun e w' => e = .returned (.string u) ∧ Aside (Fr (fun _ _ => False) w w')) := Lib.hid (fun w => by
    refine (Tryz.strings_ToLower_ascii (mk r) w (by rw [mk_size]; omega) (fun j y k => hasc _ (List.mem_of_getElem? (by rwa [mk_toList] at k)))).mono ?_
    rintro e w' ⟨rfl, hb⟩
    refine ⟨?_, ⟨Fr.of_below hb⟩⟩
    rw [mk_toList, ← hu]; rfl)
  obtain ⟨u0, hu0⟩ : ∃ u0, mk r = u0 := ⟨_, rfl⟩
  rw [hu0] at C2 CL hS1
  have HS1 := Aside.mk hS1
  clear C1' C2' hS1
  have hP1 : Lib.hasPrefix (115 :: 110 :: 97 :: 110 :: R) [45] = false := by simp [Lib.hasPrefix, List.isPrefixOf]
  have hP2 : Lib.hasPrefix (115 :: 110 :: 97 :: 110 :: R) [43] = false := by simp [Lib.hasPrefix, List.isPrefixOf]
  have P1 : Hid (∀ w, Calls Tryz.prog 76 #[.string u, .string ⟨#[45]⟩] w fun e w' => e = .returned (.bool false) ∧ w' = w) := Lib.hid (fun w => by
    have := Tryz.strings_HasPrefix u ⟨#[45]⟩ w
    rwa [hul, hP1] at this)
  have P2 : Hid (∀ w, Calls Tryz.prog 76 #[.string u, .string ⟨#[43]⟩] w fun e w' => e = .returned (.bool false) ∧ w' = w) := Lib.hid (fun w => by
    have := Tryz.strings_HasPrefix u ⟨#[43]⟩ w
    rwa [hul, hP2] at this)
  have Q1 : (u.toList == [105, 110, 102, 105, 110, 105, 116, 121]) = false := by rw [beq_eq_false_iff_ne, ByteArray.toList_eq, hul]; simp
  have Q2 : (u.toList == [105, 110, 102]) = false := by rw [beq_eq_false_iff_ne, ByteArray.toList_eq, hul]; simp
  have heu : u = mk (115 :: 110 :: 97 :: 110 :: R) := by rw [← hul]; exact mk_of u
  obtain ⟨rr, hrr⟩ : ∃ rr, mk R = rr := ⟨_, rfl⟩
  have hrrl : rr.data.toList = R := by rw [← hrr, mk_toList]
  have hRl : R.length ≤ 1000 := by have e2 : u.size = u.data.toList.length := rfl; rw [hul] at e2; simp at e2; omega
  have C3 := Lib.hid (consume_no u ⟨#[110, 97, 110]⟩ (by rw [hul]; simp [Lib.hasPrefix, List.isPrefixOf]))
  have C4 : Hid (∀ w, Calls Tryz.prog 73 #[.string u, .string ⟨#[115, 110, 97, 110]⟩] w fun e w' => e = .returned (.tuple #[.string rr, .bool true]) ∧ w' = w) := Lib.hid (fun w => by
    refine (consume_yes u ⟨#[115, 110, 97, 110]⟩ (by rw [hul]; simp [Lib.hasPrefix]) (by rw [heu, mk_size]; show 4 ≤ _; simp) (by omega) w).mono ?_
    rintro e w' ⟨rfl, rfl⟩
    refine ⟨?_, rfl⟩
    have e3 : u.extract 4 u.size = rr := by
      rw [heu, mk_extract, mk_size, ← hrr]
      congr 1
      all_goals (first | rfl | (rw [List.take_of_length_le (by simp)]; all_goals rfl))
    rw [← e3]; rfl)
  have Q3 : (rr.toList == []) = false := by rw [beq_eq_false_iff_ne, ByteArray.toList_eq, hrrl]; exact h0
  have PU : Hid (∀ w1, Calls Tryz.prog 78 #[.string rr, .int .i64 10, .int .i64 64] w1 fun e w2 => e = .returned (.tuple #[.int .u64 v, .nilIface]) ∧ Aside (Fr (fun _ _ => False) w1 w2)) := Lib.hid (fun w1 => by
    rw [← hrr]
    exact parseUint_ok hv hRl)
  have hf := h.form
  have hn := h.neg
  have he := h.exp
  have z0 := h.num.blk.free 0
  have z1 := h.num.blk.free 1
  have z2 := h.num.blk.free 2
  have D1 := Aside.mk (h.setNeg ng)
  have F1 := Aside.mk ((Fr.refl (dfoot b a c) w).setD 1 (.bool ng))
  have HC := Aside.mk g.base
  have HG := Aside.mk g.g
  have HE := Aside.mk g.eof
  have HAP := Aside.mk hap
  have HLO := Aside.mk h.lo
  clear h g hap hs hu hul hasc huasc hU hsg hrl hu0 hP1 hP2 heu hrr hrrl h0 hv hRl
  go_enter Tryz.func59, Tryz.ntmps59
  go_wp2_with fail
  refine (C1.out _).mono ?_
  rintro e1 w' ⟨rfl, rfl⟩
  go_upto_if 34 with fail
  go_cut [2] (fun sv wr => sv = .string u0 ∧ wr = w'.setCell ⟨b, 1, none⟩ (.bool ng))
  case first =>
    cases ng
    · go_wp2_with fail
      refine (C2.out (by trivial) _).mono ?_
      rintro e1 w2 ⟨⟨p, rfl⟩, rfl⟩
      go_wp2_with fail
      go_meet
      exact ⟨rfl, rfl⟩
    · go_wp2_with fail
      go_meet
      exact ⟨by rw [HS1.out (by trivial)], rfl⟩
  case rest =>
  obtain ⟨rfl, rfl⟩ := hcut
  go_wp2_with fail
  refine (CL.out _).mono ?_
  rintro e1 w2 ⟨rfl, f2⟩
  have DD2 := Aside.mk (D1.out.fr f2.out (fun _ _ _ k => k))
  have F2 := Aside.mk (F1.out.trans' f2.out (U := dfoot b a c) (fun _ _ _ k => k) (fun _ _ _ k => k.elim))
  have hf2 := DD2.out.form
  have hn2 := DD2.out.neg
  have he2 := DD2.out.exp
  have y0 := DD2.out.num.blk.free 0
  have y1 := DD2.out.num.blk.free 1
  have y2 := DD2.out.num.blk.free 2
  have D3 := Aside.mk (DD2.out.setExp 0)
  have F3 := Aside.mk (F2.out.setD 2 (.int .i32 0))
  have hS := Lib.hid (bSetInt64 0 (Nat.le_trans HG.out.size F3.out.size) D3.out.num (by omega) (by omega))
  clear hf hn he z0 z1 z2 f2
  go_wp2_with fail
  refine hS.out.mono ?_
  rintro e1 w3 ⟨a3, c3, rfl, s1, s2, s3⟩
  have D4 := D3.out.put s1 s2
  have F4 := Aside.mk (F3.out.trans' s2 (U := dfoot b a c) (fun _ _ _ k => k) (fun x y _ k => ifoot_d x y k))
  have hf3 := D4.form
  have y3 := D4.num.blk.free 0
  have D5 := Aside.mk (D4.setForm 3)
  have F5 := Aside.mk (F4.out.setD 0 (.int .i8 3))
  have O5 := Aside.mk (s3.older (w := w') F3.out.size)
  clear D4 s1 s2 s3 hf2 hn2 he2 y0 y1 y2 hS
  go_wp2_with fail
  refine (P1.out _).mono ?_
  rintro e1 w4 ⟨rfl, rfl⟩
  go_wp2_with fail
  refine (P2.out _).mono ?_
  rintro e1 w4 ⟨rfl, rfl⟩
  go_wp2_with fail
  refine (C3.out _).mono ?_
  rintro e1 w4 ⟨rfl, rfl⟩
  go_wp2_with fail
  refine (C4.out _).mono ?_
  rintro e1 w4 ⟨rfl, rfl⟩
  go_wp2_with fail
  have F6 := Aside.mk (F5.out.setD 0 (.int .i8 2))
  have D6 := Aside.mk (D5.out.setForm 2)
  refine (PU.out _).mono ?_
  rintro e1 w7 ⟨rfl, f7⟩
  have F7 := Aside.mk (F6.out.trans' f7.out (U := dfoot b a c) (fun _ _ _ k => k) (fun _ _ _ k => k.elim))
  have D7 := Aside.mk (D6.out.fr f7.out (fun _ _ _ k => k))
  clear f7
  go_wp2_with fail
  go_ret2
  exact ⟨a3, c3, rfl, D7.out, F7.out, O5.out⟩
set_option maxRecDepth 100000 in
set_option maxHeartbeats 8000000 in
theorem setString_snanx {w : World} {b : Nat} {f e : Int} {n ng : Bool} {a : Option Addr} {c X : Nat} {s : ByteArray} {r : List UInt8} {R : List UInt8} (g : Gv w) (h : DA w b f n e a c X) (hsg : sgnR s.data.toList = (ng, r)) (hasc : ∀ x ∈ r, x.toNat < 128) (hs : s.size ≤ 1000) (hU : Lib.toLowerA r = 115 :: 110 :: 97 :: 110 :: R) (h0 : R ≠ []) (hv : ∀ v, Lib.parseUintB 64 R = .ok v → False) (hSy : SyV w) :
    Calls Tryz.prog 59 #[.pointer (some ⟨b, 0, none⟩), .pointer (some ⟨0, 0, none⟩), .string s] w fun e1 w' => ∃ p, e1 = .returned (.tuple #[.int .u32 0, .iface 150 (.pointer (some p))]) ∧ Fr (dfoot b a c) w w' := by
  have hcb : 0 ≠ b := by rintro rfl; exact absurd h.num.blk.1 (by decide)
  have hap : ∀ o, ¬ foot a c 0 o := fun o k => absurd (h.num.nt.reg.lo _ _ k) (by decide)
  obtain ⟨u, hu⟩ : ∃ u, mk (Lib.toLowerA r) = u := ⟨_, rfl⟩
  have hul : u.data.toList = 115 :: 110 :: 97 :: 110 :: R := by rw [← hu, mk_toList, hU]
  have hrl : r.length ≤ 1000 := sgn_len hsg hs
  have husz : u.size ≤ 1000 := by rw [← hu, mk_size]; simp [Lib.toLowerA]; exact hrl
  have huasc : ∀ x ∈ u.data.toList, x.toNat < 128 := by rw [← hu, mk_toList]; exact lower_asc hasc
  obtain ⟨s1, C1', C2', hS1⟩ := sgn_calls hsg hs
  have C1 := Lib.hid C1'
  have C2 := Lib.hid C2'
  have CL : Hid (∀ w, Calls Tryz.prog 74 #[.string (mk r)] w fun e w' => e = .returned (.string u) ∧ Aside (Fr (fun _ _ => False) w w')) := Lib.hid (fun w => by
    refine (Tryz.strings_ToLower_ascii (mk r) w (by rw [mk_size]; omega) (fun j y k => hasc _ (List.mem_of_getElem? (by rwa [mk_toList] at k)))).mono ?_
    rintro e w' ⟨rfl, hb⟩
    refine ⟨?_, ⟨Fr.of_below hb⟩⟩
    rw [mk_toList, ← hu]; rfl)
  obtain ⟨u0, hu0⟩ : ∃ u0, mk r = u0 := ⟨_, rfl⟩
  rw [hu0] at C2 CL hS1
  have HS1 := Aside.mk hS1
  clear C1' C2' hS1
  have hP1 : Lib.hasPrefix (115 :: 110 :: 97 :: 110 :: R) [45] = false := by simp [Lib.hasPrefix, List.isPrefixOf]
  have hP2 : Lib.hasPrefix (115 :: 110 :: 97 :: 110 :: R) [43] = false := by simp [Lib.hasPrefix, List.isPrefixOf]
  have P1 : Hid (∀ w, Calls Tryz.prog 76 #[.string u, .string ⟨#[45]⟩] w fun e w' => e = .returned (.bool false) ∧ w' = w) := Lib.hid (fun w => by
    have := Tryz.strings_HasPrefix u ⟨#[45]⟩ w
    rwa [hul, hP1] at this)
  have P2 : Hid (∀ w, Calls Tryz.prog 76 #[.string u, .string ⟨#[43]⟩] w fun e w' => e = .returned (.bool false) ∧ w' = w) := Lib.hid (fun w => by
    have := Tryz.strings_HasPrefix u ⟨#[43]⟩ w
    rwa [hul, hP2] at this)
  have Q1 : (u.toList == [105, 110, 102, 105, 110, 105, 116, 121]) = false := by rw [beq_eq_false_iff_ne, ByteArray.toList_eq, hul]; simp
  have Q2 : (u.toList == [105, 110, 102]) = false := by rw [beq_eq_false_iff_ne, ByteArray.toList_eq, hul]; simp
  have heu : u = mk (115 :: 110 :: 97 :: 110 :: R) := by rw [← hul]; exact mk_of u
  obtain ⟨rr, hrr⟩ : ∃ rr, mk R = rr := ⟨_, rfl⟩
  have hrrl : rr.data.toList = R := by rw [← hrr, mk_toList]
  have hRl : R.length ≤ 1000 := by have e2 : u.size = u.data.toList.length := rfl; rw [hul] at e2; simp at e2; omega
  have C3 := Lib.hid (consume_no u ⟨#[110, 97, 110]⟩ (by rw [hul]; simp [Lib.hasPrefix, List.isPrefixOf]))
  have C4 : Hid (∀ w, Calls Tryz.prog 73 #[.string u, .string ⟨#[115, 110, 97, 110]⟩] w fun e w' => e = .returned (.tuple #[.string rr, .bool true]) ∧ w' = w) := Lib.hid (fun w => by
    refine (consume_yes u ⟨#[115, 110, 97, 110]⟩ (by rw [hul]; simp [Lib.hasPrefix]) (by rw [heu, mk_size]; show 4 ≤ _; simp) (by omega) w).mono ?_
    rintro e w' ⟨rfl, rfl⟩
    refine ⟨?_, rfl⟩
    have e3 : u.extract 4 u.size = rr := by
      rw [heu, mk_extract, mk_size, ← hrr]
      congr 1
      all_goals (first | rfl | (rw [List.take_of_length_le (by simp)]; all_goals rfl))
    rw [← e3]; rfl)
  have Q3 : (rr.toList == []) = false := by rw [beq_eq_false_iff_ne, ByteArray.toList_eq, hrrl]; exact h0
  have PU : Hid (∀ w1, Fr (dfoot b a c) w w1 → Calls Tryz.prog 78 #[.string rr, .int .i64 10, .int .i64 64] w1 fun e w2 => ∃ x T p, e = .returned (.tuple #[.int .u64 x, .iface T (.pointer (some p))]) ∧ Aside (Fr (fun _ _ => False) w1 w2)) := Lib.hid (fun w1 q => by
    rw [← hrr]
    exact parseUint_bad hv hRl (hSy.fr g.g.size q h.lo))
  have hf := h.form
  have hn := h.neg
  have he := h.exp
  have z0 := h.num.blk.free 0
  have z1 := h.num.blk.free 1
  have z2 := h.num.blk.free 2
  have D1 := Aside.mk (h.setNeg ng)
  have F1 := Aside.mk ((Fr.refl (dfoot b a c) w).setD 1 (.bool ng))
  have HC := Aside.mk g.base
  have HG := Aside.mk g.g
  have HE := Aside.mk g.eof
  have HAP := Aside.mk hap
  have HLO := Aside.mk h.lo
  clear h g hap hs hu hul hasc huasc hU hsg hrl hu0 hP1 hP2 heu hrr hrrl h0 hv hRl hSy
  go_enter Tryz.func59, Tryz.ntmps59
  go_wp2_with fail
  refine (C1.out _).mono ?_
  rintro e1 w' ⟨rfl, rfl⟩
  go_upto_if 34 with fail
  go_cut [2] (fun sv wr => sv = .string u0 ∧ wr = w'.setCell ⟨b, 1, none⟩ (.bool ng))
  case first =>
    cases ng
    · go_wp2_with fail
      refine (C2.out (by trivial) _).mono ?_
      rintro e1 w2 ⟨⟨p, rfl⟩, rfl⟩
      go_wp2_with fail
      go_meet
      exact ⟨rfl, rfl⟩
    · go_wp2_with fail
      go_meet
      exact ⟨by rw [HS1.out (by trivial)], rfl⟩
  case rest =>
  obtain ⟨rfl, rfl⟩ := hcut
  go_wp2_with fail
  refine (CL.out _).mono ?_
  rintro e1 w2 ⟨rfl, f2⟩
  have DD2 := Aside.mk (D1.out.fr f2.out (fun _ _ _ k => k))
  have F2 := Aside.mk (F1.out.trans' f2.out (U := dfoot b a c) (fun _ _ _ k => k) (fun _ _ _ k => k.elim))
  have hf2 := DD2.out.form
  have hn2 := DD2.out.neg
  have he2 := DD2.out.exp
  have y0 := DD2.out.num.blk.free 0
  have y1 := DD2.out.num.blk.free 1
  have y2 := DD2.out.num.blk.free 2
  have D3 := Aside.mk (DD2.out.setExp 0)
  have F3 := Aside.mk (F2.out.setD 2 (.int .i32 0))
  have hS := Lib.hid (bSetInt64 0 (Nat.le_trans HG.out.size F3.out.size) D3.out.num (by omega) (by omega))
  clear hf hn he z0 z1 z2 f2
  go_wp2_with fail
  refine hS.out.mono ?_
  rintro e1 w3 ⟨a3, c3, rfl, s1, s2, s3⟩
  have D4 := D3.out.put s1 s2
  have F4 := Aside.mk (F3.out.trans' s2 (U := dfoot b a c) (fun _ _ _ k => k) (fun x y _ k => ifoot_d x y k))
  have hf3 := D4.form
  have y3 := D4.num.blk.free 0
  have D5 := Aside.mk (D4.setForm 3)
  have F5 := Aside.mk (F4.out.setD 0 (.int .i8 3))
  have O5 := Aside.mk (s3.older (w := w') F3.out.size)
  clear D4 s1 s2 s3 hf2 hn2 he2 y0 y1 y2 hS
  go_wp2_with fail
  refine (P1.out _).mono ?_
  rintro e1 w4 ⟨rfl, rfl⟩
  go_wp2_with fail
  refine (P2.out _).mono ?_
  rintro e1 w4 ⟨rfl, rfl⟩
  go_wp2_with fail
  refine (C3.out _).mono ?_
  rintro e1 w4 ⟨rfl, rfl⟩
  go_wp2_with fail
  refine (C4.out _).mono ?_
  rintro e1 w4 ⟨rfl, rfl⟩
  go_wp2_with fail
  have F6 := Aside.mk (F5.out.setD 0 (.int .i8 2))
  have D6 := Aside.mk (D5.out.setForm 2)
  refine (PU.out _ F6.out).mono ?_
  rintro e1 w7 ⟨xx, T, p, rfl, f7⟩
  have F7 := Aside.mk (F6.out.trans' f7.out (U := dfoot b a c) (fun _ _ _ k => k) (fun _ _ _ k => k.elim))
  clear f7
  go_wp2_with fail
  refine (errNew _ _).mono ?_
  rintro e1 w8 ⟨rfl, f8⟩
  have F8 := Aside.mk (F7.out.trans' f8 (U := dfoot b a c) (fun _ _ _ k => k) (fun _ _ _ k => k.elim))
  clear f8
  go_wp2_with fail
  go_ret2
  exact ⟨_, rfl, F8.out⟩
end Go.Proofs.YtifkpcijheabhaaGreatDoor
