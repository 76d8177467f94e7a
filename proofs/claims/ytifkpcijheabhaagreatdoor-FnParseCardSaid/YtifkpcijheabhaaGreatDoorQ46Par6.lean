/- Decimal.setString: texts that are refused for their sign or their exponent. That setString reads a text as it is meant. -/
import Derived.Test.YtifkpcijheabhaaGreatDoorP40Par1
import Derived.Test.YtifkpcijheabhaaGreatDoorP44Par6s
set_option linter.unusedSimpArgs false
set_option linter.unusedVariables false
namespace Go.Proofs.YtifkpcijheabhaaGreatDoor
open Go.RowKit

set_option maxRecDepth 100000 in
set_option maxHeartbeats 8000000 in
theorem setString_sg1 {w : World} {b : Nat} {f e : Int} {n ng : Bool} {a : Option Addr} {c X : Nat} {s : ByteArray} {r : List UInt8} (g : Gv w) (h : DA w b f n e a c X) (hsg : sgnR s.data.toList = (ng, r)) (hasc : ∀ x ∈ r, x.toNat < 128) (hs : s.size ≤ 1000) (hP1 : Lib.hasPrefix (Lib.toLowerA r) [45] = true) (hU : Lib.toLowerA r = Lib.toLowerA r) :
    Calls Tryz.prog 59 #[.pointer (some ⟨b, 0, none⟩), .pointer (some ⟨0, 0, none⟩), .string s] w fun e1 w' => ∃ p, e1 = .returned (.tuple #[.int .u32 0, .iface 150 (.pointer (some p))]) ∧ Fr (dfoot b a c) w w' := by
  have hcb : 0 ≠ b := by rintro rfl; exact absurd h.num.blk.1 (by decide)
  have hap : ∀ o, ¬ foot a c 0 o := fun o k => absurd (h.num.nt.reg.lo _ _ k) (by decide)
  obtain ⟨u, hu⟩ : ∃ u, mk (Lib.toLowerA r) = u := ⟨_, rfl⟩
  have hul : u.data.toList = Lib.toLowerA r := by rw [← hu, mk_toList, hU]
  have hrl : r.length ≤ 1000 := sgn_len hsg hs
  have husz : u.size ≤ 1000 := by rw [← hu, mk_size]; simp [Lib.toLowerA]; exact hrl
  have huasc : ∀ x ∈ u.data.toList, x.toNat < 128 := by rw [← hu, mk_toList]; exact lower_asc hasc
  obtain ⟨s1, C1', C2', hS1⟩ := sgn_calls hsg hs
  have C1 := Lib.hid C1'
  have C2 := Lib.hid C2'
  have CL : Hid (∀ w, Calls Tryz.prog 74 #[.string (mk r)] w fun e w' => e = .returned (.string u) ∧ Aside (Fr (fun _ _ => False) w w')) := Lib.hid (fun w => by
    refine (Tryz.strings_ToLower_ascii (mk r) w (by rw [mk_size]; omega) (fun j y k => hasc _ (List.mem_of_getElem? (by rwa [mk_toList] at k)))).mono ?_
    rintro e w' ⟨rfl, hb⟩
    refine ⟨?_, ⟨Fr.of_below hb⟩⟩
    rw [mk_toList, ← hu]; rfl)
  obtain ⟨u0, hu0⟩ : ∃ u0, mk r = u0 := ⟨_, rfl⟩
  rw [hu0] at C2 CL hS1
  have HS1 := Aside.mk hS1
  clear C1' C2' hS1
  have P1 : Hid (∀ w, Calls Tryz.prog 76 #[.string u, .string ⟨#[45]⟩] w fun e w' => e = .returned (.bool true) ∧ w' = w) := Lib.hid (fun w => by
    have := Tryz.strings_HasPrefix u ⟨#[45]⟩ w
    rwa [hul, hP1] at this)
  have hf := h.form
  have hn := h.neg
  have he := h.exp
  have z0 := h.num.blk.free 0
  have z1 := h.num.blk.free 1
  have z2 := h.num.blk.free 2
  have D1 := Aside.mk (h.setNeg ng)
  have F1 := Aside.mk ((Fr.refl (dfoot b a c) w).setD 1 (.bool ng))
  have HC := Aside.mk g.base
  have HG := Aside.mk g.g
  have HE := Aside.mk g.eof
  have HAP := Aside.mk hap
  have HLO := Aside.mk h.lo
  clear h g hap hs hu hul hasc huasc hU hsg hrl hu0 hP1
  go_enter Tryz.func59, Tryz.ntmps59
  go_wp2_with fail
  refine (C1.out _).mono ?_
  rintro e1 w' ⟨rfl, rfl⟩
  go_upto_if 34 with fail
  go_cut [2] (fun sv wr => sv = .string u0 ∧ wr = w'.setCell ⟨b, 1, none⟩ (.bool ng))
  case first =>
    cases ng
    · go_wp2_with fail
      refine (C2.out (by trivial) _).mono ?_
      rintro e1 w2 ⟨⟨p, rfl⟩, rfl⟩
      go_wp2_with fail
      go_meet
      exact ⟨rfl, rfl⟩
    · go_wp2_with fail
      go_meet
      exact ⟨by rw [HS1.out (by trivial)], rfl⟩
  case rest =>
  obtain ⟨rfl, rfl⟩ := hcut
  go_wp2_with fail
  refine (CL.out _).mono ?_
  rintro e1 w2 ⟨rfl, f2⟩
  have DD2 := Aside.mk (D1.out.fr f2.out (fun _ _ _ k => k))
  have F2 := Aside.mk (F1.out.trans' f2.out (U := dfoot b a c) (fun _ _ _ k => k) (fun _ _ _ k => k.elim))
  have hf2 := DD2.out.form
  have hn2 := DD2.out.neg
  have he2 := DD2.out.exp
  have y0 := DD2.out.num.blk.free 0
  have y1 := DD2.out.num.blk.free 1
  have y2 := DD2.out.num.blk.free 2
  have D3 := Aside.mk (DD2.out.setExp 0)
  have F3 := Aside.mk (F2.out.setD 2 (.int .i32 0))
  have hS := Lib.hid (bSetInt64 0 (Nat.le_trans HG.out.size F3.out.size) D3.out.num (by omega) (by omega))
  clear hf hn he z0 z1 z2 f2
  go_wp2_with fail
  refine hS.out.mono ?_
  rintro e1 w3 ⟨a3, c3, rfl, s1, s2, s3⟩
  have D4 := D3.out.put s1 s2
  have F4 := Aside.mk (F3.out.trans' s2 (U := dfoot b a c) (fun _ _ _ k => k) (fun x y _ k => ifoot_d x y k))
  have hf3 := D4.form
  have y3 := D4.num.blk.free 0
  have D5 := Aside.mk (D4.setForm 3)
  have F5 := Aside.mk (F4.out.setD 0 (.int .i8 3))
  have O5 := Aside.mk (s3.older (w := w') F3.out.size)
  clear D4 s1 s2 s3 hf2 hn2 he2 y0 y1 y2 hS
  go_wp2_with fail
  refine (P1.out _).mono ?_
  rintro e1 w4 ⟨rfl, rfl⟩
  go_wp2_with fail
  refine (errNew _ _).mono ?_
  rintro e1 w8 ⟨rfl, f8⟩
  have F8 := Aside.mk (F5.out.trans' f8 (U := dfoot b a c) (fun _ _ _ k => k) (fun _ _ _ k => k.elim))
  clear f8
  go_wp2_with fail
  go_ret2
  exact ⟨_, rfl, F8.out⟩
set_option maxRecDepth 100000 in
set_option maxHeartbeats 8000000 in
theorem setString_sg2 {w : World} {b : Nat} {f e : Int} {n ng : Bool} {a : Option Addr} {c X : Nat} {s : ByteArray} {r : List UInt8} (g : Gv w) (h : DA w b f n e a c X) (hsg : sgnR s.data.toList = (ng, r)) (hasc : ∀ x ∈ r, x.toNat < 128) (hs : s.size ≤ 1000) (hP1 : Lib.hasPrefix (Lib.toLowerA r) [45] = false) (hP2 : Lib.hasPrefix (Lib.toLowerA r) [43] = true) (hU : Lib.toLowerA r = Lib.toLowerA r) :
    Calls Tryz.prog 59 #[.pointer (some ⟨b, 0, none⟩), .pointer (some ⟨0, 0, none⟩), .string s] w fun e1 w' => ∃ p, e1 = .returned (.tuple #[.int .u32 0, .iface 150 (.pointer (some p))]) ∧ Fr (dfoot b a c) w w' := by
  have hcb : 0 ≠ b := by rintro rfl; exact absurd h.num.blk.1 (by decide)
  have hap : ∀ o, ¬ foot a c 0 o := fun o k => absurd (h.num.nt.reg.lo _ _ k) (by decide)
  obtain ⟨u, hu⟩ : ∃ u, mk (Lib.toLowerA r) = u := ⟨_, rfl⟩
  have hul : u.data.toList = Lib.toLowerA r := by rw [← hu, mk_toList, hU]
  have hrl : r.length ≤ 1000 := sgn_len hsg hs
  have husz : u.size ≤ 1000 := by rw [← hu, mk_size]; simp [Lib.toLowerA]; exact hrl
  have huasc : ∀ x ∈ u.data.toList, x.toNat < 128 := by rw [← hu, mk_toList]; exact lower_asc hasc
  obtain ⟨s1, C1', C2', hS1⟩ := sgn_calls hsg hs
  have C1 := Lib.hid C1'
  have C2 := Lib.hid C2'
  have CL : Hid (∀ w, Calls Tryz.prog 74 #[.string (mk r)] w fun e w' => e = .returned (.string u) ∧ Aside (Fr (fun _ _ => False) w w')) := Lib.hid (fun w => by
    refine (Tryz.strings_ToLower_ascii (mk r) w (by rw [mk_size]; omega) (fun j y k => hasc _ (List.mem_of_getElem? (by rwa [mk_toList] at k)))).mono ?_
    rintro e w' ⟨rfl, hb⟩
    refine ⟨?_, ⟨Fr.of_below hb⟩⟩
    rw [mk_toList, ← hu]; rfl)
  obtain ⟨u0, hu0⟩ : ∃ u0, mk r = u0 := ⟨_, rfl⟩
  rw [hu0] at C2 CL hS1
  have HS1 := Aside.mk hS1
  clear C1' C2' hS1
  have P1 : Hid (∀ w, Calls Tryz.prog 76 #[.string u, .string ⟨#[45]⟩] w fun e w' => e = .returned (.bool false) ∧ w' = w) := Lib.hid (fun w => by
    have := Tryz.strings_HasPrefix u ⟨#[45]⟩ w
    rwa [hul, hP1] at this)
  have P2 : Hid (∀ w, Calls Tryz.prog 76 #[.string u, .string ⟨#[43]⟩] w fun e w' => e = .returned (.bool true) ∧ w' = w) := Lib.hid (fun w => by
    have := Tryz.strings_HasPrefix u ⟨#[43]⟩ w
    rwa [hul, hP2] at this)
  have hf := h.form
  have hn := h.neg
  have he := h.exp
  have z0 := h.num.blk.free 0
  have z1 := h.num.blk.free 1
  have z2 := h.num.blk.free 2
  have D1 := Aside.mk (h.setNeg ng)
  have F1 := Aside.mk ((Fr.refl (dfoot b a c) w).setD 1 (.bool ng))
  have HC := Aside.mk g.base
  have HG := Aside.mk g.g
  have HE := Aside.mk g.eof
  have HAP := Aside.mk hap
  have HLO := Aside.mk h.lo
  clear h g hap hs hu hul hasc huasc hU hsg hrl hu0 hP1 hP2
  go_enter Tryz.func59, Tryz.ntmps59
  go_wp2_with fail
  refine (C1.out _).mono ?_
  rintro e1 w' ⟨rfl, rfl⟩
  go_upto_if 34 with fail
  go_cut [2] (fun sv wr => sv = .string u0 ∧ wr = w'.setCell ⟨b, 1, none⟩ (.bool ng))
  case first =>
    cases ng
    · go_wp2_with fail
      refine (C2.out (by trivial) _).mono ?_
      rintro e1 w2 ⟨⟨p, rfl⟩, rfl⟩
      go_wp2_with fail
      go_meet
      exact ⟨rfl, rfl⟩
    · go_wp2_with fail
      go_meet
      exact ⟨by rw [HS1.out (by trivial)], rfl⟩
  case rest =>
  obtain ⟨rfl, rfl⟩ := hcut
  go_wp2_with fail
  refine (CL.out _).mono ?_
  rintro e1 w2 ⟨rfl, f2⟩
  have DD2 := Aside.mk (D1.out.fr f2.out (fun _ _ _ k => k))
  have F2 := Aside.mk (F1.out.trans' f2.out (U := dfoot b a c) (fun _ _ _ k => k) (fun _ _ _ k => k.elim))
  have hf2 := DD2.out.form
  have hn2 := DD2.out.neg
  have he2 := DD2.out.exp
  have y0 := DD2.out.num.blk.free 0
  have y1 := DD2.out.num.blk.free 1
  have y2 := DD2.out.num.blk.free 2
  have D3 := Aside.mk (DD2.out.setExp 0)
  have F3 := Aside.mk (F2.out.setD 2 (.int .i32 0))
  have hS := Lib.hid (bSetInt64 0 (Nat.le_trans HG.out.size F3.out.size) D3.out.num (by omega) (by omega))
  clear hf hn he z0 z1 z2 f2
  go_wp2_with fail
  refine hS.out.mono ?_
  rintro e1 w3 ⟨a3, c3, rfl, s1, s2, s3⟩
  have D4 := D3.out.put s1 s2
  have F4 := Aside.mk (F3.out.trans' s2 (U := dfoot b a c) (fun _ _ _ k => k) (fun x y _ k => ifoot_d x y k))
  have hf3 := D4.form
  have y3 := D4.num.blk.free 0
  have D5 := Aside.mk (D4.setForm 3)
  have F5 := Aside.mk (F4.out.setD 0 (.int .i8 3))
  have O5 := Aside.mk (s3.older (w := w') F3.out.size)
  clear D4 s1 s2 s3 hf2 hn2 he2 y0 y1 y2 hS
  go_wp2_with fail
  refine (P1.out _).mono ?_
  rintro e1 w4 ⟨rfl, rfl⟩
  go_wp2_with fail
  refine (P2.out _).mono ?_
  rintro e1 w4 ⟨rfl, rfl⟩
  go_wp2_with fail
  refine (errNew _ _).mono ?_
  rintro e1 w8 ⟨rfl, f8⟩
  have F8 := Aside.mk (F5.out.trans' f8 (U := dfoot b a c) (fun _ _ _ k => k) (fun _ _ _ k => k.elim))
  clear f8
  go_wp2_with fail
  go_ret2
  exact ⟨_, rfl, F8.out⟩
set_option maxRecDepth 100000 in
set_option maxHeartbeats 8000000 in
theorem setString_fin10x {w : World} {b : Nat} {f e : Int} {n ng : Bool} {a : Option Addr} {c X : Nat} {s : ByteArray} {r : List UInt8} {A R : List UInt8} (g : Gv w) (h : DA w b f n e a c X) (hsg : sgnR s.data.toList = (ng, r)) (hasc : ∀ x ∈ r, x.toNat < 128) (hs : s.size ≤ 1000) (hU : Lib.toLowerA r = A ++ 101 :: R) (hP1 : Lib.hasPrefix (A ++ 101 :: R) [45] = false) (hP2 : Lib.hasPrefix (A ++ 101 :: R) [43] = false) (hQ1 : (A ++ 101 :: R) ≠ [105, 110, 102, 105, 110, 105, 116, 121]) (hQ2 : (A ++ 101 :: R) ≠ [105, 110, 102]) (hN1 : Lib.hasPrefix (A ++ 101 :: R) [110, 97, 110] = false) (hN2 : Lib.hasPrefix (A ++ 101 :: R) [115, 110, 97, 110] = false) (hA : (46 : UInt8) ∉ A) (h101 : (101 : UInt8) ∉ A) (hv : ∀ v, Lib.parseIntB 32 R = .ok v → False) (hSy : SyV w) :
    Calls Tryz.prog 59 #[.pointer (some ⟨b, 0, none⟩), .pointer (some ⟨0, 0, none⟩), .string s] w fun e1 w' => ∃ p, e1 = .returned (.tuple #[.int .u32 0, .iface 150 (.pointer (some p))]) ∧ Fr (dfoot b a c) w w' := by
  have hcb : 0 ≠ b := by rintro rfl; exact absurd h.num.blk.1 (by decide)
  have hap : ∀ o, ¬ foot a c 0 o := fun o k => absurd (h.num.nt.reg.lo _ _ k) (by decide)
  obtain ⟨u, hu⟩ : ∃ u, mk (Lib.toLowerA r) = u := ⟨_, rfl⟩
  have hul : u.data.toList = A ++ 101 :: R := by rw [← hu, mk_toList, hU]
  have hrl : r.length ≤ 1000 := sgn_len hsg hs
  have husz : u.size ≤ 1000 := by rw [← hu, mk_size]; simp [Lib.toLowerA]; exact hrl
  have huasc : ∀ x ∈ u.data.toList, x.toNat < 128 := by rw [← hu, mk_toList]; exact lower_asc hasc
  obtain ⟨s1, C1', C2', hS1⟩ := sgn_calls hsg hs
  have C1 := Lib.hid C1'
  have C2 := Lib.hid C2'
  have CL : Hid (∀ w, Calls Tryz.prog 74 #[.string (mk r)] w fun e w' => e = .returned (.string u) ∧ Aside (Fr (fun _ _ => False) w w')) := Lib.hid (fun w => by
    refine (Tryz.strings_ToLower_ascii (mk r) w (by rw [mk_size]; omega) (fun j y k => hasc _ (List.mem_of_getElem? (by rwa [mk_toList] at k)))).mono ?_
    rintro e w' ⟨rfl, hb⟩
    refine ⟨?_, ⟨Fr.of_below hb⟩⟩
    rw [mk_toList, ← hu]; rfl)
  obtain ⟨u0, hu0⟩ : ∃ u0, mk r = u0 := ⟨_, rfl⟩
  rw [hu0] at C2 CL hS1
  have HS1 := Aside.mk hS1
  clear C1' C2' hS1
  have P1 : Hid (∀ w, Calls Tryz.prog 76 #[.string u, .string ⟨#[45]⟩] w fun e w' => e = .returned (.bool false) ∧ w' = w) := Lib.hid (fun w => by
    have := Tryz.strings_HasPrefix u ⟨#[45]⟩ w
    rwa [hul, hP1] at this)
  have P2 : Hid (∀ w, Calls Tryz.prog 76 #[.string u, .string ⟨#[43]⟩] w fun e w' => e = .returned (.bool false) ∧ w' = w) := Lib.hid (fun w => by
    have := Tryz.strings_HasPrefix u ⟨#[43]⟩ w
    rwa [hul, hP2] at this)
  have C3 := Lib.hid (consume_no u ⟨#[110, 97, 110]⟩ (by rw [hul]; exact hN1))
  have C4 := Lib.hid (consume_no u ⟨#[115, 110, 97, 110]⟩ (by rw [hul]; exact hN2))
  have Q1 : (u.toList == [105, 110, 102, 105, 110, 105, 116, 121]) = false := by rw [beq_eq_false_iff_ne, ByteArray.toList_eq, hul]; exact hQ1
  have Q2 : (u.toList == [105, 110, 102]) = false := by rw [beq_eq_false_iff_ne, ByteArray.toList_eq, hul]; exact hQ2
  obtain ⟨ml, hml⟩ : ∃ x, (A).length = x := ⟨_, rfl⟩
  obtain ⟨y, hy⟩ : ∃ y, mk (A) = y := ⟨_, rfl⟩
  have hyl : y.data.toList = A := by rw [← hy, mk_toList]
  have hus : u.size = ml + 1 + R.length := by
    have e1 : u.size = u.data.toList.length := rfl
    rw [e1, hul, List.length_append, List.length_cons, hml]; omega
  have hye : u.extract 0 ml = y := by
    conv => lhs; rw [mk_of u, hul]
    rw [mk_extract, ← hy, ← hml, List.drop_zero, Nat.sub_zero, List.take_left]
  have hyr : u.extract (ml + 1) u.size = mk R := by
    have e1 : u.size = (A ++ 101 :: R).length := by rw [← hul]; rfl
    rw [e1]
    conv => lhs; rw [mk_of u, hul]
    rw [mk_extract, ← hml]; congr 1
    rw [List.take_of_length_le (by simp <;> omega), ← List.drop_drop, List.drop_left]
    all_goals rfl
  have I1 : Hid (∀ w, Calls Tryz.prog 79 #[.string u, .int .u8 101] w fun e w' => e = .returned (.int .i64 (ml : Nat)) ∧ w' = w) := Lib.hid (fun w => by
    have := Tryz.strings_IndexByte u 101 w
    rwa [hul, show (101 : Int).toNat.toUInt8 = 101 from rfl, indexByte_at _ _ _ h101, hml] at this)
  have hul1 : ml + 1 ≤ u.size := by omega
  have hyb : y.size ≤ 1000 := by
    have e1 : y.size = y.data.toList.length := rfl
    rw [e1, hyl, hml]; omega
  have PI : Hid (∀ w1, Fr (dfoot b a c) w w1 → Calls Tryz.prog 80 #[.string (u.extract (ml + 1) u.size), .int .i64 10, .int .i64 32] w1 fun e w2 => ∃ x T p, e = .returned (.tuple #[.int .i64 x, .iface T (.pointer (some p))]) ∧ Aside (Fr (fun _ _ => False) w1 w2)) := Lib.hid (fun w1 k => by
    rw [hyr]
    exact parseInt_bad hv (by have := hus; omega) (hSy.fr g.g.size k h.lo))
  have fm : ∀ w, (Instr.makeSlice 123 (.int .i64 0) (.int .i64 2)).run Tryz.prog w = .ok (.slice (some ⟨w.heap.size, 0, none⟩) 0 2) (w.alloc (.cells #[.int .i64 0, .int .i64 0] 2)) := fun _ => by kernel_rfl
  have hf := h.form
  have hn := h.neg
  have he := h.exp
  have z0 := h.num.blk.free 0
  have z1 := h.num.blk.free 1
  have z2 := h.num.blk.free 2
  have D1 := Aside.mk (h.setNeg ng)
  have F1 := Aside.mk ((Fr.refl (dfoot b a c) w).setD 1 (.bool ng))
  have HC := Aside.mk g.base
  have HG := Aside.mk g.g
  have HE := Aside.mk g.eof
  have HAP := Aside.mk hap
  have HLO := Aside.mk h.lo
  have HBAD := Aside.mk hyr
  clear h g hap hs hu hul hasc huasc hU hsg hrl hP1 hP2 hQ1 hQ2 hN1 hN2 hA h101 hu0 hml hy hyl hyr hus hv hSy
  go_enter Tryz.func59, Tryz.ntmps59
  go_wp2_with fail
  refine (C1.out _).mono ?_
  rintro e1 w' ⟨rfl, rfl⟩
  go_upto_if 34 with fail
  go_cut [2] (fun sv wr => sv = .string u0 ∧ wr = w'.setCell ⟨b, 1, none⟩ (.bool ng))
  case first =>
    cases ng
    · go_wp2_with fail
      refine (C2.out (by trivial) _).mono ?_
      rintro e1 w2 ⟨⟨p, rfl⟩, rfl⟩
      go_wp2_with fail
      go_meet
      exact ⟨rfl, rfl⟩
    · go_wp2_with fail
      go_meet
      exact ⟨by rw [HS1.out (by trivial)], rfl⟩
  case rest =>
  obtain ⟨rfl, rfl⟩ := hcut
  go_wp2_with fail
  refine (CL.out _).mono ?_
  rintro e1 w2 ⟨rfl, f2⟩
  have DD2 := Aside.mk (D1.out.fr f2.out (fun _ _ _ k => k))
  have F2 := Aside.mk (F1.out.trans' f2.out (U := dfoot b a c) (fun _ _ _ k => k) (fun _ _ _ k => k.elim))
  have hf2 := DD2.out.form
  have hn2 := DD2.out.neg
  have he2 := DD2.out.exp
  have y0 := DD2.out.num.blk.free 0
  have y1 := DD2.out.num.blk.free 1
  have y2 := DD2.out.num.blk.free 2
  have D3 := Aside.mk (DD2.out.setExp 0)
  have F3 := Aside.mk (F2.out.setD 2 (.int .i32 0))
  have hS := Lib.hid (bSetInt64 0 (Nat.le_trans HG.out.size F3.out.size) D3.out.num (by omega) (by omega))
  clear hf hn he z0 z1 z2 f2
  go_wp2_with fail
  refine hS.out.mono ?_
  rintro e1 w3 ⟨a3, c3, rfl, s1, s2, s3⟩
  have D4 := D3.out.put s1 s2
  have F4 := Aside.mk (F3.out.trans' s2 (U := dfoot b a c) (fun _ _ _ k => k) (fun x y _ k => ifoot_d x y k))
  have hf3 := D4.form
  have y3 := D4.num.blk.free 0
  have D5 := Aside.mk (D4.setForm 3)
  have F5 := Aside.mk (F4.out.setD 0 (.int .i8 3))
  have O5 := Aside.mk (s3.older (w := w') F3.out.size)
  clear D4 s1 s2 s3 hf2 hn2 he2 y0 y1 y2 hS
  go_wp2_with fail
  refine (P1.out _).mono ?_
  rintro e1 w4 ⟨rfl, rfl⟩
  go_wp2_with fail
  refine (P2.out _).mono ?_
  rintro e1 w4 ⟨rfl, rfl⟩
  clear hf3 y3
  go_wp2_with fail
  refine (C3.out _).mono ?_
  rintro e1 w4 ⟨rfl, rfl⟩
  go_wp2_with fail
  refine (C4.out _).mono ?_
  rintro e1 w4 ⟨rfl, rfl⟩
  go_wp2_with fail
  obtain ⟨w5, hw5⟩ : ∃ x, (w3.setCell ⟨b, 0, none⟩ (.int .i8 3)) = x := ⟨_, rfl⟩
  obtain ⟨gb, hgb⟩ : ∃ x, w3.heap.size = x := ⟨_, rfl⟩
  have hgb5 : w5.heap.size = gb := by rw [← hw5, ← hgb]; simp
  rw [hw5] at D5 F5 ⊢
  rw [hgb]
  clear hw5 Q1 Q2 fm hgb
  refine (I1.out _).mono ?_
  rintro e1 w6 ⟨rfl, hw6⟩
  have X0 := Aside.mk (EX.start hgb5 hw6)
  have HGB := Aside.mk hgb5
  clear hw6 hgb5
  go_wp2_with fail
  refine (PI.out _ (F5.out.trans' X0.out.fr (fun _ _ _ k => k) (fun _ _ _ k => k.elim))).mono ?_
  rintro e1 w7 ⟨xx, T, p, rfl, f7⟩
  have F7 := Aside.mk (F5.out.trans' (X0.out.fr.trans f7.out) (U := dfoot b a c) (fun _ _ _ k => k) (fun _ _ _ k => k.elim))
  clear PI f7
  go_wp2_with fail
  refine (errNew _ _).mono ?_
  rintro e1 w8 ⟨rfl, f8⟩
  have F8 := Aside.mk (F7.out.trans' f8 (U := dfoot b a c) (fun _ _ _ k => k) (fun _ _ _ k => k.elim))
  clear f8
  go_wp2_with fail
  go_ret2
  exact ⟨_, rfl, F8.out⟩
set_option maxRecDepth 100000 in
set_option maxHeartbeats 8000000 in
theorem setString_fin11x {w : World} {b : Nat} {f e : Int} {n ng : Bool} {a : Option Addr} {c X : Nat} {s : ByteArray} {r : List UInt8} {A B R : List UInt8} (g : Gv w) (h : DA w b f n e a c X) (hsg : sgnR s.data.toList = (ng, r)) (hasc : ∀ x ∈ r, x.toNat < 128) (hs : s.size ≤ 1000) (hU : Lib.toLowerA r = A ++ 46 :: B ++ 101 :: R) (hP1 : Lib.hasPrefix (A ++ 46 :: B ++ 101 :: R) [45] = false) (hP2 : Lib.hasPrefix (A ++ 46 :: B ++ 101 :: R) [43] = false) (hQ1 : (A ++ 46 :: B ++ 101 :: R) ≠ [105, 110, 102, 105, 110, 105, 116, 121]) (hQ2 : (A ++ 46 :: B ++ 101 :: R) ≠ [105, 110, 102]) (hN1 : Lib.hasPrefix (A ++ 46 :: B ++ 101 :: R) [110, 97, 110] = false) (hN2 : Lib.hasPrefix (A ++ 46 :: B ++ 101 :: R) [115, 110, 97, 110] = false) (hA : (46 : UInt8) ∉ A) (h101 : (101 : UInt8) ∉ A ++ 46 :: B) (hv : ∀ v, Lib.parseIntB 32 R = .ok v → False) (hSy : SyV w) :
    Calls Tryz.prog 59 #[.pointer (some ⟨b, 0, none⟩), .pointer (some ⟨0, 0, none⟩), .string s] w fun e1 w' => ∃ p, e1 = .returned (.tuple #[.int .u32 0, .iface 150 (.pointer (some p))]) ∧ Fr (dfoot b a c) w w' := by
  have hcb : 0 ≠ b := by rintro rfl; exact absurd h.num.blk.1 (by decide)
  have hap : ∀ o, ¬ foot a c 0 o := fun o k => absurd (h.num.nt.reg.lo _ _ k) (by decide)
  obtain ⟨u, hu⟩ : ∃ u, mk (Lib.toLowerA r) = u := ⟨_, rfl⟩
  have hul : u.data.toList = A ++ 46 :: B ++ 101 :: R := by rw [← hu, mk_toList, hU]
  have hrl : r.length ≤ 1000 := sgn_len hsg hs
  have husz : u.size ≤ 1000 := by rw [← hu, mk_size]; simp [Lib.toLowerA]; exact hrl
  have huasc : ∀ x ∈ u.data.toList, x.toNat < 128 := by rw [← hu, mk_toList]; exact lower_asc hasc
  obtain ⟨s1, C1', C2', hS1⟩ := sgn_calls hsg hs
  have C1 := Lib.hid C1'
  have C2 := Lib.hid C2'
  have CL : Hid (∀ w, Calls Tryz.prog 74 #[.string (mk r)] w fun e w' => e = .returned (.string u) ∧ Aside (Fr (fun _ _ => False) w w')) := Lib.hid (fun w => by
    refine (Tryz.strings_ToLower_ascii (mk r) w (by rw [mk_size]; omega) (fun j y k => hasc _ (List.mem_of_getElem? (by rwa [mk_toList] at k)))).mono ?_
    rintro e w' ⟨rfl, hb⟩
    refine ⟨?_, ⟨Fr.of_below hb⟩⟩
    rw [mk_toList, ← hu]; rfl)
  obtain ⟨u0, hu0⟩ : ∃ u0, mk r = u0 := ⟨_, rfl⟩
  rw [hu0] at C2 CL hS1
  have HS1 := Aside.mk hS1
  clear C1' C2' hS1
  have P1 : Hid (∀ w, Calls Tryz.prog 76 #[.string u, .string ⟨#[45]⟩] w fun e w' => e = .returned (.bool false) ∧ w' = w) := Lib.hid (fun w => by
    have := Tryz.strings_HasPrefix u ⟨#[45]⟩ w
    rwa [hul, hP1] at this)
  have P2 : Hid (∀ w, Calls Tryz.prog 76 #[.string u, .string ⟨#[43]⟩] w fun e w' => e = .returned (.bool false) ∧ w' = w) := Lib.hid (fun w => by
    have := Tryz.strings_HasPrefix u ⟨#[43]⟩ w
    rwa [hul, hP2] at this)
  have C3 := Lib.hid (consume_no u ⟨#[110, 97, 110]⟩ (by rw [hul]; exact hN1))
  have C4 := Lib.hid (consume_no u ⟨#[115, 110, 97, 110]⟩ (by rw [hul]; exact hN2))
  have Q1 : (u.toList == [105, 110, 102, 105, 110, 105, 116, 121]) = false := by rw [beq_eq_false_iff_ne, ByteArray.toList_eq, hul]; exact hQ1
  have Q2 : (u.toList == [105, 110, 102]) = false := by rw [beq_eq_false_iff_ne, ByteArray.toList_eq, hul]; exact hQ2
  obtain ⟨ml, hml⟩ : ∃ x, (A ++ 46 :: B).length = x := ⟨_, rfl⟩
  obtain ⟨y, hy⟩ : ∃ y, mk (A ++ 46 :: B) = y := ⟨_, rfl⟩
  have hyl : y.data.toList = A ++ 46 :: B := by rw [← hy, mk_toList]
  have hus : u.size = ml + 1 + R.length := by
    have e1 : u.size = u.data.toList.length := rfl
    rw [e1, hul, List.length_append, List.length_cons, hml]; omega
  have hye : u.extract 0 ml = y := by
    conv => lhs; rw [mk_of u, hul]
    rw [mk_extract, ← hy, ← hml, List.drop_zero, Nat.sub_zero, List.take_left]
  have hyr : u.extract (ml + 1) u.size = mk R := by
    have e1 : u.size = (A ++ 46 :: B ++ 101 :: R).length := by rw [← hul]; rfl
    rw [e1]
    conv => lhs; rw [mk_of u, hul]
    rw [mk_extract, ← hml]; congr 1
    rw [List.take_of_length_le (by simp <;> omega), ← List.drop_drop, List.drop_left]
    all_goals rfl
  have I1 : Hid (∀ w, Calls Tryz.prog 79 #[.string u, .int .u8 101] w fun e w' => e = .returned (.int .i64 (ml : Nat)) ∧ w' = w) := Lib.hid (fun w => by
    have := Tryz.strings_IndexByte u 101 w
    rwa [hul, show (101 : Int).toNat.toUInt8 = 101 from rfl, indexByte_at _ _ _ h101, hml] at this)
  have hul1 : ml + 1 ≤ u.size := by omega
  have hyb : y.size ≤ 1000 := by
    have e1 : y.size = y.data.toList.length := rfl
    rw [e1, hyl, hml]; omega
  have PI : Hid (∀ w1, Fr (dfoot b a c) w w1 → Calls Tryz.prog 80 #[.string (u.extract (ml + 1) u.size), .int .i64 10, .int .i64 32] w1 fun e w2 => ∃ x T p, e = .returned (.tuple #[.int .i64 x, .iface T (.pointer (some p))]) ∧ Aside (Fr (fun _ _ => False) w1 w2)) := Lib.hid (fun w1 k => by
    rw [hyr]
    exact parseInt_bad hv (by have := hus; omega) (hSy.fr g.g.size k h.lo))
  have fm : ∀ w, (Instr.makeSlice 123 (.int .i64 0) (.int .i64 2)).run Tryz.prog w = .ok (.slice (some ⟨w.heap.size, 0, none⟩) 0 2) (w.alloc (.cells #[.int .i64 0, .int .i64 0] 2)) := fun _ => by kernel_rfl
  have hf := h.form
  have hn := h.neg
  have he := h.exp
  have z0 := h.num.blk.free 0
  have z1 := h.num.blk.free 1
  have z2 := h.num.blk.free 2
  have D1 := Aside.mk (h.setNeg ng)
  have F1 := Aside.mk ((Fr.refl (dfoot b a c) w).setD 1 (.bool ng))
  have HC := Aside.mk g.base
  have HG := Aside.mk g.g
  have HE := Aside.mk g.eof
  have HAP := Aside.mk hap
  have HLO := Aside.mk h.lo
  have HBAD := Aside.mk hyr
  clear h g hap hs hu hul hasc huasc hU hsg hrl hP1 hP2 hQ1 hQ2 hN1 hN2 hA h101 hu0 hml hy hyl hyr hus hv hSy
  go_enter Tryz.func59, Tryz.ntmps59
  go_wp2_with fail
  refine (C1.out _).mono ?_
  rintro e1 w' ⟨rfl, rfl⟩
  go_upto_if 34 with fail
  go_cut [2] (fun sv wr => sv = .string u0 ∧ wr = w'.setCell ⟨b, 1, none⟩ (.bool ng))
  case first =>
    cases ng
    · go_wp2_with fail
      refine (C2.out (by trivial) _).mono ?_
      rintro e1 w2 ⟨⟨p, rfl⟩, rfl⟩
      go_wp2_with fail
      go_meet
      exact ⟨rfl, rfl⟩
    · go_wp2_with fail
      go_meet
      exact ⟨by rw [HS1.out (by trivial)], rfl⟩
  case rest =>
  obtain ⟨rfl, rfl⟩ := hcut
  go_wp2_with fail
  refine (CL.out _).mono ?_
  rintro e1 w2 ⟨rfl, f2⟩
  have DD2 := Aside.mk (D1.out.fr f2.out (fun _ _ _ k => k))
  have F2 := Aside.mk (F1.out.trans' f2.out (U := dfoot b a c) (fun _ _ _ k => k) (fun _ _ _ k => k.elim))
  have hf2 := DD2.out.form
  have hn2 := DD2.out.neg
  have he2 := DD2.out.exp
  have y0 := DD2.out.num.blk.free 0
  have y1 := DD2.out.num.blk.free 1
  have y2 := DD2.out.num.blk.free 2
  have D3 := Aside.mk (DD2.out.setExp 0)
  have F3 := Aside.mk (F2.out.setD 2 (.int .i32 0))
  have hS := Lib.hid (bSetInt64 0 (Nat.le_trans HG.out.size F3.out.size) D3.out.num (by omega) (by omega))
  clear hf hn he z0 z1 z2 f2
  go_wp2_with fail
  refine hS.out.mono ?_
  rintro e1 w3 ⟨a3, c3, rfl, s1, s2, s3⟩
  have D4 := D3.out.put s1 s2
  have F4 := Aside.mk (F3.out.trans' s2 (U := dfoot b a c) (fun _ _ _ k => k) (fun x y _ k => ifoot_d x y k))
  have hf3 := D4.form
  have y3 := D4.num.blk.free 0
  have D5 := Aside.mk (D4.setForm 3)
  have F5 := Aside.mk (F4.out.setD 0 (.int .i8 3))
  have O5 := Aside.mk (s3.older (w := w') F3.out.size)
  clear D4 s1 s2 s3 hf2 hn2 he2 y0 y1 y2 hS
  go_wp2_with fail
  refine (P1.out _).mono ?_
  rintro e1 w4 ⟨rfl, rfl⟩
  go_wp2_with fail
  refine (P2.out _).mono ?_
  rintro e1 w4 ⟨rfl, rfl⟩
  clear hf3 y3
  go_wp2_with fail
  refine (C3.out _).mono ?_
  rintro e1 w4 ⟨rfl, rfl⟩
  go_wp2_with fail
  refine (C4.out _).mono ?_
  rintro e1 w4 ⟨rfl, rfl⟩
  go_wp2_with fail
  obtain ⟨w5, hw5⟩ : ∃ x, (w3.setCell ⟨b, 0, none⟩ (.int .i8 3)) = x := ⟨_, rfl⟩
  obtain ⟨gb, hgb⟩ : ∃ x, w3.heap.size = x := ⟨_, rfl⟩
  have hgb5 : w5.heap.size = gb := by rw [← hw5, ← hgb]; simp
  rw [hw5] at D5 F5 ⊢
  rw [hgb]
  clear hw5 Q1 Q2 fm hgb
  refine (I1.out _).mono ?_
  rintro e1 w6 ⟨rfl, hw6⟩
  have X0 := Aside.mk (EX.start hgb5 hw6)
  have HGB := Aside.mk hgb5
  clear hw6 hgb5
  go_wp2_with fail
  refine (PI.out _ (F5.out.trans' X0.out.fr (fun _ _ _ k => k) (fun _ _ _ k => k.elim))).mono ?_
  rintro e1 w7 ⟨xx, T, p, rfl, f7⟩
  have F7 := Aside.mk (F5.out.trans' (X0.out.fr.trans f7.out) (U := dfoot b a c) (fun _ _ _ k => k) (fun _ _ _ k => k.elim))
  clear PI f7
  go_wp2_with fail
  refine (errNew _ _).mono ?_
  rintro e1 w8 ⟨rfl, f8⟩
  have F8 := Aside.mk (F7.out.trans' f8 (U := dfoot b a c) (fun _ _ _ k => k) (fun _ _ _ k => k.elim))
  clear f8
  go_wp2_with fail
  go_ret2
  exact ⟨_, rfl, F8.out⟩
end Go.Proofs.YtifkpcijheabhaaGreatDoor
namespace Go.Proofs.YtifkpcijheabhaaGreatDoor
open Go.RowKit

/-- What setString answers at a text. -/
def Ans (l : List UInt8) (f : Int) (ng : Bool) (e : Int) (s : ByteArray) (ok : Bool) : Prop :=
  (ok = true → ∃ (X f' : Nat), f = (f' : Int) ∧ f' ≤ 3 ∧ s = mk (natText X) ∧ SetOk (mk l) f' ng e X ∧ bl X ≤ 1100 ∧ Sm X ∧ (-60000 ≤ e ∧ e ≤ 60000)) ∧ (ok = false → SetNo (mk l))
theorem ans_fin {l r A B u : List UInt8} {ng ok : Bool} {ev e : Int} {s : ByteArray} {P : (w : World) → Prop}
    (hlen : (A ++ B).length ≤ 300) (hev : -10000 ≤ ev ∧ ev ≤ 10000) (hk : (ok = true ∧ Digs (A ++ B) ∧ A ++ B ≠ [] ∧ e = ev - B.length ∧ s = mk (natText (numOf (A ++ B)))) ∨ (ok = false ∧ ¬ (Digs (A ++ B) ∧ A ++ B ≠ [])))
    (hS : ∀ (w : World) (b : Nat) (f0 e0 : Int) (n0 : Bool) (a : Option Addr) (c X0 : Nat), Gv w → SyV w → DA w b f0 n0 e0 a c X0 →
      Calls Tryz.prog 59 #[.pointer (some ⟨b, 0, none⟩), .pointer (some ⟨0, 0, none⟩), .string (mk l)] w fun e1 w' =>
        (Digs (A ++ B) ∧ A ++ B ≠ [] ∧ ∃ a' c', e1 = .returned (.tuple #[.int .u32 0, .nilIface]) ∧ DA w' b 0 ng (ev - B.length) a' c' (numOf (A ++ B)) ∧ Fr (dfoot b a c) w w' ∧ Out w a c a' c') ∨
        (¬ (Digs (A ++ B) ∧ A ++ B ≠ []) ∧ ∃ p, e1 = .returned (.tuple #[.int .u32 0, .iface 150 (.pointer (some p))]) ∧ Fr (dfoot b a c) w w')) : Ans l 0 ng e s ok := by
  have hB : B.length ≤ 300 := by rw [List.length_append] at hlen; omega
  refine ⟨fun k => ?_, fun k => ?_⟩
  · rcases hk with ⟨_, h2, h3, h4, h5⟩ | ⟨h1, _⟩
    · refine ⟨numOf (A ++ B), 0, rfl, by omega, h5, fun w b f0 e0 n0 a c X0 g sy h => (hS w b f0 e0 n0 a c X0 g sy h).mono ?_, bl_digs3 h2 hlen, sm_digs h2 (by omega), by omega⟩
      rintro e1 w' (⟨_, _, a', c', q1, q2, q3, q4⟩ | ⟨q, _⟩)
      · exact ⟨a', c', q1, by rw [h4]; exact q2, q3, q4⟩
      · exact absurd ⟨h2, h3⟩ q
    · rw [k] at h1; cases h1
  · rcases hk with ⟨h1, _⟩ | ⟨_, h2⟩
    · rw [k] at h1; cases h1
    · refine fun w b f0 e0 n0 a c X0 g sy h => (hS w b f0 e0 n0 a c X0 g sy h).mono ?_
      rintro e1 w' (⟨q1, q2, _⟩ | ⟨_, q⟩)
      · exact absurd ⟨q1, q2⟩ h2
      · exact q
theorem ans_of {l : List UInt8} {f : Int} {ng ok : Bool} {e : Int} {s : ByteArray} (h : SPR l f ng e s ok) (hl : l.length ≤ 300) : Ans l f ng e s ok := by
  obtain ⟨hasc, hng, hk⟩ := h
  obtain ⟨r, hr⟩ : ∃ r, (sgnR l).2 = r := ⟨_, rfl⟩
  have hsg : sgnR (mk l).data.toList = (ng, r) := by rw [mk_toList, hng, ← hr]
  have hsz : (mk l).size ≤ 1000 := by rw [mk_size]; omega
  have hrasc : ∀ x ∈ r, x.toNat < 128 := by
    intro x hx
    rcases sgnR_cases l with ⟨q, h1, h2⟩ | ⟨q, h1, h2⟩ | ⟨h1, _, _⟩
    · rw [h2] at hr; subst hr; exact hasc x (by rw [h1]; exact List.mem_cons_of_mem _ hx)
    · rw [h2] at hr; subst hr; exact hasc x (by rw [h1]; exact List.mem_cons_of_mem _ hx)
    · rw [h1] at hr; subst hr; exact hasc x hx
  have hrl : (Lib.toLowerA r).length ≤ 300 := by
    have : r.length ≤ l.length := by
      rcases sgnR_cases l with ⟨q, h1, h2⟩ | ⟨q, h1, h2⟩ | ⟨h1, _, _⟩
      · rw [h2] at hr; subst hr; rw [h1]; simp
      · rw [h2] at hr; subst hr; rw [h1]; simp
      · rw [h1] at hr; subst hr; exact Nat.le_refl _
    simp [Lib.toLowerA]; omega
  rw [hr] at hk
  rcases hk with ⟨R, hu, hR, hN2, rfl, rfl, rfl, hok⟩ | ⟨R, hu, hR, rfl, rfl, rfl, hok⟩ | ⟨hu, rfl, rfl, rfl, rfl⟩ | ⟨hN1, hN2, hQ2, hQ1, rfl, hfin⟩
  · by_cases h0 : R = []
    · subst h0
      have : ok = true := hok.2 (fun x hx => by simp at hx)
      refine ⟨fun _ => ⟨0, 3, rfl, by omega, nought48, fun w b f0 e0 n0 a c X0 g sy h => setString_nan0 g h hsg hrasc hsz hu, bl_zero0, sm_zero0, by omega⟩, fun k => by rw [this] at k; cases k⟩
    · refine ⟨fun k => ⟨0, 3, rfl, by omega, nought48, fun w b f0 e0 n0 a c X0 g sy h => setString_nan1 g h hsg hrasc hsz hu hN2 h0 (nan_ok (l := l) h0 hR (hok.1 k)), bl_zero0, sm_zero0, by omega⟩, fun k => ?_⟩
      exact fun w b f0 e0 n0 a c X0 g sy h => setString_nanx g h hsg hrasc hsz hu hN2 h0 (fun v hv => by
        have := hok.2 (uintB_digs hv).2.1
        rw [k] at this; cases this) sy
  · by_cases h0 : R = []
    · subst h0
      have : ok = true := hok.2 (fun x hx => by simp at hx)
      refine ⟨fun _ => ⟨0, 2, rfl, by omega, nought48, fun w b f0 e0 n0 a c X0 g sy h => setString_snan0 g h hsg hrasc hsz hu, bl_zero0, sm_zero0, by omega⟩, fun k => by rw [this] at k; cases k⟩
    · refine ⟨fun k => ⟨0, 2, rfl, by omega, nought48, fun w b f0 e0 n0 a c X0 g sy h => setString_snan1 g h hsg hrasc hsz hu h0 (nan_ok (l := l) h0 hR (hok.1 k)), bl_zero0, sm_zero0, by omega⟩, fun k => ?_⟩
      exact fun w b f0 e0 n0 a c X0 g sy h => setString_snanx g h hsg hrasc hsz hu h0 (fun v hv => by
        have := hok.2 (uintB_digs hv).2.1
        rw [k] at this; cases this) sy
  · refine ⟨fun _ => ⟨0, 1, rfl, by omega, nought48, ?_, bl_zero0, sm_zero0, by omega⟩, fun k => by cases k⟩
    rcases hu with hu | hu
    · exact fun w b f0 e0 n0 a c X0 g sy h => setString_inf2 g h hsg hrasc hsz hu
    · exact fun w b f0 e0 n0 a c X0 g sy h => setString_inf1 g h hsg hrasc hsz hu
  · cases hP1 : Lib.hasPrefix (Lib.toLowerA r) [45] with
    | true =>
      obtain ⟨t, ht⟩ := hasP1 hP1
      have : ok = false := fin_sign ht (by decide) hfin
      subst this
      exact ⟨(fun k => by cases k), fun _ w b f0 e0 n0 a c X0 g sy h => setString_sg1 g h hsg hrasc hsz hP1 rfl⟩
    | false =>
    cases hP2 : Lib.hasPrefix (Lib.toLowerA r) [43] with
    | true =>
      obtain ⟨t, ht⟩ := hasP1 hP2
      have : ok = false := fin_sign ht (by decide) hfin
      subst this
      exact ⟨(fun k => by cases k), fun _ w b f0 e0 n0 a c X0 g sy h => setString_sg2 g h hsg hrasc hsz hP1 hP2 rfl⟩
    | false =>
    rcases hfin with ⟨h101, A, B, hAB, hk⟩ | ⟨m, R, h101, hu, hk⟩
    · rcases hAB with ⟨h46, rfl, rfl⟩ | ⟨hm, h46⟩
      · refine ans_fin (r := r) (u := r) (P := fun _ => True) (ev := 0) (B := []) (by simpa using hrl) (by omega) hk ?_
        intro w b f0 e0 n0 a c X0 g sy h
        simp only [List.append_nil, List.length_nil]
        exact setString_fin00 g h hsg hrasc hsz rfl hP1 hP2 hQ1 hQ2 hN1 hN2 h46 h101 (fun q => bl_digs3 q hrl)
      · have hl2 : (A ++ B).length ≤ 300 := by rw [hm] at hrl; simp at hrl ⊢; omega
        refine ans_fin (r := r) (u := r) (P := fun _ => True) (ev := 0) hl2 (by omega) hk ?_
        intro w b f0 e0 n0 a c X0 g sy h
        rw [hm] at hP1 hP2 hQ1 hQ2 hN1 hN2 h101
        rw [Int.zero_sub]
        exact setString_fin01 g h hsg hrasc hsz hm hP1 hP2 hQ1 hQ2 hN1 hN2 h46 h101 (fun q => bl_digs3 q hl2)
    · rw [hu] at hP1 hP2 hQ1 hQ2 hN1 hN2
      have hml : m.length ≤ 300 := by rw [hu] at hrl; simp at hrl; omega
      rcases hk with ⟨rfl, hbad⟩ | ⟨g1, g2, g3, A, B, hAB, hk⟩
      · have hv : ∀ v, Lib.parseIntB 32 R = .ok v → False := fun v q => hbad (intB_digs q)
        by_cases h46 : (46 : UInt8) ∈ m
        · obtain ⟨A, B, hm, hA⟩ : ∃ A B, m = A ++ 46 :: B ∧ (46 : UInt8) ∉ A := List.eq_append_cons_of_mem h46
          refine ⟨(fun k => by cases k), fun _ w b f0 e0 n0 a c X0 g sy h => ?_⟩
          subst hm
          exact setString_fin11x g h hsg hrasc hsz hu hP1 hP2 hQ1 hQ2 hN1 hN2 hA h101 hv sy
        · refine ⟨(fun k => by cases k), fun _ w b f0 e0 n0 a c X0 g sy h => ?_⟩
          exact setString_fin10x g h hsg hrasc hsz hu hP1 hP2 hQ1 hQ2 hN1 hN2 h46 h101 hv sy
      · have hv := intB_ok g1 g2 g3
        have hvb := expV_bd g3
        rcases hAB with ⟨h46, rfl, rfl⟩ | ⟨hm, h46⟩
        · refine ans_fin (r := r) (u := r) (P := fun _ => True) (ev := expV R) (B := []) (by simpa using hml) (by omega) hk ?_
          intro w b f0 e0 n0 a c X0 g sy h
          simp only [List.append_nil, List.length_nil]
          have := setString_fin10 g h hsg hrasc hsz hu hP1 hP2 hQ1 hQ2 hN1 hN2 h46 h101 hv (by omega) (fun q => bl_digs3 q hml)
          have e0 : expV R - ((0 : Nat) : Int) = expV R := by simp
          rw [e0]
          exact this
        · subst hm
          have hl2 : (A ++ B).length ≤ 300 := by simp at hml ⊢; omega
          refine ans_fin (r := r) (u := r) (P := fun _ => True) (ev := expV R) hl2 (by omega) hk ?_
          intro w b f0 e0 n0 a c X0 g sy h
          have e0 : expV R - (B.length : Int) = expV R + -(B.length : Int) := by omega
          rw [e0]
          exact setString_fin11 g h hsg hrasc hsz hu hP1 hP2 hQ1 hQ2 hN1 hN2 h46 h101 hv (by omega) (fun q => bl_digs3 q hl2)
end Go.Proofs.YtifkpcijheabhaaGreatDoor
