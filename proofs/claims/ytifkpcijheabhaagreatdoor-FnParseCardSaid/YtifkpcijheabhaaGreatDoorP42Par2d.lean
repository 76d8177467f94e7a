/- Decimal.setString at finite texts, with an exponent, without point. Decimal.setString at finite texts, with an exponent, with a point. -/
import Derived.Test.YtifkpcijheabhaaGreatDoorP40Par1
set_option linter.unusedSimpArgs false
set_option linter.unusedVariables false
namespace Go.Proofs.YtifkpcijheabhaaGreatDoor
open Go.RowKit

set_option maxRecDepth 100000 in
set_option maxHeartbeats 8000000 in
theorem setString_fin10 {w : World} {b : Nat} {f e : Int} {n ng : Bool} {a : Option Addr} {c X : Nat} {s : ByteArray} {r : List UInt8} {A R : List UInt8} {v : Int} (g : Gv w) (h : DA w b f n e a c X) (hsg : sgnR s.data.toList = (ng, r)) (hasc : ∀ x ∈ r, x.toNat < 128) (hs : s.size ≤ 1000) (hU : Lib.toLowerA r = A ++ 101 :: R) (hP1 : Lib.hasPrefix (A ++ 101 :: R) [45] = false) (hP2 : Lib.hasPrefix (A ++ 101 :: R) [43] = false) (hQ1 : (A ++ 101 :: R) ≠ [105, 110, 102, 105, 110, 105, 116, 121]) (hQ2 : (A ++ 101 :: R) ≠ [105, 110, 102]) (hN1 : Lib.hasPrefix (A ++ 101 :: R) [110, 97, 110] = false) (hN2 : Lib.hasPrefix (A ++ 101 :: R) [115, 110, 97, 110] = false) (hA : (46 : UInt8) ∉ A) (h101 : (101 : UInt8) ∉ A) (hv : Lib.parseIntB 32 R = .ok v) (hv1 : -50000 ≤ v ∧ v ≤ 50000) (hX : Digs A → bl (numOf A) ≤ 1100) :
    Calls Tryz.prog 59 #[.pointer (some ⟨b, 0, none⟩), .pointer (some ⟨0, 0, none⟩), .string s] w fun e1 w' => (Digs A ∧ A ≠ [] ∧ ∃ a' c', e1 = .returned (.tuple #[.int .u32 0, .nilIface]) ∧ DA w' b 0 ng v a' c' (numOf A) ∧ Fr (dfoot b a c) w w' ∧ Out w a c a' c') ∨ (¬ (Digs A ∧ A ≠ []) ∧ ∃ p, e1 = .returned (.tuple #[.int .u32 0, .iface 150 (.pointer (some p))]) ∧ Fr (dfoot b a c) w w') := by
  have hcb : 0 ≠ b := by rintro rfl; exact absurd h.num.blk.1 (by decide)
  have hap : ∀ o, ¬ foot a c 0 o := fun o k => absurd (h.num.nt.reg.lo _ _ k) (by decide)
  obtain ⟨u, hu⟩ : ∃ u, mk (Lib.toLowerA r) = u := ⟨_, rfl⟩
  have hul : u.data.toList = A ++ 101 :: R := by rw [← hu, mk_toList, hU]
  have hrl : r.length ≤ 1000 := sgn_len hsg hs
  have husz : u.size ≤ 1000 := by rw [← hu, mk_size]; simp [Lib.toLowerA]; exact hrl
  have huasc : ∀ x ∈ u.data.toList, x.toNat < 128 := by rw [← hu, mk_toList]; exact lower_asc hasc
  obtain ⟨s1, C1', C2', hS1⟩ := sgn_calls hsg hs
  have C1 := Lib.hid C1'
  have C2 := Lib.hid C2'
  have CL : Hid (∀ w, Calls Tryz.prog 74 #[.string (mk r)] w fun e w' => e = .returned (.string u) ∧ Aside (Fr (fun _ _ => False) w w')) := Lib.hid (fun w => by
    refine (Tryz.strings_ToLower_ascii (mk r) w (by rw [mk_size]; omega) (fun j y k => hasc _ (List.mem_of_getElem? (by rwa [mk_toList] at k)))).mono ?_
    rintro e w' ⟨rfl, hb⟩
    refine ⟨?_, ⟨Fr.of_below hb⟩⟩
    rw [mk_toList, ← hu]; rfl)
  obtain ⟨u0, hu0⟩ : ∃ u0, mk r = u0 := ⟨_, rfl⟩
  rw [hu0] at C2 CL hS1
  have HS1 := Aside.mk hS1
  clear C1' C2' hS1
  have P1 : Hid (∀ w, Calls Tryz.prog 76 #[.string u, .string ⟨#[45]⟩] w fun e w' => e = .returned (.bool false) ∧ w' = w) := Lib.hid (fun w => by
    have := Tryz.strings_HasPrefix u ⟨#[45]⟩ w
    rwa [hul, hP1] at this)
  have P2 : Hid (∀ w, Calls Tryz.prog 76 #[.string u, .string ⟨#[43]⟩] w fun e w' => e = .returned (.bool false) ∧ w' = w) := Lib.hid (fun w => by
    have := Tryz.strings_HasPrefix u ⟨#[43]⟩ w
    rwa [hul, hP2] at this)
  have C3 := Lib.hid (consume_no u ⟨#[110, 97, 110]⟩ (by rw [hul]; exact hN1))
  have C4 := Lib.hid (consume_no u ⟨#[115, 110, 97, 110]⟩ (by rw [hul]; exact hN2))
  have Q1 : (u.toList == [105, 110, 102, 105, 110, 105, 116, 121]) = false := by rw [beq_eq_false_iff_ne, ByteArray.toList_eq, hul]; exact hQ1
  have Q2 : (u.toList == [105, 110, 102]) = false := by rw [beq_eq_false_iff_ne, ByteArray.toList_eq, hul]; exact hQ2
  obtain ⟨ml, hml⟩ : ∃ x, (A).length = x := ⟨_, rfl⟩
  obtain ⟨y, hy⟩ : ∃ y, mk (A) = y := ⟨_, rfl⟩
  have hyl : y.data.toList = A := by rw [← hy, mk_toList]
  have hus : u.size = ml + 1 + R.length := by
    have e1 : u.size = u.data.toList.length := rfl
    rw [e1, hul, List.length_append, List.length_cons, hml]; omega
  have hye : u.extract 0 ml = y := by
    conv => lhs; rw [mk_of u, hul]
    rw [mk_extract, ← hy, ← hml, List.drop_zero, Nat.sub_zero, List.take_left]
  have hyr : u.extract (ml + 1) u.size = mk R := by
    have e1 : u.size = (A ++ 101 :: R).length := by rw [← hul]; rfl
    rw [e1]
    conv => lhs; rw [mk_of u, hul]
    rw [mk_extract, ← hml]; congr 1
    rw [List.take_of_length_le (by simp <;> omega), ← List.drop_drop, List.drop_left]
    all_goals rfl
  have I1 : Hid (∀ w, Calls Tryz.prog 79 #[.string u, .int .u8 101] w fun e w' => e = .returned (.int .i64 (ml : Nat)) ∧ w' = w) := Lib.hid (fun w => by
    have := Tryz.strings_IndexByte u 101 w
    rwa [hul, show (101 : Int).toNat.toUInt8 = 101 from rfl, indexByte_at _ _ _ h101, hml] at this)
  have hul1 : ml + 1 ≤ u.size := by omega
  have hyb : y.size ≤ 1000 := by
    have e1 : y.size = y.data.toList.length := rfl
    rw [e1, hyl, hml]; omega
  have PI : Hid (∀ w1, Calls Tryz.prog 80 #[.string (u.extract (ml + 1) u.size), .int .i64 10, .int .i64 32] w1 fun e w2 => e = .returned (.tuple #[.int .i64 v, .nilIface]) ∧ Aside (Fr (fun _ _ => False) w1 w2)) := Lib.hid (fun w1 => by
    rw [hyr]
    exact parseInt_ok hv (by have := hus; omega))
  have I2 : Hid (∀ w, Calls Tryz.prog 79 #[.string y, .int .u8 46] w fun e w' => e = .returned (.int .i64 (-1)) ∧ w' = w) := Lib.hid (fun w => by
    have := Tryz.strings_IndexByte y 46 w
    rwa [hyl, show (46 : Int).toNat.toUInt8 = 46 from rfl, indexByte_none _ _ hA] at this)
  have hzasc : ∀ x ∈ y.data.toList, x.toNat < 128 := by
    intro x hx
    refine huasc x ?_
    rw [hyl] at hx
    rw [hul]
    exact List.mem_append_left _ hx
  have hzs : y.size ≤ 1000 := by
    have e1 : y.size = y.data.toList.length := rfl
    have e2 : u.size = u.data.toList.length := rfl
    rw [hyl] at e1; rw [hul] at e2
    try simp at e1 e2
    omega
  have HZS := Aside.mk hzs
  have HZA := Aside.mk hzasc
  have HZL := Aside.mk hyl
  have HX := Aside.mk hX
  clear hzasc hX
  have fm : ∀ w, (Instr.makeSlice 123 (.int .i64 0) (.int .i64 2)).run Tryz.prog w = .ok (.slice (some ⟨w.heap.size, 0, none⟩) 0 2) (w.alloc (.cells #[.int .i64 0, .int .i64 0] 2)) := fun _ => by kernel_rfl
  have hf := h.form
  have hn := h.neg
  have he := h.exp
  have z0 := h.num.blk.free 0
  have z1 := h.num.blk.free 1
  have z2 := h.num.blk.free 2
  have D1 := Aside.mk (h.setNeg ng)
  have F1 := Aside.mk ((Fr.refl (dfoot b a c) w).setD 1 (.bool ng))
  have HC := Aside.mk g.base
  have HG := Aside.mk g.g
  have HE := Aside.mk g.eof
  have HAP := Aside.mk hap
  have HLO := Aside.mk h.lo
  clear h g hap hs hu hul hasc huasc hU hsg hrl hP1 hP2 hQ1 hQ2 hN1 hN2 hA h101 hu0 hml hy hyl hyr hus hv
  obtain ⟨hv1, hv2⟩ := hv1
  go_enter Tryz.func59, Tryz.ntmps59
  go_wp2_with fail
  refine (C1.out _).mono ?_
  rintro e1 w' ⟨rfl, rfl⟩
  go_upto_if 34 with fail
  go_cut [2] (fun sv wr => sv = .string u0 ∧ wr = w'.setCell ⟨b, 1, none⟩ (.bool ng))
  case first =>
    cases ng
    · go_wp2_with fail
      refine (C2.out (by trivial) _).mono ?_
      rintro e1 w2 ⟨⟨p, rfl⟩, rfl⟩
      go_wp2_with fail
      go_meet
      exact ⟨rfl, rfl⟩
    · go_wp2_with fail
      go_meet
      exact ⟨by rw [HS1.out (by trivial)], rfl⟩
  case rest =>
  obtain ⟨rfl, rfl⟩ := hcut
  go_wp2_with fail
  refine (CL.out _).mono ?_
  rintro e1 w2 ⟨rfl, f2⟩
  have DD2 := Aside.mk (D1.out.fr f2.out (fun _ _ _ k => k))
  have F2 := Aside.mk (F1.out.trans' f2.out (U := dfoot b a c) (fun _ _ _ k => k) (fun _ _ _ k => k.elim))
  have hf2 := DD2.out.form
  have hn2 := DD2.out.neg
  have he2 := DD2.out.exp
  have y0 := DD2.out.num.blk.free 0
  have y1 := DD2.out.num.blk.free 1
  have y2 := DD2.out.num.blk.free 2
  have D3 := Aside.mk (DD2.out.setExp 0)
  have F3 := Aside.mk (F2.out.setD 2 (.int .i32 0))
  have hS := Lib.hid (bSetInt64 0 (Nat.le_trans HG.out.size F3.out.size) D3.out.num (by omega) (by omega))
  clear hf hn he z0 z1 z2 f2
  go_wp2_with fail
  refine hS.out.mono ?_
  rintro e1 w3 ⟨a3, c3, rfl, s1, s2, s3⟩
  have D4 := D3.out.put s1 s2
  have F4 := Aside.mk (F3.out.trans' s2 (U := dfoot b a c) (fun _ _ _ k => k) (fun x y _ k => ifoot_d x y k))
  have hf3 := D4.form
  have y3 := D4.num.blk.free 0
  have D5 := Aside.mk (D4.setForm 3)
  have F5 := Aside.mk (F4.out.setD 0 (.int .i8 3))
  have O5 := Aside.mk (s3.older (w := w') F3.out.size)
  clear D4 s1 s2 s3 hf2 hn2 he2 y0 y1 y2 hS
  go_wp2_with fail
  refine (P1.out _).mono ?_
  rintro e1 w4 ⟨rfl, rfl⟩
  go_wp2_with fail
  refine (P2.out _).mono ?_
  rintro e1 w4 ⟨rfl, rfl⟩
  clear hf3 y3
  go_wp2_with fail
  refine (C3.out _).mono ?_
  rintro e1 w4 ⟨rfl, rfl⟩
  go_wp2_with fail
  refine (C4.out _).mono ?_
  rintro e1 w4 ⟨rfl, rfl⟩
  go_wp2_with fail
  obtain ⟨w5, hw5⟩ : ∃ x, (w3.setCell ⟨b, 0, none⟩ (.int .i8 3)) = x := ⟨_, rfl⟩
  obtain ⟨gb, hgb⟩ : ∃ x, w3.heap.size = x := ⟨_, rfl⟩
  have hgb5 : w5.heap.size = gb := by rw [← hw5, ← hgb]; simp
  rw [hw5] at D5 F5 ⊢
  rw [hgb]
  clear hw5 Q1 Q2 fm hgb
  refine (I1.out _).mono ?_
  rintro e1 w6 ⟨rfl, hw6⟩
  have X0 := Aside.mk (EX.start hgb5 hw6)
  have HGB := Aside.mk hgb5
  clear hw6 hgb5
  go_wp2_with fail
  refine (PI.out _).mono ?_
  rintro e1 w7 ⟨rfl, f7⟩
  have X1 := Aside.mk (X0.out.new f7.out)
  clear PI f7
  go_wp2_with (at_builtin; go_must (refine wpList_app64 _ rfl (.tmp 108) (.tmp 110) rfl (g := gb) (k := 0) (q := w7.heap.size) (v := v) zero_lt_two rfl rfl (X1.out.cell 0 (by omega) _) (X1.out.free 0 _) (one_cell _ _ _) ?_))
  obtain ⟨w8, hw8⟩ : ∃ x, (w7.alloc (.cells #[.int .i64 v] 2)).setCell ⟨gb, 0, none⟩ (.int .i64 v) = x := ⟨_, rfl⟩
  have X2 : Aside (EX w5 w8 gb [v]) := ⟨by rw [← hw8]; exact X1.out.push0 v _⟩
  rw [hw8]
  clear hw8
  refine (I2.out _).mono ?_
  rintro e1 w9 ⟨rfl, hw9⟩
  rw [← hw9] at X2
  clear hw9
  go_wp2_with fail
  obtain ⟨wb, hwb⟩ : ∃ x, w9 = x := ⟨_, rfl⟩
  have XB : Aside (EX w5 wb gb [v]) := ⟨by rw [← hwb]; exact X2.out⟩
  try rw [hwb]
  clear hwb
  go_loopw [19] (fun _ wr => ∃ k : Nat, k ≤ y.size ∧ Aside (wr = wb.iter y k) ∧ Aside (∀ j (hj : j < y.data.toList.length), j < k → 48 ≤ (y.data.toList[j]).toNat ∧ (y.data.toList[j]).toNat ≤ 57)) (fun _ wr => y.size + 1 - wr.iterPos wb.heap.size)
  case atStart => exact ⟨0, by omega, ⟨rfl⟩, ⟨fun j _ hj => absurd hj (Nat.not_lt_zero _)⟩⟩
  case round =>
    obtain ⟨k, hk, hW, hD⟩ := hrel
    obtain ⟨hW⟩ := hW
    subst hW
    by_cases hl : k < y.size
    · have e3 : y.data.toList[k]'hl = y[k] := rfl
      have hd128 : y[k].toNat < 128 := by rw [← e3]; exact HZA.out _ (List.getElem_mem _)
      have n1 : ∀ ty, (Instr.next (.pointer (some ⟨wb.heap.size, 0, none⟩)) true ty).run Tryz.prog (wb.iter y k) = .ok (.tuple #[.bool true, .int .i64 k, .int .i32 (y[k].toNat : Nat)]) (wb.iter y (k + 1)) := fun ty => run_next_ascii wb y k ty hl hd128
      by_cases hd : 48 ≤ y[k].toNat ∧ y[k].toNat ≤ 57
      · have hDk : Aside (∀ j (hj : j < y.data.toList.length), j < k + 1 → 48 ≤ (y.data.toList[j]).toNat ∧ (y.data.toList[j]).toNat ≤ 57) := ⟨fun j hj hjk => by
          by_cases e : j = k
          · subst e; rw [e3]; exact hd
          · exact hD.out j hj (by omega)⟩
        obtain ⟨ch, hch⟩ : ∃ x, y[k].toNat = x := ⟨_, rfl⟩
        rw [hch] at hd n1
        have q1 : decide ((ch : Int) < 48) = false := by simp; omega
        have q2 : decide (57 < (ch : Int)) = false := by simp; omega
        clear hch hd e3 hd128
        go_wp2_with fail
        go_roundw
        case rel => exact ⟨k + 1, by omega, ⟨rfl⟩, hDk⟩
        case measure =>
          have i1 := World.iterPos_iter wb y k
          have i2 := World.iterPos_iter wb y (k + 1)
          rw [i1, i2]; omega
      · have hno : ¬ (Digs A ∧ A ≠ []) := fun q => hd (by
          have := (HZL.out ▸ q.1 : Digs y.data.toList).get (show k < y.data.toList.length from hl)
          rwa [e3] at this)
        have HNO := Aside.mk hno
        have F10 : Aside (Fr (dfoot b a c) w' (wb.iter y (k + 1))) := ⟨F5.out.trans' (XB.out.fr.alloc _) (fun _ _ _ k => k) (fun _ _ _ k => k.elim)⟩
        obtain ⟨ch, hch⟩ : ∃ x, y[k].toNat = x := ⟨_, rfl⟩
        rw [hch] at hd n1
        clear hno
        by_cases h48 : (ch : Int) < 48
        · have q1 : decide ((ch : Int) < 48) = true := by simp; omega
          clear hch hd e3 hd128
          go_wp2_with fail
          refine (errNew _ _).mono ?_
          rintro e1 w8 ⟨rfl, f8⟩
          have F8 := Aside.mk (F10.out.trans' f8 (U := dfoot b a c) (fun _ _ _ k => k) (fun _ _ _ k => k.elim))
          clear f8
          go_wp2_with fail
          go_ret2
          exact .inr ⟨HNO.out, _, rfl, F8.out⟩
        · have h57 : (57 : Int) < (ch : Int) := by omega
          have q1 : decide ((ch : Int) < 48) = false := by simp; omega
          have q2 : decide (57 < (ch : Int)) = true := by simp; omega
          clear hch hd e3 hd128
          go_wp2_with fail
          refine (errNew _ _).mono ?_
          rintro e1 w8 ⟨rfl, f8⟩
          have F8 := Aside.mk (F10.out.trans' f8 (U := dfoot b a c) (fun _ _ _ k => k) (fun _ _ _ k => k.elim))
          clear f8
          go_wp2_with fail
          go_ret2
          exact .inr ⟨HNO.out, _, rfl, F8.out⟩
    · have n2 : ∀ ty, (Instr.next (.pointer (some ⟨wb.heap.size, 0, none⟩)) true ty).run Tryz.prog (wb.iter y k) = .ok (.tuple #[.bool false]) (wb.iter y k) := fun ty => run_next_end wb y k ty hl
      go_wp2_with fail
      have F10 : Fr (fun _ _ => False) w5 (wb.iter y k) := XB.out.fr.alloc _
      have X10 : EX w5 (wb.iter y k) gb [v] := XB.out.new ((Fr.refl _ wb).alloc _)
      have FF := F5.out.trans' F10 (U := dfoot b a c) (fun _ _ _ k => k) (fun _ _ _ k => k.elim)
      have D10 := D5.out.fr F10 (fun _ _ _ k => k)
      by_cases hz0 : y.size = 0
      · have hno : Aside (¬ (Digs A ∧ A ≠ [])) := ⟨fun q => q.2 (by
          have e1 : y.size = y.data.toList.length := rfl
          rw [HZL.out] at e1
          exact List.eq_nil_of_length_eq_zero (by omega))⟩
        have hS := Lib.hid (bSetString_empty (b := b) (o := 3) (s := y) (Nat.le_trans HG.out.size FF.size) hz0 (HE.out.fr HG.out.size FF HLO.out))
        have FFA := Aside.mk FF
        clear F10 X10 FF D10
        refine hS.out.mono ?_
        rintro e1 w11 ⟨rfl, s1⟩
        have F11 := Aside.mk (FFA.out.trans' s1 (U := dfoot b a c) (fun _ _ _ k => k) (fun _ _ _ k => k.elim))
        clear s1 hS
        go_wp2_with fail
        refine (errNew _ _).mono ?_
        rintro e1 w12 ⟨rfl, f8⟩
        have F12 := Aside.mk (F11.out.trans' f8 (U := dfoot b a c) (fun _ _ _ k => k) (fun _ _ _ k => k.elim))
        clear f8
        go_wp2_with fail
        go_ret2
        exact .inr ⟨hno.out, _, rfl, F12.out⟩
      have HDG : Aside (Digs y.data.toList) := ⟨fun x hx => by
        obtain ⟨j, hj, rfl⟩ := List.mem_iff_getElem.1 hx
        exact hD.out j hj (by have e1 : y.data.toList.length = y.size := rfl
                              omega)⟩
      have hX := HX.out (HZL.out ▸ HDG.out)
      have HNE : Aside (A ≠ []) := ⟨fun q => hz0 (by
        have e1 : y.size = y.data.toList.length := rfl
        rw [HZL.out, q] at e1
        exact e1)⟩
      have hS := Lib.hid (bSetString_any (s := y) (Nat.le_trans HG.out.size FF.size) D10.num HDG.out (by omega) HZS.out (HE.out.fr HG.out.size FF HLO.out))
      refine hS.out.mono ?_
      rintro e1 w11 ⟨a11, c11, rfl, s1, s2, s3⟩
      have D11 := D10.put s1 s2
      have hgb5 := HGB.out
      have KX : ∀ o, o < 2 → w11.cell? ⟨gb, o, none⟩ = (wb.iter y k).cell? ⟨gb, o, none⟩ := fun o _ => s2.cell gb o X10.lt (by
        rintro (⟨k1, _⟩ | k1)
        · have := D5.out.lt; omega
        · have := D5.out.num.nt.reg.lt _ _ k1; omega)
      have FF2 := FF.trans' s2 (U := dfoot b a c) (fun _ _ _ k => k) (fun x y hx k => by
        rcases k with ⟨rfl, _⟩ | k
        · exact .inl rfl
        · have hx5 : x < w'.heap.size := hx
          rcases O5.out with ⟨rfl, rfl⟩ | ⟨b2, o2, rfl, h2⟩
          · exact .inr k
          · rw [foot_some] at k; omega)
      have hf11 := D11.form
      have y11 := D11.num.blk.free 0
      have D12 := Aside.mk (D11.setForm 0)
      have F12 := Aside.mk (FF2.setD 0 (.int .i8 0))
      have K12 : Aside (Xs (w11.setCell ⟨b, 0, none⟩ (.int .i8 0)) (some ⟨gb, 0, none⟩) [v]) := ⟨X10.xs (by simp) (fun o ho => by
        rw [World.cell?_setCell_other _ _ _ _ (by have := D5.out.lt; simp only [ne_eq, Addr.mk.injEq, and_true]; omega)]
        exact KX o ho)⟩
      have O12 : Aside (Out w' a c a11 c11) := ⟨by
        rcases s3 with ⟨rfl, rfl⟩ | ⟨b2, o2, rfl, h2⟩
        · exact O5.out
        · exact .inr ⟨b2, o2, rfl, Nat.le_trans FF.size h2⟩⟩
      rw [HZL.out] at D12
      have hnd := ndig_bl (numOf A)
      have hnp := ndig_pos (numOf A)
      have htriv := True.intro
      have hE := Lib.hid (setExponent_ok (nd := -1) (r := 0) (xc := 2) (L := [v]) (HG.out.fr F12.out HLO.out) D12.out hX (HC.out.fr F12.out (by rintro o (k | k); exact hcb k; exact HAP.out _ k)) hcb K12.out (by simp) (by simp) (by intro x hx; first | (simp at hx; done) | (simp at hx; omega) | (simp at hx; rcases hx with rfl | rfl <;> omega) | (simp at hx; subst hx; omega)) (.inl rfl) (by omega) (by omega) (by simp only [sumTo, List.length_cons, List.length_nil]; simp; omega) (by simp only [sumTo, List.length_cons, List.length_nil]; simp; omega) (.inl rfl))
      clear F10 FF D10 hS s1 s2 s3 D11 KX FF2 X10 hX hnd hnp
      go_wp2_with fail
      refine hE.out.mono ?_
      rintro e1 w13 ⟨rfl, t1, t2⟩
      have T1 : Aside (DA w13 b 0 ng v a11 c11 (numOf A)) := ⟨by
        have e4 : sumTo [v] ([v]).length = v := by first | rfl | (simp [sumTo]; done) | (simp [sumTo]; omega)
        rw [e4] at t1; exact t1⟩
      have T2 := Aside.mk (F12.out.trans' t2 (U := dfoot b a c) (fun _ _ _ k => k) (fun _ _ _ k => .inl k))
      clear t1 t2 hE
      go_wp2_with fail
      refine (goError0 0 _).mono ?_
      rintro e1 w14 ⟨rfl, rfl⟩
      go_wp2_with fail
      go_ret2
      exact .inl ⟨HZL.out ▸ HDG.out, HNE.out, a11, c11, rfl, T1.out, T2.out, O12.out⟩
end Go.Proofs.YtifkpcijheabhaaGreatDoor
namespace Go.Proofs.YtifkpcijheabhaaGreatDoor
open Go.RowKit

set_option maxRecDepth 100000 in
set_option maxHeartbeats 8000000 in
theorem setString_fin11 {w : World} {b : Nat} {f e : Int} {n ng : Bool} {a : Option Addr} {c X : Nat} {s : ByteArray} {r : List UInt8} {A B R : List UInt8} {v : Int} (g : Gv w) (h : DA w b f n e a c X) (hsg : sgnR s.data.toList = (ng, r)) (hasc : ∀ x ∈ r, x.toNat < 128) (hs : s.size ≤ 1000) (hU : Lib.toLowerA r = A ++ 46 :: B ++ 101 :: R) (hP1 : Lib.hasPrefix (A ++ 46 :: B ++ 101 :: R) [45] = false) (hP2 : Lib.hasPrefix (A ++ 46 :: B ++ 101 :: R) [43] = false) (hQ1 : (A ++ 46 :: B ++ 101 :: R) ≠ [105, 110, 102, 105, 110, 105, 116, 121]) (hQ2 : (A ++ 46 :: B ++ 101 :: R) ≠ [105, 110, 102]) (hN1 : Lib.hasPrefix (A ++ 46 :: B ++ 101 :: R) [110, 97, 110] = false) (hN2 : Lib.hasPrefix (A ++ 46 :: B ++ 101 :: R) [115, 110, 97, 110] = false) (hA : (46 : UInt8) ∉ A) (h101 : (101 : UInt8) ∉ A ++ 46 :: B) (hv : Lib.parseIntB 32 R = .ok v) (hv1 : -50000 ≤ v ∧ v ≤ 50000) (hX : Digs (A ++ B) → bl (numOf (A ++ B)) ≤ 1100) :
    Calls Tryz.prog 59 #[.pointer (some ⟨b, 0, none⟩), .pointer (some ⟨0, 0, none⟩), .string s] w fun e1 w' => (Digs (A ++ B) ∧ (A ++ B) ≠ [] ∧ ∃ a' c', e1 = .returned (.tuple #[.int .u32 0, .nilIface]) ∧ DA w' b 0 ng (v + -(B.length : Int)) a' c' (numOf (A ++ B)) ∧ Fr (dfoot b a c) w w' ∧ Out w a c a' c') ∨ (¬ (Digs (A ++ B) ∧ (A ++ B) ≠ []) ∧ ∃ p, e1 = .returned (.tuple #[.int .u32 0, .iface 150 (.pointer (some p))]) ∧ Fr (dfoot b a c) w w') := by
  have hcb : 0 ≠ b := by rintro rfl; exact absurd h.num.blk.1 (by decide)
  have hap : ∀ o, ¬ foot a c 0 o := fun o k => absurd (h.num.nt.reg.lo _ _ k) (by decide)
  obtain ⟨u, hu⟩ : ∃ u, mk (Lib.toLowerA r) = u := ⟨_, rfl⟩
  have hul : u.data.toList = A ++ 46 :: B ++ 101 :: R := by rw [← hu, mk_toList, hU]
  have hrl : r.length ≤ 1000 := sgn_len hsg hs
  have husz : u.size ≤ 1000 := by rw [← hu, mk_size]; simp [Lib.toLowerA]; exact hrl
  have huasc : ∀ x ∈ u.data.toList, x.toNat < 128 := by rw [← hu, mk_toList]; exact lower_asc hasc
  obtain ⟨s1, C1', C2', hS1⟩ := sgn_calls hsg hs
  have C1 := Lib.hid C1'
  have C2 := Lib.hid C2'
  have CL : Hid (∀ w, Calls Tryz.prog 74 #[.string (mk r)] w fun e w' => e = .returned (.string u) ∧ Aside (Fr (fun _ _ => False) w w')) := Lib.hid (fun w => by
    refine (Tryz.strings_ToLower_ascii (mk r) w (by rw [mk_size]; omega) (fun j y k => hasc _ (List.mem_of_getElem? (by rwa [mk_toList] at k)))).mono ?_
    rintro e w' ⟨rfl, hb⟩
    refine ⟨?_, ⟨Fr.of_below hb⟩⟩
    rw [mk_toList, ← hu]; rfl)
  obtain ⟨u0, hu0⟩ : ∃ u0, mk r = u0 := ⟨_, rfl⟩
  rw [hu0] at C2 CL hS1
  have HS1 := Aside.mk hS1
  clear C1' C2' hS1
  have P1 : Hid (∀ w, Calls Tryz.prog 76 #[.string u, .string ⟨#[45]⟩] w fun e w' => e = .returned (.bool false) ∧ w' = w) := Lib.hid (fun w => by
    have := Tryz.strings_HasPrefix u ⟨#[45]⟩ w
    rwa [hul, hP1] at this)
  have P2 : Hid (∀ w, Calls Tryz.prog 76 #[.string u, .string ⟨#[43]⟩] w fun e w' => e = .returned (.bool false) ∧ w' = w) := Lib.hid (fun w => by
    have := Tryz.strings_HasPrefix u ⟨#[43]⟩ w
    rwa [hul, hP2] at this)
  have C3 := Lib.hid (consume_no u ⟨#[110, 97, 110]⟩ (by rw [hul]; exact hN1))
  have C4 := Lib.hid (consume_no u ⟨#[115, 110, 97, 110]⟩ (by rw [hul]; exact hN2))
  have Q1 : (u.toList == [105, 110, 102, 105, 110, 105, 116, 121]) = false := by rw [beq_eq_false_iff_ne, ByteArray.toList_eq, hul]; exact hQ1
  have Q2 : (u.toList == [105, 110, 102]) = false := by rw [beq_eq_false_iff_ne, ByteArray.toList_eq, hul]; exact hQ2
  obtain ⟨ml, hml⟩ : ∃ x, (A ++ 46 :: B).length = x := ⟨_, rfl⟩
  obtain ⟨y, hy⟩ : ∃ y, mk (A ++ 46 :: B) = y := ⟨_, rfl⟩
  have hyl : y.data.toList = A ++ 46 :: B := by rw [← hy, mk_toList]
  have hus : u.size = ml + 1 + R.length := by
    have e1 : u.size = u.data.toList.length := rfl
    rw [e1, hul, List.length_append, List.length_cons, hml]; omega
  have hye : u.extract 0 ml = y := by
    conv => lhs; rw [mk_of u, hul]
    rw [mk_extract, ← hy, ← hml, List.drop_zero, Nat.sub_zero, List.take_left]
  have hyr : u.extract (ml + 1) u.size = mk R := by
    have e1 : u.size = (A ++ 46 :: B ++ 101 :: R).length := by rw [← hul]; rfl
    rw [e1]
    conv => lhs; rw [mk_of u, hul]
    rw [mk_extract, ← hml]; congr 1
    rw [List.take_of_length_le (by simp <;> omega), ← List.drop_drop, List.drop_left]
    all_goals rfl
  have I1 : Hid (∀ w, Calls Tryz.prog 79 #[.string u, .int .u8 101] w fun e w' => e = .returned (.int .i64 (ml : Nat)) ∧ w' = w) := Lib.hid (fun w => by
    have := Tryz.strings_IndexByte u 101 w
    rwa [hul, show (101 : Int).toNat.toUInt8 = 101 from rfl, indexByte_at _ _ _ h101, hml] at this)
  have hul1 : ml + 1 ≤ u.size := by omega
  have hyb : y.size ≤ 1000 := by
    have e1 : y.size = y.data.toList.length := rfl
    rw [e1, hyl, hml]; omega
  have PI : Hid (∀ w1, Calls Tryz.prog 80 #[.string (u.extract (ml + 1) u.size), .int .i64 10, .int .i64 32] w1 fun e w2 => e = .returned (.tuple #[.int .i64 v, .nilIface]) ∧ Aside (Fr (fun _ _ => False) w1 w2)) := Lib.hid (fun w1 => by
    rw [hyr]
    exact parseInt_ok hv (by have := hus; omega))
  obtain ⟨al, hal⟩ : ∃ x, A.length = x := ⟨_, rfl⟩
  obtain ⟨bb, hbb⟩ : ∃ x, B.length = x := ⟨_, rfl⟩
  have hys : y.size = al + 1 + bb := by
    have e1 : y.size = y.data.toList.length := rfl
    rw [e1, hyl, List.length_append, List.length_cons, hal, hbb]; omega
  have I2 : Hid (∀ w, Calls Tryz.prog 79 #[.string y, .int .u8 46] w fun e w' => e = .returned (.int .i64 (al : Nat)) ∧ w' = w) := Lib.hid (fun w => by
    have := Tryz.strings_IndexByte y 46 w
    rwa [hyl, show (46 : Int).toNat.toUInt8 = 46 from rfl, indexByte_at _ _ _ hA, hal] at this)
  have hab : y.extract 0 al ++ y.extract (al + 1) y.size = mk (A ++ B) := by
    have e0 : y.size = (A ++ 46 :: B).length := by rw [← hyl]; rfl
    rw [e0]
    conv => lhs; rw [mk_of y, hyl]
    rw [mk_extract, mk_extract, ← hal]
    have e1 : ((A ++ 46 :: B).drop 0).take (A.length - 0) = A := by simp
    have e2 : ((A ++ 46 :: B).drop (A.length + 1)).take ((A ++ 46 :: B).length - (A.length + 1)) = B := by
      rw [show (A ++ 46 :: B).drop (A.length + 1) = B from by rw [← List.drop_drop]; simp, List.take_of_length_le (by simp; omega)]
    rw [e1, e2]
    apply ByteArray.ext
    simp [mk]
  obtain ⟨z, hz⟩ : ∃ z, mk (A ++ B) = z := ⟨_, rfl⟩
  rw [hz] at hab
  have hzl : z.data.toList = A ++ B := by rw [← hz, mk_toList]
  have hya : al + 1 ≤ y.size := by omega
  have hzasc : ∀ x ∈ z.data.toList, x.toNat < 128 := by
    intro x hx
    refine huasc x ?_
    rw [hzl] at hx
    rw [hul]
    rcases List.mem_append.1 hx with hx | hx <;> simp [hx]
  have hzs : z.size ≤ 1000 := by
    have e1 : z.size = z.data.toList.length := rfl
    have e2 : u.size = u.data.toList.length := rfl
    rw [hzl] at e1; rw [hul] at e2
    try simp at e1 e2
    omega
  have HZS := Aside.mk hzs
  have HZA := Aside.mk hzasc
  have HZL := Aside.mk hzl
  have HX := Aside.mk hX
  clear hzasc hX
  have fm : ∀ w, (Instr.makeSlice 123 (.int .i64 0) (.int .i64 2)).run Tryz.prog w = .ok (.slice (some ⟨w.heap.size, 0, none⟩) 0 2) (w.alloc (.cells #[.int .i64 0, .int .i64 0] 2)) := fun _ => by kernel_rfl
  have hf := h.form
  have hn := h.neg
  have he := h.exp
  have z0 := h.num.blk.free 0
  have z1 := h.num.blk.free 1
  have z2 := h.num.blk.free 2
  have D1 := Aside.mk (h.setNeg ng)
  have F1 := Aside.mk ((Fr.refl (dfoot b a c) w).setD 1 (.bool ng))
  have HC := Aside.mk g.base
  have HG := Aside.mk g.g
  have HE := Aside.mk g.eof
  have HAP := Aside.mk hap
  have HLO := Aside.mk h.lo
  have HYS := Aside.mk hys
  clear h g hap hs hu hul hasc huasc hU hsg hrl hP1 hP2 hQ1 hQ2 hN1 hN2 hA h101 hu0 hml hy hyl hyr hus hv hal hys hzl hz
  have HBB := Aside.mk hbb
  have HAB := Aside.mk hab
  have hbs : (bb : Int) ≤ 1000 := by have := HZL.out; have e1 : z.size = z.data.toList.length := rfl; rw [this] at e1; simp at e1; omega
  clear hbb hab
  obtain ⟨hv1, hv2⟩ := hv1
  go_enter Tryz.func59, Tryz.ntmps59
  go_wp2_with fail
  refine (C1.out _).mono ?_
  rintro e1 w' ⟨rfl, rfl⟩
  go_upto_if 34 with fail
  go_cut [2] (fun sv wr => sv = .string u0 ∧ wr = w'.setCell ⟨b, 1, none⟩ (.bool ng))
  case first =>
    cases ng
    · go_wp2_with fail
      refine (C2.out (by trivial) _).mono ?_
      rintro e1 w2 ⟨⟨p, rfl⟩, rfl⟩
      go_wp2_with fail
      go_meet
      exact ⟨rfl, rfl⟩
    · go_wp2_with fail
      go_meet
      exact ⟨by rw [HS1.out (by trivial)], rfl⟩
  case rest =>
  obtain ⟨rfl, rfl⟩ := hcut
  go_wp2_with fail
  refine (CL.out _).mono ?_
  rintro e1 w2 ⟨rfl, f2⟩
  have DD2 := Aside.mk (D1.out.fr f2.out (fun _ _ _ k => k))
  have F2 := Aside.mk (F1.out.trans' f2.out (U := dfoot b a c) (fun _ _ _ k => k) (fun _ _ _ k => k.elim))
  have hf2 := DD2.out.form
  have hn2 := DD2.out.neg
  have he2 := DD2.out.exp
  have y0 := DD2.out.num.blk.free 0
  have y1 := DD2.out.num.blk.free 1
  have y2 := DD2.out.num.blk.free 2
  have D3 := Aside.mk (DD2.out.setExp 0)
  have F3 := Aside.mk (F2.out.setD 2 (.int .i32 0))
  have hS := Lib.hid (bSetInt64 0 (Nat.le_trans HG.out.size F3.out.size) D3.out.num (by omega) (by omega))
  clear hf hn he z0 z1 z2 f2
  go_wp2_with fail
  refine hS.out.mono ?_
  rintro e1 w3 ⟨a3, c3, rfl, s1, s2, s3⟩
  have D4 := D3.out.put s1 s2
  have F4 := Aside.mk (F3.out.trans' s2 (U := dfoot b a c) (fun _ _ _ k => k) (fun x y _ k => ifoot_d x y k))
  have hf3 := D4.form
  have y3 := D4.num.blk.free 0
  have D5 := Aside.mk (D4.setForm 3)
  have F5 := Aside.mk (F4.out.setD 0 (.int .i8 3))
  have O5 := Aside.mk (s3.older (w := w') F3.out.size)
  clear D4 s1 s2 s3 hf2 hn2 he2 y0 y1 y2 hS
  go_wp2_with fail
  refine (P1.out _).mono ?_
  rintro e1 w4 ⟨rfl, rfl⟩
  go_wp2_with fail
  refine (P2.out _).mono ?_
  rintro e1 w4 ⟨rfl, rfl⟩
  clear hf3 y3
  go_wp2_with fail
  refine (C3.out _).mono ?_
  rintro e1 w4 ⟨rfl, rfl⟩
  go_wp2_with fail
  refine (C4.out _).mono ?_
  rintro e1 w4 ⟨rfl, rfl⟩
  go_wp2_with fail
  obtain ⟨w5, hw5⟩ : ∃ x, (w3.setCell ⟨b, 0, none⟩ (.int .i8 3)) = x := ⟨_, rfl⟩
  obtain ⟨gb, hgb⟩ : ∃ x, w3.heap.size = x := ⟨_, rfl⟩
  have hgb5 : w5.heap.size = gb := by rw [← hw5, ← hgb]; simp
  rw [hw5] at D5 F5 ⊢
  rw [hgb]
  clear hw5 Q1 Q2 fm hgb
  refine (I1.out _).mono ?_
  rintro e1 w6 ⟨rfl, hw6⟩
  have X0 := Aside.mk (EX.start hgb5 hw6)
  have HGB := Aside.mk hgb5
  clear hw6 hgb5
  go_wp2_with fail
  refine (PI.out _).mono ?_
  rintro e1 w7 ⟨rfl, f7⟩
  have X1 := Aside.mk (X0.out.new f7.out)
  clear PI f7
  go_wp2_with (at_builtin; go_must (refine wpList_app64 _ rfl (.tmp 108) (.tmp 110) rfl (g := gb) (k := 0) (q := w7.heap.size) (v := v) zero_lt_two rfl rfl (X1.out.cell 0 (by omega) _) (X1.out.free 0 _) (one_cell _ _ _) ?_))
  obtain ⟨w8, hw8⟩ : ∃ x, (w7.alloc (.cells #[.int .i64 v] 2)).setCell ⟨gb, 0, none⟩ (.int .i64 v) = x := ⟨_, rfl⟩
  have X2 : Aside (EX w5 w8 gb [v]) := ⟨by rw [← hw8]; exact X1.out.push0 v _⟩
  rw [hw8]
  clear hw8
  refine (I2.out _).mono ?_
  rintro e1 w9 ⟨rfl, hw9⟩
  rw [← hw9] at X2
  clear hw9
  go_wp2_with (at_builtin; go_must (refine wpList_app64 _ rfl (.tmp 124) (.tmp 127) rfl (g := gb) (k := 1) (q := w9.heap.size) (v := -((y.size : Int) - (al : Int) - 1)) (by decide) rfl rfl (X2.out.cell 1 (by omega) _) (X2.out.free 1 _) (one_cell _ _ _) ?_))
  obtain ⟨wa, hwa⟩ : ∃ x, (w9.alloc (.cells #[.int .i64 (-((y.size : Int) - (al : Int) - 1))] 2)).setCell ⟨gb, 1, none⟩ (.int .i64 (-((y.size : Int) - (al : Int) - 1))) = x := ⟨_, rfl⟩
  have X3 : Aside (EX w5 wa gb [v, -((y.size : Int) - (al : Int) - 1)]) := ⟨by rw [← hwa]; exact X2.out.push1 (-((y.size : Int) - (al : Int) - 1)) _⟩
  rw [hwa]
  clear hwa
  go_quiet (fail)
  go_wp2_with fail
  rw [HAB.out]
  have XB : Aside (EX w5 (wa.drewN nq) gb [v, -((y.size : Int) - (al : Int) - 1)]) := ⟨X3.out.drewN nq⟩
  go_loopw [19] (fun _ wr => ∃ k : Nat, k ≤ z.size ∧ Aside (wr = (wa.drewN nq).iter z k) ∧ Aside (∀ j (hj : j < z.data.toList.length), j < k → 48 ≤ (z.data.toList[j]).toNat ∧ (z.data.toList[j]).toNat ≤ 57)) (fun _ wr => z.size + 1 - wr.iterPos wa.heap.size)
  case atStart => exact ⟨0, by omega, ⟨rfl⟩, ⟨fun j _ hj => absurd hj (Nat.not_lt_zero _)⟩⟩
  case round =>
    obtain ⟨k, hk, hW, hD⟩ := hrel
    obtain ⟨hW⟩ := hW
    subst hW
    by_cases hl : k < z.size
    · have e3 : z.data.toList[k]'hl = z[k] := rfl
      have hd128 : z[k].toNat < 128 := by rw [← e3]; exact HZA.out _ (List.getElem_mem _)
      have n1 : ∀ ty, (Instr.next (.pointer (some ⟨wa.heap.size, 0, none⟩)) true ty).run Tryz.prog ((wa.drewN nq).iter z k) = .ok (.tuple #[.bool true, .int .i64 k, .int .i32 (z[k].toNat : Nat)]) ((wa.drewN nq).iter z (k + 1)) := fun ty => run_next_ascii (wa.drewN nq) z k ty hl hd128
      by_cases hd : 48 ≤ z[k].toNat ∧ z[k].toNat ≤ 57
      · have hDk : Aside (∀ j (hj : j < z.data.toList.length), j < k + 1 → 48 ≤ (z.data.toList[j]).toNat ∧ (z.data.toList[j]).toNat ≤ 57) := ⟨fun j hj hjk => by
          by_cases e : j = k
          · subst e; rw [e3]; exact hd
          · exact hD.out j hj (by omega)⟩
        obtain ⟨ch, hch⟩ : ∃ x, z[k].toNat = x := ⟨_, rfl⟩
        rw [hch] at hd n1
        have q1 : decide ((ch : Int) < 48) = false := by simp; omega
        have q2 : decide (57 < (ch : Int)) = false := by simp; omega
        clear hch hd e3 hd128
        go_wp2_with fail
        go_roundw
        case rel => exact ⟨k + 1, by omega, ⟨rfl⟩, hDk⟩
        case measure =>
          have i1 := World.iterPos_iter (wa.drewN nq) z k
          have i2 := World.iterPos_iter (wa.drewN nq) z (k + 1)
          rw [show (wa.drewN nq).heap.size = wa.heap.size from rfl] at i1 i2
          rw [i1, i2]; omega
      · have hno : ¬ (Digs (A ++ B) ∧ (A ++ B) ≠ []) := fun q => hd (by
          have := (HZL.out ▸ q.1 : Digs z.data.toList).get (show k < z.data.toList.length from hl)
          rwa [e3] at this)
        have HNO := Aside.mk hno
        have F10 : Aside (Fr (dfoot b a c) w' ((wa.drewN nq).iter z (k + 1))) := ⟨F5.out.trans' (XB.out.fr.alloc _) (fun _ _ _ k => k) (fun _ _ _ k => k.elim)⟩
        obtain ⟨ch, hch⟩ : ∃ x, z[k].toNat = x := ⟨_, rfl⟩
        rw [hch] at hd n1
        clear hno
        by_cases h48 : (ch : Int) < 48
        · have q1 : decide ((ch : Int) < 48) = true := by simp; omega
          clear hch hd e3 hd128
          go_wp2_with fail
          refine (errNew _ _).mono ?_
          rintro e1 w8 ⟨rfl, f8⟩
          have F8 := Aside.mk (F10.out.trans' f8 (U := dfoot b a c) (fun _ _ _ k => k) (fun _ _ _ k => k.elim))
          clear f8
          go_wp2_with fail
          go_ret2
          exact .inr ⟨HNO.out, _, rfl, F8.out⟩
        · have h57 : (57 : Int) < (ch : Int) := by omega
          have q1 : decide ((ch : Int) < 48) = false := by simp; omega
          have q2 : decide (57 < (ch : Int)) = true := by simp; omega
          clear hch hd e3 hd128
          go_wp2_with fail
          refine (errNew _ _).mono ?_
          rintro e1 w8 ⟨rfl, f8⟩
          have F8 := Aside.mk (F10.out.trans' f8 (U := dfoot b a c) (fun _ _ _ k => k) (fun _ _ _ k => k.elim))
          clear f8
          go_wp2_with fail
          go_ret2
          exact .inr ⟨HNO.out, _, rfl, F8.out⟩
    · have n2 : ∀ ty, (Instr.next (.pointer (some ⟨wa.heap.size, 0, none⟩)) true ty).run Tryz.prog ((wa.drewN nq).iter z k) = .ok (.tuple #[.bool false]) ((wa.drewN nq).iter z k) := fun ty => run_next_end (wa.drewN nq) z k ty hl
      go_wp2_with fail
      have F10 : Fr (fun _ _ => False) w5 ((wa.drewN nq).iter z k) := XB.out.fr.alloc _
      have X10 : EX w5 ((wa.drewN nq).iter z k) gb [v, -((y.size : Int) - (al : Int) - 1)] := XB.out.new ((Fr.refl _ (wa.drewN nq)).alloc _)
      have FF := F5.out.trans' F10 (U := dfoot b a c) (fun _ _ _ k => k) (fun _ _ _ k => k.elim)
      have D10 := D5.out.fr F10 (fun _ _ _ k => k)
      by_cases hz0 : z.size = 0
      · have hno : Aside (¬ (Digs (A ++ B) ∧ (A ++ B) ≠ [])) := ⟨fun q => q.2 (by
          have e1 : z.size = z.data.toList.length := rfl
          rw [HZL.out] at e1
          exact List.eq_nil_of_length_eq_zero (by omega))⟩
        have hS := Lib.hid (bSetString_empty (b := b) (o := 3) (s := z) (Nat.le_trans HG.out.size FF.size) hz0 (HE.out.fr HG.out.size FF HLO.out))
        have FFA := Aside.mk FF
        clear F10 X10 FF D10
        refine hS.out.mono ?_
        rintro e1 w11 ⟨rfl, s1⟩
        have F11 := Aside.mk (FFA.out.trans' s1 (U := dfoot b a c) (fun _ _ _ k => k) (fun _ _ _ k => k.elim))
        clear s1 hS
        go_wp2_with fail
        refine (errNew _ _).mono ?_
        rintro e1 w12 ⟨rfl, f8⟩
        have F12 := Aside.mk (F11.out.trans' f8 (U := dfoot b a c) (fun _ _ _ k => k) (fun _ _ _ k => k.elim))
        clear f8
        go_wp2_with fail
        go_ret2
        exact .inr ⟨hno.out, _, rfl, F12.out⟩
      have HDG : Aside (Digs z.data.toList) := ⟨fun x hx => by
        obtain ⟨j, hj, rfl⟩ := List.mem_iff_getElem.1 hx
        exact hD.out j hj (by have e1 : z.data.toList.length = z.size := rfl
                              omega)⟩
      have hX := HX.out (HZL.out ▸ HDG.out)
      have HNE : Aside ((A ++ B) ≠ []) := ⟨fun q => hz0 (by
        have e1 : z.size = z.data.toList.length := rfl
        rw [HZL.out, q] at e1
        exact e1)⟩
      have hS := Lib.hid (bSetString_any (s := z) (Nat.le_trans HG.out.size FF.size) D10.num HDG.out (by omega) HZS.out (HE.out.fr HG.out.size FF HLO.out))
      refine hS.out.mono ?_
      rintro e1 w11 ⟨a11, c11, rfl, s1, s2, s3⟩
      have D11 := D10.put s1 s2
      have hgb5 := HGB.out
      have KX : ∀ o, o < 2 → w11.cell? ⟨gb, o, none⟩ = ((wa.drewN nq).iter z k).cell? ⟨gb, o, none⟩ := fun o _ => s2.cell gb o X10.lt (by
        rintro (⟨k1, _⟩ | k1)
        · have := D5.out.lt; omega
        · have := D5.out.num.nt.reg.lt _ _ k1; omega)
      have FF2 := FF.trans' s2 (U := dfoot b a c) (fun _ _ _ k => k) (fun x y hx k => by
        rcases k with ⟨rfl, _⟩ | k
        · exact .inl rfl
        · have hx5 : x < w'.heap.size := hx
          rcases O5.out with ⟨rfl, rfl⟩ | ⟨b2, o2, rfl, h2⟩
          · exact .inr k
          · rw [foot_some] at k; omega)
      have hf11 := D11.form
      have y11 := D11.num.blk.free 0
      have D12 := Aside.mk (D11.setForm 0)
      have F12 := Aside.mk (FF2.setD 0 (.int .i8 0))
      have K12 : Aside (Xs (w11.setCell ⟨b, 0, none⟩ (.int .i8 0)) (some ⟨gb, 0, none⟩) [v, -((y.size : Int) - (al : Int) - 1)]) := ⟨X10.xs (by simp) (fun o ho => by
        rw [World.cell?_setCell_other _ _ _ _ (by have := D5.out.lt; simp only [ne_eq, Addr.mk.injEq, and_true]; omega)]
        exact KX o ho)⟩
      have O12 : Aside (Out w' a c a11 c11) := ⟨by
        rcases s3 with ⟨rfl, rfl⟩ | ⟨b2, o2, rfl, h2⟩
        · exact O5.out
        · exact .inr ⟨b2, o2, rfl, Nat.le_trans FF.size h2⟩⟩
      rw [HZL.out] at D12
      have hnd := ndig_bl (numOf (A ++ B))
      have hnp := ndig_pos (numOf (A ++ B))
      have hve : -((y.size : Int) - (al : Int) - 1) = -(B.length : Int) := by have := HYS.out; rw [HBB.out]; omega
      have hbl2 : (B.length : Int) ≤ 1000 := by rw [HBB.out]; exact hbs
      have hE := Lib.hid (setExponent_ok (nd := -1) (r := 0) (xc := 2) (L := [v, -((y.size : Int) - (al : Int) - 1)]) (HG.out.fr F12.out HLO.out) D12.out hX (HC.out.fr F12.out (by rintro o (k | k); exact hcb k; exact HAP.out _ k)) hcb K12.out (by simp) (by simp) (by intro x hx; first | (simp at hx; done) | (simp at hx; omega) | (simp at hx; rcases hx with rfl | rfl <;> omega) | (simp at hx; subst hx; omega)) (.inl rfl) (by omega) (by omega) (by simp only [sumTo, List.length_cons, List.length_nil]; simp; omega) (by simp only [sumTo, List.length_cons, List.length_nil]; simp; omega) (.inl rfl))
      clear F10 FF D10 hS s1 s2 s3 D11 KX FF2 X10 hX hnd hnp
      go_wp2_with fail
      refine hE.out.mono ?_
      rintro e1 w13 ⟨rfl, t1, t2⟩
      have T1 : Aside (DA w13 b 0 ng (v + -(B.length : Int)) a11 c11 (numOf (A ++ B))) := ⟨by
        have e4 : sumTo [v, -((y.size : Int) - (al : Int) - 1)] ([v, -((y.size : Int) - (al : Int) - 1)]).length = (v + -(B.length : Int)) := by first | rfl | (simp [sumTo]; done) | (simp [sumTo]; omega)
        rw [e4] at t1; exact t1⟩
      have T2 := Aside.mk (F12.out.trans' t2 (U := dfoot b a c) (fun _ _ _ k => k) (fun _ _ _ k => .inl k))
      clear t1 t2 hE
      go_wp2_with fail
      refine (goError0 0 _).mono ?_
      rintro e1 w14 ⟨rfl, rfl⟩
      go_wp2_with fail
      go_ret2
      exact .inl ⟨HZL.out ▸ HDG.out, HNE.out, a11, c11, rfl, T1.out, T2.out, O12.out⟩
end Go.Proofs.YtifkpcijheabhaaGreatDoor
