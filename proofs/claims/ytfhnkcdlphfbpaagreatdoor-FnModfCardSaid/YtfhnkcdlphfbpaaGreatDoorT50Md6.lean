/- spec.Clear says yes of what is in form. laws.FnModf. -/
import Derived.Test.YtfhnkcdlphfbpaaGreatDoorS39Tell3
import Derived.Test.YtfhnkcdlphfbpaaGreatDoorT40Md3
import Derived.Test.YtfhnkcdlphfbpaaGreatDoorT49Md5
import Derived.Test.YtfhnkcdlphfbpaaGreatDoorT44SN7
import Derived.Test.YtfhnkcdlphfbpaaGreatDoorT42Spec4
import Derived.Test.YtfhnkcdlphfbpaaGreatDoorM33Eql
set_option linter.unusedSimpArgs false
set_option linter.unusedVariables false
namespace Go.Proofs.YtfhnkcdlphfbpaaGreatDoor
open Go.RowKit

set_option maxRecDepth 100000 in
theorem only3_any {w : World} {s : ByteArray} (hs : s.size ≤ 2147483647) : Calls Tryz.prog 29 #[.string s] w fun e1 w' => w' = w ∧ ((e1 = .returned (.bool false) ∧ ¬ Digs s.data.toList) ∨ (e1 = .returned (.bool true) ∧ Digs s.data.toList)) := by
  go_enter Tryz.func29, Tryz.ntmps29
  go_wp2_with fail
  go_loopw [3] (fun iv wr => ∃ i : Nat, i ≤ s.size ∧ iv = .int .i64 i ∧ Aside (∀ k (h : k < s.data.toList.length), k < i → 48 ≤ (s.data.toList[k]).toNat ∧ (s.data.toList[k]).toNat ≤ 57) ∧ Aside (wr = w)) (fun iv _ => ((s.size : Int) - intOf iv).toNat)
  case atStart => exact ⟨0, Nat.zero_le _, rfl, ⟨fun k _ h => absurd h (Nat.not_lt_zero _)⟩, ⟨rfl⟩⟩
  case round =>
    obtain ⟨i, hi, rfl, hd, hf⟩ := hrel
    by_cases hl : i < s.size
    · have e2 : s.data.toList[i]'hl = s[i] := by simp [ByteArray.getElem_eq_getElem_data]
      have hno : Aside (¬ (48 ≤ (s[i]).toNat ∧ (s[i]).toNat ≤ 57) → ¬ Digs s.data.toList) := ⟨fun q k => q (by
        have := k.get (show i < s.data.toList.length from hl)
        rwa [e2] at this)⟩
      have E2 := Aside.mk e2
      clear e2
      by_cases h1 : ((s[i]).toNat : Int) < 48
      · go_wp2_with fail
        go_ret
        exact ⟨hf.out, .inl ⟨rfl, hno.out (by omega)⟩⟩
      · by_cases h2 : (57 : Int) < ((s[i]).toNat : Int)
        · go_wp2_with fail
          go_ret
          exact ⟨hf.out, .inl ⟨rfl, hno.out (by omega)⟩⟩
        · go_wp2_with fail
          go_roundw
          case rel =>
            refine ⟨i + 1, by omega, by go_num, ⟨fun k hk hki => ?_⟩, hf⟩
            by_cases e : k = i
            · subst e
              rw [E2.out]; omega
            · exact hd.out k hk (by omega)
          case measure => simp [intOf]; omega
    · go_wp2_with fail
      go_ret
      refine ⟨hf.out, .inr ⟨rfl, fun c hc => ?_⟩⟩
      obtain ⟨k, hk, rfl⟩ := List.mem_iff_getElem.1 hc
      exact hd.out k hk (by have : s.data.toList.length = s.size := rfl
                            omega)
set_option maxRecDepth 100000 in
set_option maxHeartbeats 1000000 in
theorem clear_yes2 {w : World} {e : Int} {n : Bool} {s : ByteArray} (hd : Digs s.data.toList) (h0 : 0 < s.size) (hs : s.size ≤ 300) (hz : s.size = 1 ∨ ∀ h : 0 < s.size, s[0] ≠ 48) (he : -2500 ≤ e ∧ e ≤ 2500) :
    Calls Tryz.prog 9 #[.agg #[.int .i64 0, .bool n, .int .i32 e, .string s]] w fun e1 w' => e1 = .returned (.bool true) ∧ Fr (fun _ _ => False) w w' := by
  have hse : (s.toList == []) = false := by
    rw [ByteArray.toList_eq, beq_eq_false_iff_ne]; intro k
    have : s.data.toList.length = s.size := rfl
    rw [k] at this; simp at this; omega
  have c2' : ¬ (300 : Int) < (s.size : Int) := by omega
  have H : Hid (∀ w1, Calls Tryz.prog 29 #[.string s] w1 fun e1 w' => e1 = .returned (.bool true) ∧ w' = w1) := Lib.hid (fun w1 => by
    refine (only3_any (w := w1) (by omega)).mono ?_
    rintro e1 w' ⟨rfl, ⟨rfl, q⟩ | ⟨rfl, _⟩⟩
    · exact absurd hd q
    · exact ⟨rfl, rfl⟩)
  have c4 : ¬ e < -2500 := by omega
  have c5 : ¬ e > 2500 := by omega
  clear he
  by_cases c3 : (1 : Int) < (s.size : Int)
  · have hz0 : (((s[0]).toNat : Int) == 48) = false := by
      rw [beq_eq_false_iff_ne]; intro k
      rcases hz with k1 | k1
      · omega
      · exact k1 h0 (by apply UInt8.toNat_inj.1; have : (48 : UInt8).toNat = 48 := rfl
                        omega)
    clear hz hd
    go_enter Tryz.func9, Tryz.ntmps9
    go_wp2_with fail
    refine (H.out _).mono ?_
    rintro e1 w2 ⟨rfl, rfl⟩
    go_wp2_with fail
    go_ret
    exact ⟨rfl, (Fr.refl _ w).alloc _⟩
  · clear hz hd
    go_enter Tryz.func9, Tryz.ntmps9
    go_wp2_with fail
    refine (H.out _).mono ?_
    rintro e1 w2 ⟨rfl, rfl⟩
    go_wp2_with fail
    go_ret
    exact ⟨rfl, (Fr.refl _ w).alloc _⟩

theorem natText_lead2 {X : Nat} (h : 1 < ndig X) (hp : 0 < (mk (natText X)).size) : (mk (natText X))[0] ≠ 48 := by
  have e1 : (mk (natText X))[0] = (natText X)[0]'(by rw [natText_length]; omega) := rfl
  rw [e1]
  intro k
  have h1 := natText_get X 0 (by omega)
  rw [k] at h1
  have h0 : X ≠ 0 := by rintro rfl; rw [ndig] at h; simp at h
  have h2 := ndig_le h0
  have h3 := lt_ndig X
  have h4 : X / 10 ^ (ndig X - 1 - 0) % 10 = 0 := by
    have : dg X (ndig X - 1 - 0) = 0 := by have : (48 : UInt8).toNat = 48 := rfl
                                           omega
    exact this
  obtain ⟨m, hm⟩ : ∃ m, ndig X = m + 1 := ⟨ndig X - 1, by omega⟩
  rw [hm] at h2 h3 h4
  rw [Nat.add_sub_cancel] at h2 h4
  rw [Nat.sub_zero] at h4
  rw [Nat.pow_succ] at h3
  have h5 : X / 10 ^ m < 10 := Nat.div_lt_of_lt_mul h3
  have h6 : 0 < X / 10 ^ m := Nat.div_pos h2 (Nat.pow_pos (by decide))
  omega
theorem clear_nt {w : World} {e : Int} {n : Bool} {X : Nat} (h : ndig X ≤ 300) (he : -2500 ≤ e ∧ e ≤ 2500) :
    Calls Tryz.prog 9 #[.agg #[.int .i64 0, .bool n, .int .i32 e, .string (mk (natText X))]] w fun e1 w' => e1 = .returned (.bool true) ∧ Fr (fun _ _ => False) w w' := by
  have hsz : (mk (natText X)).size = ndig X := by rw [mk_size, natText_length]
  have hp := ndig_pos X
  refine clear_yes2 (by rw [mk_toList]; exact natText_digs X) (by omega) (by omega) ?_ he
  by_cases h1 : ndig X = 1
  · exact .inl (by omega)
  · exact .inr (fun hh => natText_lead2 (by omega) hh)
end Go.Proofs.YtfhnkcdlphfbpaaGreatDoor
namespace Go.Proofs.YtfhnkcdlphfbpaaGreatDoor
open Go.RowKit

set_option maxRecDepth 100000 in
theorem fnModf_big {w : World} {f e : Int} {n : Bool} {s : ByteArray} (h : ¬ s.size ≤ 2147483647) : Calls Tryz.prog 3 #[.agg #[.int .i64 f, .bool n, .int .i32 e, .string s]] w fun e1 w' => e1 = .returned (.bool true) ∧ Fr (fun _ _ => False) w w' := by
  have HZ := Lib.hid (fun w1 => zz_big (w := w1) (f := f) (e := e) (n := n) h)
  clear h
  go_enter Tryz.func3, Tryz.ntmps3
  go_wp2_with fail
  refine (HZ.out _).mono ?_
  rintro e1 w2 ⟨rfl, k2⟩
  have K2 := Aside.mk k2
  clear k2
  go_wp2_with fail
  go_ret
  exact ⟨rfl, ((Fr.refl _ w).alloc _).trans K2.out⟩
set_option maxRecDepth 100000 in
theorem fnModf_not {w : World} {f e : Int} {n : Bool} {s : ByteArray} (g : Gv w) (h : s.size ≤ 2147483647) (hn : ¬ ClearP f e s) : Calls Tryz.prog 3 #[.agg #[.int .i64 f, .bool n, .int .i32 e, .string s]] w fun e1 w' => e1 = .returned (.bool true) ∧ Fr (fun _ _ => False) w w' := by
  have HZ := Lib.hid (fun w1 => zz_small (w := w1) (f := f) (e := e) (n := n) h)
  have hA : Hid (∀ w1, Fr (fun _ _ => False) w w1 → Calls Tryz.prog 10 #[] w1 fun e1 w2 => e1 = .returned (.bool true) ∧ Fr (fun _ _ => False) w1 w2) := Lib.hid (fun w1 q => alive (g.new q))
  have hC : Hid (∀ w1, Calls Tryz.prog 9 #[.agg #[.int .i64 f, .bool n, .int .i32 e, .string s]] w1 fun e1 w' => e1 = .returned (.bool false) ∧ Fr (fun _ _ => False) w1 w') := Lib.hid (fun w1 => by
    refine (clear_any (w := w1)).mono ?_
    rintro e1 w2 ⟨k, rfl | ⟨rfl, q⟩⟩
    · exact ⟨rfl, k⟩
    · exact absurd q hn)
  have B1 := D4.new (w := w) f e n s 23
  have F1 := (Fr.refl (fun _ _ => False) w).alloc (.cells #[.int .i64 f, .bool n, .int .i32 e, .string s] 23)
  have HB := Aside.mk B1
  have HF := Aside.mk F1
  clear h hn g B1 F1
  go_enter Tryz.func3, Tryz.ntmps3
  go_wp2_with fail
  refine (HZ.out _).mono ?_
  rintro e1 w2 ⟨rfl, k2⟩
  obtain ⟨d0, d1, d2, d3, _⟩ := E8.of (HB.out.fr k2 (fun _ q => q))
  have K2 := Aside.mk (HF.out.trans k2)
  clear k2 HZ
  go_wp2_with fail
  refine (hC.out _).mono ?_
  rintro e1 w3 ⟨rfl, k3⟩
  have K3 := Aside.mk (K2.out.trans k3)
  clear k3 hC
  go_wp2_with fail
  refine (hA.out _ K3.out).mono ?_
  rintro e1 w5 ⟨rfl, k5⟩
  have F5 := Aside.mk (K3.out.trans k5)
  clear k5
  go_wp2_with fail
  go_ret
  exact ⟨rfl, F5.out⟩
set_option maxRecDepth 100000 in
set_option maxHeartbeats 2000000 in
theorem fnModf_skip {w : World} {f e : Int} {n : Bool} {s : ByteArray} (g : Gv w) (h : s.size ≤ 2147483647) (hq : (f != 0) = true) : Calls Tryz.prog 3 #[.agg #[.int .i64 f, .bool n, .int .i32 e, .string s]] w fun e1 w' => e1 = .returned (.bool true) ∧ Fr (fun _ _ => False) w w' := by
  have HZ := Lib.hid (fun w1 => zz_small (w := w1) (f := f) (e := e) (n := n) h)
  have hA : Hid (∀ w1, Fr (fun _ _ => False) w w1 → Calls Tryz.prog 10 #[] w1 fun e1 w2 => e1 = .returned (.bool true) ∧ Fr (fun _ _ => False) w1 w2) := Lib.hid (fun w1 q => alive (g.new q))
  have hC : Hid (∀ w1, Calls Tryz.prog 9 #[.agg #[.int .i64 f, .bool n, .int .i32 e, .string s]] w1 fun e1 w' => Fr (fun _ _ => False) w1 w' ∧ (e1 = .returned (.bool false) ∨ e1 = .returned (.bool true))) := Lib.hid (fun w1 => by
    refine (clear_any (w := w1)).mono ?_
    rintro e1 w2 ⟨k, rfl | ⟨rfl, q⟩⟩
    · exact ⟨k, .inl rfl⟩
    · exact ⟨k, .inr rfl⟩)
  have B1 := D4.new (w := w) f e n s 23
  have F1 := (Fr.refl (fun _ _ => False) w).alloc (.cells #[.int .i64 f, .bool n, .int .i32 e, .string s] 23)
  have HB := Aside.mk B1
  have HF := Aside.mk F1
  clear h g B1 F1
  go_enter Tryz.func3, Tryz.ntmps3
  go_wp2_with fail
  refine (HZ.out _).mono ?_
  rintro e1 w2 ⟨rfl, k2⟩
  have B2 := HB.out.fr k2 (fun _ q => q)
  obtain ⟨d0, d1, d2, d3, _⟩ := E8.of B2
  have HB2 := Aside.mk B2
  have K2 := Aside.mk (HF.out.trans k2)
  clear k2 HZ B2
  go_wp2_with fail
  refine (hC.out _).mono ?_
  rintro e1 w3 ⟨k3, hb⟩
  obtain ⟨d0, d1, d2, d3, _⟩ := E8.of (HB2.out.fr k3 (fun _ q => q))
  have K3 := Aside.mk (K2.out.trans k3)
  clear k3 hC
  rcases hb with rfl | rfl
  all_goals
    go_wp2_with fail
    refine (hA.out _ K3.out).mono ?_
    rintro e1 w5 ⟨rfl, k5⟩
    have F5 := Aside.mk (K3.out.trans k5)
    clear k5
    go_wp2_with fail
    go_ret
    exact ⟨rfl, F5.out⟩
theorem wp_at {P : World → Prop} {prog : Program} {c : Code} {k : Exit → Act → World → Prop} {a : Act} {w : World} (hP : P w) (H : ∀ W, P W → Code.wp prog c k a W) : Code.wp prog c k a w := H w hP
theorem neq_dec (w : World) (f e : Int) (n : Bool) (s : ByteArray) : (binOp .neq 23 (.agg #[.int .i64 f, .bool n, .int .i32 e, .string s]) (.agg #[.int .i64 f, .bool n, .int .i32 e, .string s])).run Tryz.prog w = .ok (.bool false) w := by
  rw [run_neq_struct, run_equalIn_agg w 9999 23 _ _ under_dec held_dec, eqFields_same]
  · rfl
  · intro g hg
    have hm : (g.type, g.offset) ∈ ((Tryz.prog.fieldsOf 23).toList.map fun f => (f.type, f.offset)) := List.mem_map_of_mem (f := fun f : Field => (f.type, f.offset)) hg
    rw [fields_dec] at hm
    simp only [List.mem_cons, List.not_mem_nil, or_false, Prod.mk.injEq] at hm
    rcases hm with ⟨h1, h2⟩ | ⟨h1, h2⟩ | ⟨h1, h2⟩ | ⟨h1, h2⟩ <;> rw [h1, h2]
    · exact ⟨.int .i64 f, by simp [go_sem], by rw [run_equalIn_int w 9998 3 .i64 .i64 f f Tryz.underlying3]; simp⟩
    · exact ⟨.bool n, by simp [go_sem], by rw [run_equalIn_bool' w 9998 4 n n Tryz.underlying4]; simp⟩
    · exact ⟨.int .i32 e, by simp [go_sem], by rw [run_equalIn_int w 9998 21 .i32 .i32 e e Tryz.underlying21]; simp⟩
    · exact ⟨.string s, by simp [go_sem], by rw [run_equalIn_string w 9998 9 s s Tryz.underlying9]; simp⟩
theorem four_d4 {w W : World} {t : TypeId} (hW : (((w.alloc (.cells #[.int .i64 0, .bool false, .int .i32 0, .string ⟨#[]⟩] t)).alloc (.cells #[.int .i64 0, .bool false, .int .i32 0, .string ⟨#[]⟩] t)).alloc (.cells #[.int .i64 0, .bool false, .int .i32 0, .string ⟨#[]⟩] t)).alloc (.cells #[.int .i64 0, .bool false, .int .i32 0, .string ⟨#[]⟩] t) = W) :
    D4 W w.heap.size 0 false 0 ⟨#[]⟩ ∧ D4 W (w.heap.size + 1) 0 false 0 ⟨#[]⟩ ∧ D4 W (w.heap.size + 1 + 1) 0 false 0 ⟨#[]⟩ ∧ D4 W (w.heap.size + 1 + 1 + 1) 0 false 0 ⟨#[]⟩ ∧ Fr (fun _ _ => False) w W := by
  obtain ⟨w1, h1⟩ : ∃ x, w.alloc (.cells #[.int .i64 0, .bool false, .int .i32 0, .string ⟨#[]⟩] t) = x := ⟨_, rfl⟩
  obtain ⟨w2, h2⟩ : ∃ x, w1.alloc (.cells #[.int .i64 0, .bool false, .int .i32 0, .string ⟨#[]⟩] t) = x := ⟨_, rfl⟩
  obtain ⟨w3, h3⟩ : ∃ x, w2.alloc (.cells #[.int .i64 0, .bool false, .int .i32 0, .string ⟨#[]⟩] t) = x := ⟨_, rfl⟩
  rw [h1, h2, h3] at hW
  have s1 : w1.heap.size = w.heap.size + 1 := by rw [← h1]; simp
  have s2 : w2.heap.size = w.heap.size + 1 + 1 := by rw [← h2, ← s1]; simp
  have s3 : w3.heap.size = w.heap.size + 1 + 1 + 1 := by rw [← h3, ← s2]; simp
  have f1 : Fr (fun _ _ => False) w w1 := by rw [← h1]; exact (Fr.refl _ w).alloc _
  have f2 : Fr (fun _ _ => False) w1 w2 := by rw [← h2]; exact (Fr.refl _ w1).alloc _
  have f3 : Fr (fun _ _ => False) w2 w3 := by rw [← h3]; exact (Fr.refl _ w2).alloc _
  have f4 : Fr (fun _ _ => False) w3 W := by rw [← hW]; exact (Fr.refl _ w3).alloc _
  have d1 := D4.new (w := w) 0 0 false ⟨#[]⟩ t
  have d2 := D4.new (w := w1) 0 0 false ⟨#[]⟩ t
  have d3 := D4.new (w := w2) 0 0 false ⟨#[]⟩ t
  have d4 := D4.new (w := w3) 0 0 false ⟨#[]⟩ t
  rw [h1] at d1
  rw [h2, s1] at d2
  rw [h3, s2] at d3
  rw [hW, s3] at d4
  exact ⟨d1.fr (f2.trans (f3.trans f4)) (fun _ q => q), d2.fr (f3.trans f4) (fun _ q => q), d3.fr f4 (fun _ q => q), d4, f1.trans (f2.trans (f3.trans f4))⟩
theorem pv_len {e : Int} {X : Nat} (h : e ≤ 2500) (hX : ndig X ≤ 300) : (dlow (pv e X)).length ≤ 5300 := by
  have h1 : pv e X < 10 ^ (ndig X + (2500 + e).toNat) := by
    unfold pv
    rw [Nat.pow_add]
    exact Nat.mul_lt_mul_of_pos_right (lt_ndig X) (Nat.pow_pos (by omega))
  have := dlow_le h1
  omega
/-- The reference's value of a decimal in form. -/
theorem value_nt {w : World} {e : Int} {n : Bool} {X : Nat} (hG : NG ≤ w.heap.size) (hX : ndig X ≤ 300) (h0 : -2500 ≤ e) (h1 : e ≤ 2500) :
    Calls Tryz.prog 12 #[.agg #[.int .i64 0, .bool n, .int .i32 e, .string (mk (natText X))]] w fun e1 w' => ∃ a m c, e1 = .returned (.agg #[.bool (sg1 n (pv e X)), .slice a m c]) ∧ m ≤ 30000 ∧ Bf w' a m c (dlow (pv e X)) ∧ Fr (fun _ _ => False) w w' := by
  have hsz : (mk (natText X)).size = ndig X := by rw [mk_size, natText_length]
  have hp := ndig_pos X
  have e0 : numOf (mk (natText X)).data.toList = X := by rw [mk_toList, numOf_natText]
  have := value_any (w := w) (f := 0) (e := e) (n := n) (s := mk (natText X)) hG (by rw [mk_toList]; exact natText_digs X) (by omega) (by omega) ⟨h0, h1⟩
  rw [e0, Int.add_comm e 2500] at this
  exact this
theorem ndig_mono {X Y : Nat} (h : X ≤ Y) : ndig X ≤ ndig Y := by
  by_cases z : X = 0
  · subst z
    have : ndig 0 = 1 := by unfold ndig; rw [dif_pos (by omega)]
    have := ndig_pos Y
    omega
  · have h1 := ndig_le z
    have h2 := lt_ndig Y
    have h3 : 10 ^ (ndig X - 1) < 10 ^ ndig Y := by omega
    have := (Nat.pow_lt_pow_iff_right (by decide : 1 < 10)).1 h3
    have := ndig_pos X
    omega
theorem nsg_no (n : Bool) (V : Nat) : (n = true → ¬ nsg (sg1 n V) V > 0) ∧ (n = false → ¬ nsg (sg1 n V) V < 0) := by
  rw [nsg_sg1]
  constructor
  · rintro rfl
    split <;> simp
  · rintro rfl
    split <;> simp
set_option maxRecDepth 100000 in
set_option maxHeartbeats 4000000 in
theorem fnModf_end {w : World} {e : Int} {n : Bool} {X : Nat} (g : Gv w) (hX3 : ndig X ≤ 300) (he0 : -2500 ≤ e) (he1 : e ≤ 2500) :
    Calls Tryz.prog 3 #[.agg #[.int .i64 0, .bool n, .int .i32 e, .string (mk (natText X))]] w fun e1 w' => e1 = .returned (.bool true) ∧ Fr (fun _ _ => False) w w' := by
  have hsz : (mk (natText X)).size = ndig X := by rw [mk_size, natText_length]
  have hp := ndig_pos X
  have hdg : Digs (mk (natText X)).data.toList := by rw [mk_toList]; exact natText_digs X
  have hnum : numOf (mk (natText X)).data.toList = X := by rw [mk_toList, numOf_natText]
  obtain ⟨N, hN⟩ : ∃ N : Nat, N = 2500 := ⟨_, rfl⟩
  have hNi : ((N : Nat) : Int) = 2500 := by omega
  have qsum := pv_sum X he0 he1
  have qrest := pv_rest e X he0 he1 hN
  have qsmall := pv_small e X he0 he1 hN
  have rE := mvE_rng he0 he1
  have rF := mvF_rng he0 he1
  have ndX : ndig (mvX e X) ≤ 300 := Nat.le_trans (ndig_mono (mvX_le e X)) hX3
  have ndY : ndig (mvY e X) ≤ 300 := Nat.le_trans (ndig_mono (mvY_le e X)) hX3
  have HZ := Lib.hid (fun w1 => zz_small (w := w1) (f := 0) (e := e) (n := n) (s := mk (natText X)) (by omega))
  have hC : Hid (∀ w1, Calls Tryz.prog 9 #[.agg #[.int .i64 0, .bool n, .int .i32 e, .string (mk (natText X))]] w1 fun e1 w' => e1 = .returned (.bool true) ∧ Fr (fun _ _ => False) w1 w') := Lib.hid (fun w1 => clear_nt hX3 ⟨he0, he1⟩)
  have hA : Hid (∀ w1, Fr (fun _ _ => False) w w1 → Calls Tryz.prog 10 #[] w1 fun e1 w2 => e1 = .returned (.bool true) ∧ Fr (fun _ _ => False) w1 w2) := Lib.hid (fun w1 q => alive (g.new q))
  have hG : ∀ w1, Fr (fun _ _ => False) w w1 → NG ≤ w1.heap.size := fun w1 f => Nat.le_trans g.g.size f.size
  have HM := Lib.hid (fun w1 (q : Fr (fun _ _ => False) w w1) => modfI_any (w := w1) (e := e) (n := n) (g.new q) hdg (by omega) (by omega) he0 he1 hnum)
  have HCA : Hid (∀ w1, Calls Tryz.prog 9 #[.agg #[.int .i64 0, .bool n, .int .i32 (mvE e), .string (mk (natText (mvX e X)))]] w1 fun e1 w' => e1 = .returned (.bool true) ∧ Fr (fun _ _ => False) w1 w') := Lib.hid (fun w1 => clear_nt ndX ⟨by omega, rE.2⟩)
  have HCB : Hid (∀ w1, Calls Tryz.prog 9 #[.agg #[.int .i64 0, .bool n, .int .i32 (mvF e), .string (mk (natText (mvY e X)))]] w1 fun e1 w' => e1 = .returned (.bool true) ∧ Fr (fun _ _ => False) w1 w') := Lib.hid (fun w1 => clear_nt ndY ⟨rF.1, by omega⟩)
  have HVA := Lib.hid (fun w1 (q : Fr (fun _ _ => False) w w1) => value_nt (w := w1) (e := mvE e) (n := n) (X := mvX e X) (hG _ q) ndX (by omega) rE.2)
  have HVB := Lib.hid (fun w1 (q : Fr (fun _ _ => False) w w1) => value_nt (w := w1) (e := mvF e) (n := n) (X := mvY e X) (hG _ q) ndY rF.1 (by omega))
  have HVD := Lib.hid (fun w1 (q : Fr (fun _ _ => False) w w1) => value_nt (w := w1) (e := e) (n := n) (X := X) (hG _ q) hX3 he0 he1)
  have lA := pv_len (e := mvE e) rE.2 ndX
  have lB := pv_len (e := mvF e) (by omega) ndY
  have lD := pv_len he1 hX3
  obtain ⟨X1, hX1⟩ : ∃ v, mk (natText (mvX e X)) = v := ⟨_, rfl⟩
  obtain ⟨Y1, hY1⟩ : ∃ v, mk (natText (mvY e X)) = v := ⟨_, rfl⟩
  obtain ⟨s, hs⟩ : ∃ v, mk (natText X) = v := ⟨_, rfl⟩
  obtain ⟨VA, hVA⟩ : ∃ v, pv (mvE e) (mvX e X) = v := ⟨_, rfl⟩
  obtain ⟨VB, hVB⟩ : ∃ v, pv (mvF e) (mvY e X) = v := ⟨_, rfl⟩
  obtain ⟨VD, hVD⟩ : ∃ v, pv e X = v := ⟨_, rfl⟩
  obtain ⟨eE, heE⟩ : ∃ v, mvE e = v := ⟨_, rfl⟩
  obtain ⟨eF, heF⟩ : ∃ v, mvF e = v := ⟨_, rfl⟩
  rw [hX1, hVA, heE] at HVA
  rw [hY1, hVB, heF] at HVB
  rw [hs, hVD] at HVD
  rw [hs] at HZ hC ⊢
  rw [hs, hX1, hY1, heE, heF] at HM
  rw [hX1, heE] at HCA
  rw [hY1, heF] at HCB
  rw [hVA, hVB, hVD] at qsum
  rw [hVA] at qrest lA
  rw [hVB] at qsmall lB
  rw [hVD] at lD
  rw [heE] at rE
  rw [heF] at rF
  have HQ := Aside.mk (And.intro qsum (And.intro qrest (And.intro qsmall (And.intro lA (And.intro lB (And.intro lD (And.intro hN hNi)))))))
  have c1 : ¬ eE < 0 := by omega
  have c2 : ¬ (0 : Int) < eF := by omega
  have c3 : ¬ eF > 0 := c2
  have hGA := Aside.mk hG
  have B1 := D4.new (w := w) 0 e n s 23
  have F1 := (Fr.refl (fun _ _ => False) w).alloc (.cells #[.int .i64 0, .bool n, .int .i32 e, .string s] 23)
  have HB := Aside.mk B1
  have HF := Aside.mk F1
  have NSA := Aside.mk (nsg_no n VA)
  have NSB := Aside.mk (nsg_no n VB)
  obtain ⟨d0, d1, d2, d3, _⟩ := E8.of B1
  clear g hX3 he0 he1 hsz hp hdg hnum hN hNi qsum qrest qsmall rE rF ndX ndY hG lA lB lD hX1 hY1 hs hVA hVB hVD heE heF B1 F1
  go_enter Tryz.func3, Tryz.ntmps3
  go_wp2_with fail
  refine (HZ.out _).mono ?_
  rintro e1 w2 ⟨rfl, k2⟩
  have B2 := HB.out.fr k2 (fun _ q => q)
  have K2 := Aside.mk (HF.out.trans k2)
  have HB2 := Aside.mk B2
  obtain ⟨d0, d1, d2, d3, _⟩ := E8.of B2
  clear k2 B2 HZ
  go_wp2_with fail
  refine (hC.out _).mono ?_
  rintro e1 w3 ⟨rfl, k3⟩
  have B3 := HB2.out.fr k3 (fun _ q => q)
  have K3 := Aside.mk (K2.out.trans k3)
  have HB3 := Aside.mk B3
  obtain ⟨d0, d1, d2, d3, _⟩ := E8.of B3
  clear k3 B3 hC
  go_wp2_with fail
  refine (HM.out _ K3.out).mono ?_
  rintro e1 w4 ⟨rfl, k4⟩
  obtain ⟨W, hW⟩ : ∃ W, (((w4.alloc (.cells #[.int .i64 0, .bool false, .int .i32 0, .string ⟨#[]⟩] 23)).alloc (.cells #[.int .i64 0, .bool false, .int .i32 0, .string ⟨#[]⟩] 23)).alloc (.cells #[.int .i64 0, .bool false, .int .i32 0, .string ⟨#[]⟩] 23)).alloc (.cells #[.int .i64 0, .bool false, .int .i32 0, .string ⟨#[]⟩] 23) = W := ⟨_, rfl⟩
  obtain ⟨z1, z2, z3, z4, z5⟩ := four_d4 hW
  have ZZ := Aside.mk (And.intro z1 (And.intro z2 (And.intro z3 (And.intro z4 (And.intro z5 k4)))))
  obtain ⟨m0, m1, m2, m3, m4, m5, m6, m7⟩ := E8.of z1
  obtain ⟨n0, n1, n2, n3, n4, n5, n6, n7⟩ := E8.of z2
  obtain ⟨o0, o1, o2, o3, o4, o5, o6, o7⟩ := E8.of z3
  obtain ⟨p0, p1, p2, p3, p4, p5, p6, p7⟩ := E8.of z4
  clear z1 z2 z3 z4 z5 k4 HM d0 d1 d2 d3
  go_upto_region 6 with fail
  clear m0 m1 m2 m3 m4 m5 m6 m7 n0 n1 n2 n3 n4 n5 n6 n7 o0 o1 o2 o3 o4 o5 o6 o7 p0 p1 p2 p3 p4 p5 p6 p7 hW
  obtain ⟨z1, z2, z3, z4, z5, k4⟩ := ZZ.out
  refine wp_at (P := fun W5 => D4 W5 w4.heap.size 0 n eE X1 ∧ D4 W5 (w4.heap.size + 1) 0 n eF Y1 ∧ D4 W5 (w4.heap.size + 1 + 1) 0 n eE X1 ∧ D4 W5 (w4.heap.size + 1 + 1 + 1) 0 n eF Y1 ∧ Fr (fun _ _ => False) w3 W5) ⟨((((z1).put (f' := 0) (n' := n) (e' := eE) (s' := X1)).oth (p := w4.heap.size + 1) (by omega) (.int .i64 0) (.bool n) (.int .i32 eF) (.string Y1)).oth (p := w4.heap.size + 1 + 1) (by omega) (.int .i64 0) (.bool n) (.int .i32 eE) (.string X1)).oth (p := w4.heap.size + 1 + 1 + 1) (by omega) (.int .i64 0) (.bool n) (.int .i32 eF) (.string Y1), ((((z2).oth (p := w4.heap.size) (by omega) (.int .i64 0) (.bool n) (.int .i32 eE) (.string X1)).put (f' := 0) (n' := n) (e' := eF) (s' := Y1)).oth (p := w4.heap.size + 1 + 1) (by omega) (.int .i64 0) (.bool n) (.int .i32 eE) (.string X1)).oth (p := w4.heap.size + 1 + 1 + 1) (by omega) (.int .i64 0) (.bool n) (.int .i32 eF) (.string Y1), ((((z3).oth (p := w4.heap.size) (by omega) (.int .i64 0) (.bool n) (.int .i32 eE) (.string X1)).oth (p := w4.heap.size + 1) (by omega) (.int .i64 0) (.bool n) (.int .i32 eF) (.string Y1)).put (f' := 0) (n' := n) (e' := eE) (s' := X1)).oth (p := w4.heap.size + 1 + 1 + 1) (by omega) (.int .i64 0) (.bool n) (.int .i32 eF) (.string Y1), ((((z4).oth (p := w4.heap.size) (by omega) (.int .i64 0) (.bool n) (.int .i32 eE) (.string X1)).oth (p := w4.heap.size + 1) (by omega) (.int .i64 0) (.bool n) (.int .i32 eF) (.string Y1)).oth (p := w4.heap.size + 1 + 1) (by omega) (.int .i64 0) (.bool n) (.int .i32 eE) (.string X1)).put (f' := 0) (n' := n) (e' := eF) (s' := Y1), ?_⟩ (fun W5 h5 => ?_)
  · have s4 := k4.size
    exact (((((((((((((((((k4.trans z5)).setCell (w4.heap.size) 0 (.int .i64 0) (fun q => by omega)).setCell (w4.heap.size) 1 (.bool n) (fun q => by omega)).setCell (w4.heap.size) 2 (.int .i32 eE) (fun q => by omega)).setCell (w4.heap.size) 3 (.string X1) (fun q => by omega)).setCell (w4.heap.size + 1) 0 (.int .i64 0) (fun q => by omega)).setCell (w4.heap.size + 1) 1 (.bool n) (fun q => by omega)).setCell (w4.heap.size + 1) 2 (.int .i32 eF) (fun q => by omega)).setCell (w4.heap.size + 1) 3 (.string Y1) (fun q => by omega)).setCell (w4.heap.size + 1 + 1) 0 (.int .i64 0) (fun q => by omega)).setCell (w4.heap.size + 1 + 1) 1 (.bool n) (fun q => by omega)).setCell (w4.heap.size + 1 + 1) 2 (.int .i32 eE) (fun q => by omega)).setCell (w4.heap.size + 1 + 1) 3 (.string X1) (fun q => by omega)).setCell (w4.heap.size + 1 + 1 + 1) 0 (.int .i64 0) (fun q => by omega)).setCell (w4.heap.size + 1 + 1 + 1) 1 (.bool n) (fun q => by omega)).setCell (w4.heap.size + 1 + 1 + 1) 2 (.int .i32 eF) (fun q => by omega)).setCell (w4.heap.size + 1 + 1 + 1) 3 (.string Y1) (fun q => by omega)
  obtain ⟨pa, hpa⟩ : ∃ p, w4.heap.size = p := ⟨_, rfl⟩
  rw [hpa] at h5 ⊢
  have H5 := Aside.mk h5
  have F5 := Aside.mk (K3.out.trans h5.2.2.2.2)
  have HD5 := Aside.mk (HB3.out.fr h5.2.2.2.2 (fun _ q => q))
  clear ZZ z1 z2 z3 z4 z5 k4 hpa
  obtain ⟨m0, m1, m2, m3, _⟩ := E8.of h5.1
  obtain ⟨n0, n1, n2, n3, _⟩ := E8.of h5.2.1
  obtain ⟨o0, o1, o2, o3, _⟩ := E8.of h5.2.2.1
  obtain ⟨p0, p1, p2, p3, _⟩ := E8.of h5.2.2.2.1
  have q1 := neq_dec W5 0 eE n X1
  have q2 := neq_dec W5 0 eF n Y1
  clear h5
  go_wp2_with fail
  refine (HCA.out _).mono ?_
  rintro e1 w6 ⟨rfl, k6⟩
  have F6 := Aside.mk k6
  obtain ⟨m0, m1, m2, m3, _⟩ := E8.of (H5.out.1.fr k6 (fun _ q => q))
  obtain ⟨n0, n1, n2, n3, _⟩ := E8.of (H5.out.2.1.fr k6 (fun _ q => q))
  clear k6 HCA o0 o1 o2 o3 p0 p1 p2 p3 q1 q2
  go_wp2_with fail
  refine (HCB.out _).mono ?_
  rintro e1 w7 ⟨rfl, k7⟩
  have F7 := Aside.mk (F6.out.trans k7)
  obtain ⟨m0, m1, m2, m3, _⟩ := E8.of (H5.out.1.fr F7.out (fun _ q => q))
  obtain ⟨n0, n1, n2, n3, _⟩ := E8.of (H5.out.2.1.fr F7.out (fun _ q => q))
  clear k7 HCB F6
  go_upto_region 8 with fail
  clear m0 m1 m2 m3 n0 n1 n2 n3
  have F8 := Aside.mk (F5.out.trans F7.out)
  refine wp_QN (mr8 (by kernel_rfl) (Aside.mk (H5.out.1.fr F7.out (fun _ q => q))) (Aside.mk (H5.out.2.1.fr F7.out (fun _ q => q))) (Lib.hid (fun w1 f => HVA.out w1 (F8.out.trans f))) (Lib.hid (fun w1 f => HVB.out w1 (F8.out.trans f))) _ _ _ _ _ _ _ _ _ _ _ _ _ _ _ _ _ _ _ _ _ _ _ _ _ _ _ _ _ _ _ _ _ _ _ _ _ _ _ _ _ _ _ _ _ _ _ _ _ _ _ _ _ _ _ _ _ _ _ _ _ _ _ _ _ _ _ _ _ _ _ _ _ _ _ _ _ _ _ _ _ _ _ _ _ _ _ _ _ _ _ _ _ _ _ _ _ _ _ _ _ _ _ _ _ _ _ _ _ _ _ _ _ _ _ _ _ _ _ _ _ _ _ _ _ ⟨?_⟩)
  intro p7 p8 v68 v69 v70 v71 W8 n7 n8 f8
  have F9 := Aside.mk (F8.out.trans f8)
  have HD9 := Aside.mk ((HD5.out.fr F7.out (fun _ q => q)).fr f8 (fun _ q => q))
  clear f8 F8 F7 H5 F5 HD5 HVA HVB
  obtain ⟨aX, mX, cX, x0, x1, lx, bx⟩ := n7
  obtain ⟨aY, mY, cY, y0, y1, ly, bY⟩ := n8
  have l7 := World.block_lt_of_cell? W8 _ x0
  have l8 := World.block_lt_of_cell? W8 _ y0
  have SX := Lib.hid (fun w1 (f : Fr (fun _ _ => False) W8 w1) => nsign_any (sg1 n VA) (bx.fr f (fun _ _ _ q => q)))
  have SY := Lib.hid (fun w1 (f : Fr (fun _ _ => False) W8 w1) => nsign_any (sg1 n VB) (bY.fr f (fun _ _ _ q => q)))
  have BX := Aside.mk bx
  have BY := Aside.mk bY
  obtain ⟨sX, hsX⟩ : ∃ v, sg1 n VA = v := ⟨_, rfl⟩
  obtain ⟨sY, hsY⟩ : ∃ v, sg1 n VB = v := ⟨_, rfl⟩
  have HSG := Aside.mk (And.intro hsX hsY)
  have nsa := NSA.out
  have nsb := NSB.out
  rw [hsX] at SX nsa x0
  rw [hsY] at SY nsb y0
  obtain ⟨tX, htX⟩ : ∃ v, nsg sX VA = v := ⟨_, rfl⟩
  obtain ⟨tY, htY⟩ : ∃ v, nsg sY VB = v := ⟨_, rfl⟩
  rw [htX] at SX nsa
  rw [htY] at SY nsb
  obtain ⟨d0, d1, d2, d3, _⟩ := E8.of HD9.out
  have CX := Aside.mk (And.intro x0 (And.intro x1 (And.intro y0 (And.intro y1 (And.intro l7 l8)))))
  clear bx bY lx ly hsX hsY htX htY NSA NSB l7 l8 d0 d2 d3
  rcases Bool.eq_false_or_eq_true n with hn | hn
  case' inl =>
    rw [hn] at d1
    have c4 : ¬ tX > 0 := by have := nsa.1 hn; omega
    have c5 : ¬ tY > 0 := by have := nsb.1 hn; omega
    have c6 : ¬ (0 : Int) < tX := c4
    have c7 : ¬ (0 : Int) < tY := c5
    clear nsa nsb
    go_wp2_with fail
    refine (SX.out _ (Fr.refl _ _)).mono ?_
    rintro e1 wa ⟨rfl, ka⟩
    have FA := Aside.mk ka
    obtain ⟨_, e1, _, _, _⟩ := E8.of (HD9.out.fr ka (fun _ q => q))
    rw [hn] at e1
    have y0 := (ka.cell p8 0 CX.out.2.2.2.2.2 (fun q => q)).trans CX.out.2.2.1
    have y1 := (ka.cell p8 1 CX.out.2.2.2.2.2 (fun q => q)).trans CX.out.2.2.2.1
    clear d1 x0 x1 ka SX
    go_wp2_with fail
    refine (SY.out _ FA.out).mono ?_
    rintro e2 wb ⟨rfl, kb⟩
    have FB := Aside.mk (FA.out.trans kb)
    obtain ⟨_, e2, _, _, _⟩ := E8.of (HD9.out.fr FB.out (fun _ q => q))
    rw [hn] at e2
    clear e1 y0 y1 kb SY FA hn
    go_upto_region 11 with fail
    clear e2 c4 c5 c6 c7
  case' inr =>
    rw [hn] at d1
    have c4 : ¬ tX < 0 := by have := nsa.2 hn; omega
    have c5 : ¬ tY < 0 := by have := nsb.2 hn; omega
    clear nsa nsb
    go_wp2_with fail
    refine (SX.out _ (Fr.refl _ _)).mono ?_
    rintro e1 wa ⟨rfl, ka⟩
    have FA := Aside.mk ka
    obtain ⟨_, e1, _, _, _⟩ := E8.of (HD9.out.fr ka (fun _ q => q))
    rw [hn] at e1
    have y0 := (ka.cell p8 0 CX.out.2.2.2.2.2 (fun q => q)).trans CX.out.2.2.1
    have y1 := (ka.cell p8 1 CX.out.2.2.2.2.2 (fun q => q)).trans CX.out.2.2.2.1
    clear d1 x0 x1 ka SX
    go_wp2_with fail
    refine (SY.out _ FA.out).mono ?_
    rintro e2 wb ⟨rfl, kb⟩
    have FB := Aside.mk (FA.out.trans kb)
    obtain ⟨_, e2, _, _, _⟩ := E8.of (HD9.out.fr FB.out (fun _ q => q))
    rw [hn] at e2
    clear e1 y0 y1 kb SY FA hn
    go_upto_region 11 with fail
    clear e2 c4 c5
  all_goals
    have FB9 := Aside.mk (F9.out.trans FB.out)
    have bx := BX.out.fr FB.out (fun _ _ _ q => q)
    have bY := BY.out.fr FB.out (fun _ _ _ q => q)
    have lmx : mX ≤ 5300 := by have e := bx.len; rw [← e]; exact HQ.out.2.2.2.1
    have lmy : mY ≤ 5300 := by have e := bY.len; rw [← e]; exact HQ.out.2.2.2.2.1
    have hN := HQ.out.2.2.2.2.2.2.1
    have hNi := HQ.out.2.2.2.2.2.2.2
    have x0 := (FB.out.cell p7 0 CX.out.2.2.2.2.1 (fun q => q)).trans CX.out.1
    have x1 := (FB.out.cell p7 1 CX.out.2.2.2.2.1 (fun q => q)).trans CX.out.2.1
    have y0 := (FB.out.cell p8 0 CX.out.2.2.2.2.2 (fun q => q)).trans CX.out.2.2.1
    have y1 := (FB.out.cell p8 1 CX.out.2.2.2.2.2 (fun q => q)).trans CX.out.2.2.2.1
    have l7 := Nat.lt_of_lt_of_le CX.out.2.2.2.2.1 FB.out.size
    have l8 := Nat.lt_of_lt_of_le CX.out.2.2.2.2.2 FB.out.size
    refine wp_QN (mr11 (by kernel_rfl) (R := VA % 10 ^ N) (yq := sg1 (sX != false) (VA / 10 ^ N)) (yr := sg1 sX (VA % 10 ^ N)) l7 x0 x1 (Lib.hid (fun w1 f => by
      have T := ten_any (w := w1) N (hGA.out _ (FB9.out.trans f)) (by omega)
      rw [hNi] at T
      refine T.mono ?_
      rintro e1 w2 ⟨a, rfl, k1, k2⟩
      refine ⟨a, _, _, rfl, Lib.hid (fun w3 f3 => ?_), k2⟩
      refine (quorem_any sX false (hGA.out _ (FB9.out.trans ((f.trans k2).trans f3))) (bx.fr ((f.trans k2).trans f3) (fun _ _ _ q => q)) (k1.fr f3 (fun _ _ _ q => q)) (Nat.pow_pos (by omega)) (by omega) (by omega)).mono ?_
      rintro e1 w4 ⟨qa, qm, qc, ra, rm, rc, rfl, K⟩
      exact ⟨qa, qm, qc, ra, rm, rc, rfl, ⟨by have := K.out.2.1; omega, K.out.2.2.2.1⟩, K.out.2.2.2.2⟩)) _ _ _ _ _ _ _ _ _ _ _ _ _ _ _ _ _ _ _ _ _ _ _ _ _ _ _ _ _ _ _ _ _ _ _ _ _ _ _ _ _ _ _ _ _ _ _ _ _ _ _ _ _ _ _ _ _ _ _ _ _ _ _ _ _ _ _ _ _ _ _ _ _ _ _ _ _ _ _ _ _ _ _ _ _ _ _ _ _ _ _ _ _ _ _ _ _ _ _ _ _ _ _ _ _ _ _ _ _ _ _ _ _ _ _ _ _ _ _ _ _ _ _ _ _ _ ⟨?_⟩)
    intro p10 v100 v101 v102 v99 v103 v104 v9 W11 n10 f11
    obtain ⟨aR, mR, cR, r0, r1, _, bR⟩ := n10
    have F11 := FB9.out.trans f11
    have D11 := HD9.out.fr (FB.out.trans f11) (fun _ q => q)
    have bx2 := bx.fr f11 (fun _ _ _ q => q)
    have bY2 := bY.fr f11 (fun _ _ _ q => q)
    have hzero : decide (VA % 10 ^ N = 0) = true := by rw [HQ.out.2.1]; rfl
    have hcmp : cmpS false VB false (10 ^ N) = -1 := by
      unfold cmpS
      simp only [Bool.false_eq_true, if_false]
      exact sg_lt HQ.out.2.2.1
    have hsum : addS sX VA sY VB = (sg1 n VD, VD) := by
      rw [← HSG.out.1, ← HSG.out.2, addS_same, HQ.out.1]
    have hcc : cmpS (sg1 n VD) VD (sg1 n VD) VD = 0 := by unfold cmpS; cases sg1 n VD <;> simp [sg_eq]
    try go_upto_region 12 with fail
    refine wp_QN (mr12 (by kernel_rfl) ⟨D11⟩ (Nat.lt_of_lt_of_le l7 f11.size) ((f11.cell p7 0 l7 (fun q => q)).trans x0) ((f11.cell p7 1 l7 (fun q => q)).trans x1) (Nat.lt_of_lt_of_le l8 f11.size) ((f11.cell p8 0 l8 (fun q => q)).trans y0) ((f11.cell p8 1 l8 (fun q => q)).trans y1) (World.block_lt_of_cell? W11 _ r0) r0 r1
      (Lib.hid (fun w1 f => hA.out w1 (F11.trans f)))
      (Lib.hid (fun w1 f => by
        have Z := zero_any (sg1 sX (VA % 10 ^ N)) (bR.fr f (fun _ _ _ q => q))
        rw [hzero] at Z
        exact Z))
      (Lib.hid (fun w1 f => by
        refine (numAbs_any (s := sY) (bY2.fr f (fun _ _ _ q => q))).mono ?_
        rintro e1 w2 ⟨rfl, k1, k2⟩
        refine ⟨false, _, _, _, rfl, Lib.hid (fun w3 f3 => ?_), k2⟩
        have T := ten_any (w := w3) N (hGA.out _ (F11.trans ((f.trans k2).trans f3))) (by omega)
        rw [hNi] at T
        refine T.mono ?_
        rintro e1 w4 ⟨a, rfl, k3, k4⟩
        refine ⟨false, _, _, _, rfl, Lib.hid (fun w5 f5 => ?_), k4⟩
        have Q := ncmp_any (w := w5) false false (k1.fr ((f3.trans k4).trans f5) (fun _ _ _ q => q)) (k3.fr f5 (fun _ _ _ q => q)) (by omega) (by omega)
        rw [hcmp] at Q
        exact Q))
      (Lib.hid (fun w1 f => by
        have S := add_any sX sY (hGA.out _ (F11.trans f)) (bx2.fr f (fun _ _ _ q => q)) (bY2.fr f (fun _ _ _ q => q)) (by omega) (by omega)
        rw [hsum] at S
        refine S.mono ?_
        rintro e1 w2 ⟨a, m, c, rfl, hm, k1, k2⟩
        refine ⟨_, _, _, _, rfl, Lib.hid (fun w3 f3 => ?_), k2⟩
        refine (HVD.out w3 (F11.trans ((f.trans k2).trans f3))).mono ?_
        rintro e1 w4 ⟨a2, m2, c2, rfl, hm2, k3, k4⟩
        refine ⟨_, _, _, _, rfl, Lib.hid (fun w5 f5 => ?_), k4⟩
        have Q := ncmp_any (w := w5) (sg1 n VD) (sg1 n VD) (k1.fr ((f3.trans k4).trans f5) (fun _ _ _ q => q)) (k3.fr f5 (fun _ _ _ q => q)) (by omega) (by omega)
        rw [hcc] at Q
        exact Q)) _ _ _ _ _ _ _ _ _ _ _ _ _ _ _ _ _ _ _ _ _ _ _ _ _ _ _ _ _ _ _ _ _ _ _ _ _ _ _ _ _ _ _ _ _ _ _ _ _ _ _ _ _ _ _ _ _ _ _ _ _ _ _ _ _ _ _ _ _ _ _ _ _ _ _ _ _ _ _ _ _ _ _ _ _ _ _ _ _ _ _ _ _ _ _ _ _ _ _ _ _ _ _ _ _ _ _ _ _ _ _ _ _ _ _ _ _ _ _ _ _ _ _ ⟨?_⟩)
    intro v105 v106 v107 v108 v109 v110 v111 v112 v113 v114 v115 v116 v117 v118 v119 v120 v121 v122 v123 v124 v125 W12 f12
    have F12 := Aside.mk (F11.trans f12)
    clear f12 F11 f11 D11 bx2 bY2 hzero hcmp hsum hcc bR bx bY
    go_wp2_with fail
    go_ret
    exact ⟨rfl, F12.out⟩
theorem fnModf_any {w : World} {f e : Int} {n : Bool} {s : ByteArray} (g : Gv w) : Calls Tryz.prog 3 #[.agg #[.int .i64 f, .bool n, .int .i32 e, .string s]] w fun e1 w' => e1 = .returned (.bool true) ∧ Fr (fun _ _ => False) w w' := by
  by_cases hz : s.size ≤ 2147483647
  case neg => exact fnModf_big hz
  by_cases hc : ClearP f e s
  case neg => exact fnModf_not g hz hc
  obtain ⟨hdg, hp, h300, hfr, hnt, he, _⟩ := hc.all
  by_cases hf : f = 0
  case neg => exact fnModf_skip g hz (by simp [hf])
  subst hf
  have hs : mk (natText (numOf s.data.toList)) = s := by rw [hnt]; exact (mk_of s).symm
  have hl : ndig (numOf s.data.toList) ≤ 300 := by
    have h1 := natText_length (numOf s.data.toList)
    rw [hnt] at h1
    have h2 : s.data.toList.length = s.size := rfl
    omega
  have := fnModf_end (w := w) (e := e) (n := n) g hl he.1 he.2
  rw [hs] at this
  exact this
end Go.Proofs.YtfhnkcdlphfbpaaGreatDoor
