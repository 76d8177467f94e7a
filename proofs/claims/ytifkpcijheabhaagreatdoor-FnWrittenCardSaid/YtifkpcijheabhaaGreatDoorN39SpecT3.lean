/- The reference's texts: plain, Text. -/
import Derived.Test.YtifkpcijheabhaaGreatDoorN38SpecT2
import Derived.Test.YtifkpcijheabhaaGreatDoorN37Writ2
import Derived.Deep.RegionHeld3
set_option linter.unusedSimpArgs false
set_option linter.unusedVariables false
namespace Go.Proofs.YtifkpcijheabhaaGreatDoor
open Go.RowKit

theorem mk_nil_app (l : List UInt8) : (⟨#[]⟩ : ByteArray) ++ mk l = mk l := by rw [show (⟨#[]⟩ : ByteArray) = mk [] from rfl, ← mk_append]; rfl
theorem eq_48 {s : ByteArray} (h : s.data.toList = [48]) : s = ⟨#[48]⟩ := by rw [mk_of s, h]; rfl
set_option maxRecDepth 100000 in
theorem plain_high {w : World} {f : Int} {n : Bool} {s : ByteArray} (z : Nat) (hG : NG ≤ w.heap.size) (hz : z ≤ 5000) (hs : s.size ≤ 300) :
    Calls Tryz.prog 29 #[.agg #[.int .i64 f, .bool n, .int .i32 z, .string s]] w fun e1 w' => e1 = .returned (.string (s ++ mk (List.replicate z 48))) ∧ Fr (fun _ _ => False) w w' := by
  have FF := Aside.mk ((Fr.refl (fun _ _ => False) w).alloc (.cells #[.int .i64 f, .bool n, .int .i32 z, .string s] 23))
  have HN : Hid (∀ w1, Fr (fun _ _ => False) (w.alloc (.cells #[.int .i64 f, .bool n, .int .i32 z, .string s] 23)) w1 → Calls Tryz.prog 50 #[.int .i64 z] w1 fun e1 w' => e1 = .returned (.string (mk (List.replicate z 48))) ∧ w'.cell? ⟨w.heap.size, 3, none⟩ = some (.string s) ∧ Aside (Fr (fun _ _ => False) w w')) := Lib.hid (fun w1 q => by
    have f1 := ((Fr.refl (fun _ _ => False) w).alloc (.cells #[.int .i64 f, .bool n, .int .i32 z, .string s] 23)).trans q
    refine (noughts_any (w := w1) z (Nat.le_trans hG f1.size) (by omega)).mono ?_
    rintro e1 w' ⟨rfl, k⟩
    exact ⟨rfl, (((D4.new (w := w) f z n s 23).fr q (fun _ q => q)).fr k (fun _ q => q)).c3.cell, ⟨f1.trans k⟩⟩)
  have hzz : (mk (List.replicate z 48)).size ≤ 5000 := by rw [mk_size]; simp; omega
  by_cases h1 : s.data.toList = [48]
  · have hs' : (s.toList == [48]) = true := by rw [ByteArray.toList_eq, beq_iff_eq]; exact h1
    have e1 := eq_48 h1
    have E1 := Aside.mk e1
    clear h1 e1
    go_enter Tryz.func29, Tryz.ntmps29
    go_wp2_with fail
    refine (HN.out _ (by repeat first | exact Fr.refl _ _ | refine Fr.drewN ?_ _ | refine Fr.drew ?_ | refine Fr.alloc ?_ _)).mono ?_
    rintro e1 w2 ⟨rfl, hc3, K2⟩
    go_wp2_with fail
    go_ret
    exact ⟨by rw [E1.out]; rfl, K2.out⟩
  · have hs' : (s.toList == [48]) = false := by rw [ByteArray.toList_eq, beq_eq_false_iff_ne]; exact h1
    clear h1
    go_enter Tryz.func29, Tryz.ntmps29
    go_wp2_with fail
    go_region_with (go_at_call 50; go_must (refine (HN.out _ (by repeat first | exact Fr.refl _ _ | refine Fr.drewN ?_ _ | refine Fr.drew ?_)).mono ?_; rintro e1 w2 ⟨rfl, hc3, K2⟩))
    all_goals
      go_wp2_with fail
      go_ret
      exact ⟨rfl, K2.out⟩
set_option maxRecDepth 100000 in
theorem plain_mid {w : World} {f : Int} {n : Bool} {s : ByteArray} (k q : Nat) (hG : NG ≤ w.heap.size) (hq : 0 < q) (hk : 0 < k) (hs : s.size = k + q) (h3 : s.size ≤ 300) :
    Calls Tryz.prog 29 #[.agg #[.int .i64 f, .bool n, .int .i32 (-(q : Int)), .string s]] w fun e1 w' => e1 = .returned (.string (s.extract 0 k ++ mk [46] ++ s.extract k s.size)) ∧ Fr (fun _ _ => False) w w' := by
  have hk1 : (s.size : Int) + -(q : Int) = (k : Int) := by omega
  have hk2 : (s.size : Int) - (q : Int) = (k : Int) := by omega
  have hq1 : ¬ (-(q : Int)) ≥ 0 := by omega
  have hq2 : ¬ (0 : Int) ≤ (-(q : Int)) := by omega
  have hlt : (q : Int) < (s.size : Int) := by omega
  have hkn : k ≤ s.size := by omega
  clear hs
  go_enter Tryz.func29, Tryz.ntmps29
  go_wp2_with fail
  go_quiet (fail)
  go_wp2_with fail
  go_ret
  exact ⟨rfl, ((Fr.refl _ w).alloc _).drewN _⟩
set_option maxRecDepth 100000 in
set_option maxHeartbeats 2000000 in
theorem plain_low {w : World} {f : Int} {n : Bool} {s : ByteArray} (z : Nat) (hG : NG ≤ w.heap.size) (h0 : 0 < s.size) (hz : z ≤ 5000) (h3 : s.size ≤ 300) :
    Calls Tryz.prog 29 #[.agg #[.int .i64 f, .bool n, .int .i32 (-((s.size + z : Nat) : Int)), .string s]] w fun e1 w' => e1 = .returned (.string (mk [48, 46] ++ mk (List.replicate z 48) ++ s)) ∧ Fr (fun _ _ => False) w w' := by
  have hzz : (mk (List.replicate z 48)).size ≤ 5000 := by rw [mk_size]; simp; omega
  obtain ⟨E, hE⟩ : ∃ E : Int, -((s.size + z : Nat) : Int) = E := ⟨_, rfl⟩
  rw [hE]
  have FF := Aside.mk ((Fr.refl (fun _ _ => False) w).alloc (.cells #[.int .i64 f, .bool n, .int .i32 E, .string s] 23))
  have HN : Hid (∀ w1, Fr (fun _ _ => False) (w.alloc (.cells #[.int .i64 f, .bool n, .int .i32 E, .string s] 23)) w1 → Calls Tryz.prog 50 #[.int .i64 z] w1 fun e1 w' => e1 = .returned (.string (mk (List.replicate z 48))) ∧ w'.cell? ⟨w.heap.size, 3, none⟩ = some (.string s) ∧ Aside (Fr (fun _ _ => False) w w')) := Lib.hid (fun w1 q => by
    have f1 := ((Fr.refl (fun _ _ => False) w).alloc (.cells #[.int .i64 f, .bool n, .int .i32 E, .string s] 23)).trans q
    refine (noughts_any (w := w1) z (Nat.le_trans hG f1.size) (by omega)).mono ?_
    rintro e1 w' ⟨rfl, k⟩
    exact ⟨rfl, (((D4.new (w := w) f E n s 23).fr q (fun _ q => q)).fr k (fun _ q => q)).c3.cell, ⟨f1.trans k⟩⟩)
  have h1 : ¬ E ≥ 0 := by omega
  have h1' : ¬ (0 : Int) ≤ E := by omega
  have h2 : ¬ (-E) < (s.size : Int) := by omega
  have hs3 : (s.size : Int) ≤ 300 := by omega
  have h5 : -10000 ≤ E := by omega
  have hw1 : IntKind.i64.wrap (-E) = -E := by rw [IntKind.wrap_i64]; omega
  have hw2 : IntKind.i64.wrap (-E - (s.size : Int)) = (z : Int) := by rw [IntKind.wrap_i64]; omega
  have hc3W := (D4.new (w := w) f E n s 23).c3.cell
  have hc2W := (D4.new (w := w) f E n s 23).c2.cell
  clear hE
  go_enter Tryz.func29, Tryz.ntmps29
  go_upto_region 1 with fail
  obtain ⟨W0, hW0⟩ : ∃ x, w.alloc (.cells #[.int .i64 f, .bool n, .int .i32 E, .string s] 23) = x := ⟨_, rfl⟩
  simp only [hW0] at hc3W hc2W HN FF ⊢
  clear hW0
  go_wp2_with fail
  go_region_with (go_at_call 50; go_must (refine (HN.out _ (by repeat first | exact Fr.refl _ _ | refine Fr.drewN ?_ _ | refine Fr.drew ?_)).mono ?_; rintro e1 w2 ⟨rfl, hc3, K2⟩))
  all_goals
    go_wp2_with fail
    go_ret
    exact ⟨rfl, K2.out⟩
theorem plain_any2 {w : World} {f e : Int} {n : Bool} {s : ByteArray} (hG : NG ≤ w.heap.size) (he : -5000 ≤ e ∧ e ≤ 5000) (h0 : 0 < s.size) (hs : s.size ≤ 300) :
    Calls Tryz.prog 29 #[.agg #[.int .i64 f, .bool n, .int .i32 e, .string s]] w fun e1 w' => e1 = .returned (.string (mk (plainL s.data.toList e))) ∧ Fr (fun _ _ => False) w w' := by
  have hsl : s.data.toList.length = s.size := rfl
  by_cases h1 : 0 ≤ e
  · obtain ⟨z, rfl⟩ : ∃ z : Nat, e = z := ⟨e.toNat, by omega⟩
    have := plain_high (f := f) (n := n) (s := s) z hG (by omega) hs
    have e1 : plainL s.data.toList (z : Int) = s.data.toList ++ List.replicate z 48 := by unfold plainL; rw [if_neg (by omega)]; simp
    rw [e1, mk_append, ← mk_of]
    exact this
  · by_cases h2 : (s.size : Int) ≤ -e
    · obtain ⟨z, rfl⟩ : ∃ z : Nat, e = -((s.size + z : Nat) : Int) := ⟨(-e - s.size).toNat, by omega⟩
      have := plain_low (f := f) (n := n) (s := s) z hG h0 (by omega) hs
      have e1 : plainL s.data.toList (-((s.size + z : Nat) : Int)) = [48, 46] ++ List.replicate z 48 ++ s.data.toList := by
        unfold plainL
        rw [if_pos (by omega), if_pos (by omega), hsl, show (- -((s.size + z : Nat) : Int) - (s.size : Int)).toNat = z from by omega]
      rw [e1, mk_append, mk_append, ← mk_of]
      exact this
    · obtain ⟨q, rfl⟩ : ∃ q : Nat, e = -(q : Int) := ⟨(-e).toNat, by omega⟩
      have := plain_mid (f := f) (n := n) (s := s) (s.size - q) q hG (by omega) (by omega) (by omega) hs
      have e1 : plainL s.data.toList (-(q : Int)) = s.data.toList.take (s.size - q) ++ [46] ++ s.data.toList.drop (s.size - q) := by
        unfold plainL
        rw [if_pos (by omega), if_neg (by omega), hsl, show (- -(q : Int)).toNat = q from by omega]
      have e2 : s.extract 0 (s.size - q) = mk (s.data.toList.take (s.size - q)) := by
        have h := mk_extract s.data.toList 0 (s.size - q)
        rw [← mk_of] at h
        rw [h]; simp
      have e3 : s.extract (s.size - q) s.size = mk (s.data.toList.drop (s.size - q)) := by
        have h := mk_extract s.data.toList (s.size - q) s.size
        have hk3 : (s.data.toList.drop (s.size - q)).length ≤ s.size - (s.size - q) := by rw [List.length_drop, hsl]; exact Nat.le_refl _
        rw [← mk_of] at h
        rw [h, List.take_of_length_le hk3]
      rw [e1, mk_append, mk_append, ← e2, ← e3]
      exact this
theorem plainL_len (dl : List UInt8) (e : Int) : (plainL dl e).length ≤ dl.length + e.natAbs + 2 := by
  unfold plainL
  split
  · split
    · simp; omega
    · simp; omega
  · simp; omega
theorem expL_len {A : Int} (h : -9999 ≤ A ∧ A ≤ 9999) : (expL A).length ≤ 6 := by
  unfold expL
  have := ndig_le_of (X := A.natAbs) (n := 4) (by decide) (by omega)
  split <;> simp [natText_length] <;> omega
theorem sciL_len {dl : List UInt8} {e : Int} {fm : UInt8} (he : -5000 ≤ e ∧ e ≤ 5000) (hl : dl.length ≤ 300) : (sciL dl e fm).length ≤ 310 := by
  unfold sciL
  have := expL_len (A := e + (dl.length : Int) - 1) (by omega)
  split <;> simp <;> omega
theorem mark_mk (n : Bool) (l : List UInt8) : mk (markL n ++ l) = (if n = true then ⟨#[45]⟩ else ⟨#[]⟩) ++ mk l := by
  cases n
  · rw [if_neg (by simp), mk_nil_app]; rfl
  · rw [if_pos rfl, mk_append]; rfl
set_option maxRecDepth 100000 in
theorem sText_nf {w : World} {e : Int} {n : Bool} {s : ByteArray} {f fm : Nat} (hf : 1 ≤ f ∧ f ≤ 3) :
    Calls Tryz.prog 12 #[.agg #[.int .i64 f, .bool n, .int .i32 e, .string s], .int .u8 fm] w fun e1 w' => e1 = .returned (.string (mk (markL n ++ formL f))) ∧ Fr (fun _ _ => False) w w' := by
  have c0 : f = 1 ∨ f = 2 ∨ f = 3 := by omega
  clear hf
  rcases c0 with rfl | rfl | rfl <;> cases n <;>
  · go_enter Tryz.func12, Tryz.ntmps12
    go_wp2_with fail
    go_ret
    exact ⟨rfl, (Fr.refl _ w).alloc _⟩
set_option maxRecDepth 100000 in
set_option maxHeartbeats 1000000 in
theorem sText_G {w : World} {e : Int} {n : Bool} {s : ByteArray} (hG : NG ≤ w.heap.size) (he : -5000 ≤ e ∧ e ≤ 5000) (h0 : 0 < s.size) (hs : s.size ≤ 300) :
    Calls Tryz.prog 12 #[.agg #[.int .i64 0, .bool n, .int .i32 e, .string s], .int .u8 71] w fun e1 w' => e1 = .returned (.string (mk (markL n ++ bodyL s.data.toList e 71))) ∧ Fr (fun _ _ => False) w w' := by
  have hsl : s.data.toList.length = s.size := rfl
  have FF := Aside.mk ((Fr.refl (fun _ _ => False) w).alloc (.cells #[.int .i64 0, .bool n, .int .i32 e, .string s] 23))
  have HS := Lib.hid (fun w1 (q : Fr (fun _ _ => False) w w1) => scientific_any (w := w1) (f := 0) (e := e) (n := n) (s := s) (fm := 69) (Nat.le_trans hG q.size) he h0 hs)
  have HP := Lib.hid (fun w1 (q : Fr (fun _ _ => False) w w1) => plain_any2 (w := w1) (f := 0) (e := e) (n := n) (s := s) (Nat.le_trans hG q.size) he h0 hs)
  rw [show mk [69] = ⟨#[69]⟩ from rfl] at HS
  have key : ∀ L : Int, (if s.data.toList = [48] then (-2000 : Int) else -6) = L → bodyL s.data.toList e 71 = if 0 < e ∨ e + (s.size : Int) - 1 < L then sciL s.data.toList e 69 else plainL s.data.toList e := by
    intro L hL
    unfold bodyL
    rw [if_neg (by omega), if_neg (by omega), if_neg (by omega), hL, hsl]
    simp
  have hs3 : (s.size : Int) ≤ 300 := by omega
  have hsp : (0 : Int) < s.size := by omega
  obtain ⟨S, hS⟩ : ∃ S, mk (sciL s.data.toList e 69) = S := ⟨_, rfl⟩
  obtain ⟨P, hP⟩ : ∃ P, mk (plainL s.data.toList e) = P := ⟨_, rfl⟩
  have hSz : S.size ≤ 10000 := by rw [← hS, mk_size]; have := sciL_len (fm := 69) (dl := s.data.toList) he (by omega); omega
  have hPz : P.size ≤ 10000 := by rw [← hP, mk_size]; have := plainL_len s.data.toList e; omega
  obtain ⟨he1, he2⟩ := he
  rw [mark_mk]
  have key2 : ∀ L : Int, (if s.data.toList = [48] then (-2000 : Int) else -6) = L → mk (bodyL s.data.toList e 71) = if 0 < e ∨ e + (s.size : Int) - 1 < L then S else P := by
    intro L hL
    rw [key L hL, ← hS, ← hP]
    split <;> rfl
  clear key
  by_cases h48 : s.data.toList = [48]
  · have q48 : (s.toList == [48]) = true := by rw [ByteArray.toList_eq, beq_iff_eq]; exact h48
    rw [key2 (-2000) (if_pos h48)]
    clear key2 h48 hsl
    rw [hS] at HS
    rw [hP] at HP
    clear hS hP
    by_cases h1 : 0 < e
    · rw [if_pos (show 0 < e ∨ _ from .inl h1)]
      cases n <;>
      · go_enter Tryz.func12, Tryz.ntmps12
        go_wp2_with fail
        refine (HS.out _ (by repeat first | exact Fr.refl _ _ | refine Fr.drewN ?_ _ | refine Fr.drew ?_ | refine Fr.alloc ?_ _)).mono ?_
        rintro e1 w2 ⟨rfl, k2⟩
        have K2 := Aside.mk (FF.out.trans k2)
        clear k2
        go_wp2_with fail
        go_ret
        exact ⟨rfl, K2.out⟩
    · by_cases h2 : e + (s.size : Int) - 1 < -2000
      · rw [if_pos (show 0 < e ∨ _ from .inr h2)]
        cases n <;>
        · go_enter Tryz.func12, Tryz.ntmps12
          go_wp2_with fail
          refine (HS.out _ (by repeat first | exact Fr.refl _ _ | refine Fr.drewN ?_ _ | refine Fr.drew ?_ | refine Fr.alloc ?_ _)).mono ?_
          rintro e1 w2 ⟨rfl, k2⟩
          have K2 := Aside.mk (FF.out.trans k2)
          clear k2
          go_wp2_with fail
          go_ret
          exact ⟨rfl, K2.out⟩
      · rw [if_neg (show ¬ (0 < e ∨ _) from fun q => q.elim h1 h2)]
        cases n <;>
        · go_enter Tryz.func12, Tryz.ntmps12
          go_wp2_with fail
          refine (HP.out _ (by repeat first | exact Fr.refl _ _ | refine Fr.drewN ?_ _ | refine Fr.drew ?_ | refine Fr.alloc ?_ _)).mono ?_
          rintro e1 w2 ⟨rfl, k2⟩
          have K2 := Aside.mk (FF.out.trans k2)
          clear k2
          go_wp2_with fail
          go_ret
          exact ⟨rfl, K2.out⟩
  · have q48 : (s.toList == [48]) = false := by rw [ByteArray.toList_eq, beq_eq_false_iff_ne]; exact h48
    rw [key2 (-6) (if_neg h48)]
    clear key2 h48 hsl
    rw [hS] at HS
    rw [hP] at HP
    clear hS hP
    by_cases h1 : 0 < e
    · rw [if_pos (show 0 < e ∨ _ from .inl h1)]
      cases n <;>
      · go_enter Tryz.func12, Tryz.ntmps12
        go_wp2_with fail
        refine (HS.out _ (by repeat first | exact Fr.refl _ _ | refine Fr.drewN ?_ _ | refine Fr.drew ?_ | refine Fr.alloc ?_ _)).mono ?_
        rintro e1 w2 ⟨rfl, k2⟩
        have K2 := Aside.mk (FF.out.trans k2)
        clear k2
        go_wp2_with fail
        go_ret
        exact ⟨rfl, K2.out⟩
    · by_cases h2 : e + (s.size : Int) - 1 < -6
      · rw [if_pos (show 0 < e ∨ _ from .inr h2)]
        cases n <;>
        · go_enter Tryz.func12, Tryz.ntmps12
          go_wp2_with fail
          refine (HS.out _ (by repeat first | exact Fr.refl _ _ | refine Fr.drewN ?_ _ | refine Fr.drew ?_ | refine Fr.alloc ?_ _)).mono ?_
          rintro e1 w2 ⟨rfl, k2⟩
          have K2 := Aside.mk (FF.out.trans k2)
          clear k2
          go_wp2_with fail
          go_ret
          exact ⟨rfl, K2.out⟩
      · rw [if_neg (show ¬ (0 < e ∨ _) from fun q => q.elim h1 h2)]
        cases n <;>
        · go_enter Tryz.func12, Tryz.ntmps12
          go_wp2_with fail
          refine (HP.out _ (by repeat first | exact Fr.refl _ _ | refine Fr.drewN ?_ _ | refine Fr.drew ?_ | refine Fr.alloc ?_ _)).mono ?_
          rintro e1 w2 ⟨rfl, k2⟩
          have K2 := Aside.mk (FF.out.trans k2)
          clear k2
          go_wp2_with fail
          go_ret
          exact ⟨rfl, K2.out⟩
end Go.Proofs.YtifkpcijheabhaaGreatDoor
