/- spec.Clear, onlyDigits, zzFits1. spec.Clear of a finite decimal. -/
import Derived.Test.YtgilnnipephfjaaGreatDoorM28Str2
set_option linter.unusedSimpArgs false
set_option linter.unusedVariables false
namespace Go.Proofs.YtgilnnipephfjaaGreatDoor
open Go.RowKit

set_option maxRecDepth 100000 in
theorem zz_small {w : World} {f e : Int} {n : Bool} {s : ByteArray} (h : s.size ≤ 2147483647) : Calls Tryz.prog 10 #[.agg #[.int .i64 f, .bool n, .int .i32 e, .string s]] w fun e1 w' => e1 = .returned (.bool true) ∧ Fr (fun _ _ => False) w w' := by
  have h1 : ¬ (2147483647 : Int) < (s.size : Int) := by omega
  go_enter Tryz.func10, Tryz.ntmps10
  go_wp2_with fail
  go_ret
  exact ⟨rfl, (Fr.refl _ w).alloc _⟩
set_option maxRecDepth 100000 in
theorem zz_big {w : World} {f e : Int} {n : Bool} {s : ByteArray} (h : ¬ s.size ≤ 2147483647) : Calls Tryz.prog 10 #[.agg #[.int .i64 f, .bool n, .int .i32 e, .string s]] w fun e1 w' => e1 = .returned (.bool false) ∧ Fr (fun _ _ => False) w w' := by
  have h1 : (2147483647 : Int) < (s.size : Int) := by omega
  go_enter Tryz.func10, Tryz.ntmps10
  go_wp2_with fail
  go_ret
  exact ⟨rfl, (Fr.refl _ w).alloc _⟩
set_option maxRecDepth 100000 in
theorem only_any {w : World} {s : ByteArray} (hs : s.size ≤ 1000) : Calls Tryz.prog 19 #[.string s] w fun e1 w' => Fr (fun _ _ => False) w w' ∧ (e1 = .returned (.bool false) ∨ (e1 = .returned (.bool true) ∧ Digs s.data.toList)) := by
  go_enter Tryz.func19, Tryz.ntmps19
  go_wp2_with fail
  go_loopw [3] (fun iv wr => ∃ i : Nat, i ≤ s.size ∧ iv = .int .i64 i ∧ Aside (∀ k (h : k < s.data.toList.length), k < i → 48 ≤ (s.data.toList[k]).toNat ∧ (s.data.toList[k]).toNat ≤ 57) ∧ Aside (Fr (fun _ _ => False) w wr)) (fun iv _ => ((s.size : Int) - intOf iv).toNat)
  case atStart => exact ⟨0, Nat.zero_le _, rfl, ⟨fun k _ h => absurd h (Nat.not_lt_zero _)⟩, ⟨Fr.refl _ _⟩⟩
  case round =>
    obtain ⟨i, hi, rfl, hd, hf⟩ := hrel
    by_cases hl : i < s.size
    · by_cases h1 : ((s[i]).toNat : Int) < 48
      · go_wp2_with fail
        go_ret
        exact ⟨hf.out, .inl rfl⟩
      · by_cases h2 : (57 : Int) < ((s[i]).toNat : Int)
        · go_wp2_with fail
          go_ret
          exact ⟨hf.out, .inl rfl⟩
        · go_wp2_with fail
          go_roundw
          case rel =>
            refine ⟨i + 1, by omega, by go_num, ⟨fun k hk hki => ?_⟩, hf⟩
            by_cases e : k = i
            · subst e
              have e2 : s.data.toList[k] = s[k] := by simp [ByteArray.getElem_eq_getElem_data]
              rw [e2]; omega
            · exact hd.out k hk (by omega)
          case measure => simp [intOf]; omega
    · go_wp2_with fail
      go_ret
      refine ⟨hf.out, .inr ⟨rfl, fun c hc => ?_⟩⟩
      obtain ⟨k, hk, rfl⟩ := List.mem_iff_getElem.1 hc
      exact hd.out k hk (by have : s.data.toList.length = s.size := rfl
                            omega)
/-- What spec.Clear lets through. -/
def ClearP (f e : Int) (s : ByteArray) : Prop := (1 ≤ f ∧ f ≤ 3 ∧ s.data.toList = [48] ∧ e = 0) ∨ (f = 0 ∧ Digs s.data.toList ∧ 0 < s.size ∧ s.size ≤ 300 ∧ (s.size = 1 ∨ ∀ h : 0 < s.size, s[0] ≠ 48) ∧ -2500 ≤ e ∧ e ≤ 2500)
set_option maxRecDepth 100000 in
set_option maxHeartbeats 1000000 in
theorem clear_inf {w : World} {f e : Int} {n : Bool} {s : ByteArray} (hf : f ≠ 0) :
    Calls Tryz.prog 7 #[.agg #[.int .i64 f, .bool n, .int .i32 e, .string s]] w fun e1 w' => Fr (fun _ _ => False) w w' ∧ (e1 = .returned (.bool false) ∨ (e1 = .returned (.bool true) ∧ ClearP f e s)) := by
  have hfe : (f == 0) = false := by rw [beq_eq_false_iff_ne]; exact hf
  by_cases h1 : f > 0
  · by_cases h2 : f ≤ 3
    · by_cases h3 : s.toList = [48]
      · have h3b : (s.toList == [48]) = true := by rw [beq_iff_eq]; exact h3
        by_cases h4 : e = 0
        · have h4b : (e == 0) = true := by rw [beq_iff_eq]; exact h4
          go_enter Tryz.func7, Tryz.ntmps7
          go_wp2_with fail
          go_ret
          exact ⟨(Fr.refl _ w).alloc _, .inr ⟨rfl, .inl ⟨by omega, h2, by rw [← ByteArray.toList_eq]; exact h3, h4⟩⟩⟩
        · have h4b : (e == 0) = false := by rw [beq_eq_false_iff_ne]; exact h4
          go_enter Tryz.func7, Tryz.ntmps7
          go_wp2_with fail
          go_ret
          exact ⟨(Fr.refl _ w).alloc _, .inl rfl⟩
      · have h3b : (s.toList == [48]) = false := by rw [beq_eq_false_iff_ne]; exact h3
        go_enter Tryz.func7, Tryz.ntmps7
        go_wp2_with fail
        go_ret
        exact ⟨(Fr.refl _ w).alloc _, .inl rfl⟩
    · go_enter Tryz.func7, Tryz.ntmps7
      go_wp2_with fail
      go_ret
      exact ⟨(Fr.refl _ w).alloc _, .inl rfl⟩
  · go_enter Tryz.func7, Tryz.ntmps7
    go_wp2_with fail
    go_ret
    exact ⟨(Fr.refl _ w).alloc _, .inl rfl⟩
end Go.Proofs.YtgilnnipephfjaaGreatDoor
namespace Go.Proofs.YtgilnnipephfjaaGreatDoor
open Go.RowKit

set_option maxRecDepth 100000 in
set_option maxHeartbeats 1000000 in
theorem clear_fin {w : World} {e : Int} {n : Bool} {s : ByteArray} :
    Calls Tryz.prog 7 #[.agg #[.int .i64 0, .bool n, .int .i32 e, .string s]] w fun e1 w' => Fr (fun _ _ => False) w w' ∧ (e1 = .returned (.bool false) ∨ (e1 = .returned (.bool true) ∧ ClearP 0 e s)) := by
  by_cases c1 : s.size = 0
  · have hs : (s.toList == []) = true := by
      rw [ByteArray.toList_eq, beq_iff_eq]; exact List.eq_nil_of_length_eq_zero c1
    go_enter Tryz.func7, Tryz.ntmps7
    go_wp2_with fail
    go_ret
    exact ⟨(Fr.refl _ w).alloc _, .inl rfl⟩
  have hs : (s.toList == []) = false := by
    rw [ByteArray.toList_eq, beq_eq_false_iff_ne]; intro k
    exact c1 (by have : s.data.toList.length = s.size := rfl
                 rw [k] at this; exact this.symm)
  by_cases c2 : s.size ≤ 300
  case neg =>
    have c2' : (300 : Int) < (s.size : Int) := by omega
    go_enter Tryz.func7, Tryz.ntmps7
    go_wp2_with fail
    go_ret
    exact ⟨(Fr.refl _ w).alloc _, .inl rfl⟩
  have c2' : ¬ (300 : Int) < (s.size : Int) := by omega
  have hp : 0 < s.size := by omega
  have H : Hid (∀ w1, Calls Tryz.prog 19 #[.string s] w1 fun e1 w' => Fr (fun _ _ => False) w1 w' ∧ (e1 = .returned (.bool false) ∨ (e1 = .returned (.bool true) ∧ Digs s.data.toList))) := Lib.hid (fun w1 => only_any (by omega))
  have last : (s.size = 1 ∨ ∀ h : 0 < s.size, s[0] ≠ 48) → (¬ e < -2500) → (¬ e > 2500) → Calls Tryz.prog 7 #[.agg #[.int .i64 0, .bool n, .int .i32 e, .string s]] w fun e1 w' => Fr (fun _ _ => False) w w' ∧ (e1 = .returned (.bool false) ∨ (e1 = .returned (.bool true) ∧ ClearP 0 e s)) := by
    intro hz c4 c5
    by_cases c3 : (1 : Int) < (s.size : Int)
    · have hz0 : (((s[0]).toNat : Int) == 48) = false := by
        rw [beq_eq_false_iff_ne]; intro k
        rcases hz with k1 | k1
        · omega
        · exact k1 hp (by apply UInt8.toNat_inj.1; have : (48 : UInt8).toNat = 48 := rfl
                          omega)
      have HZ := Aside.mk hz
      clear hz
      go_enter Tryz.func7, Tryz.ntmps7
      go_wp2_with fail
      refine (H.out _).mono ?_
      rintro e1 w2 ⟨k1, rfl | ⟨rfl, k2⟩⟩
      · have K := Aside.mk k1
        clear k1
        go_wp2_with fail
        go_ret
        exact ⟨((Fr.refl _ w).alloc _).trans K.out, .inl rfl⟩
      · have K := Aside.mk k1
        have K2 := Aside.mk k2
        clear k1 k2
        go_wp2_with fail
        go_ret
        exact ⟨((Fr.refl _ w).alloc _).trans K.out, .inr ⟨rfl, .inr ⟨rfl, K2.out, hp, c2, HZ.out, by omega, by omega⟩⟩⟩
    · have HZ := Aside.mk hz
      clear hz
      go_enter Tryz.func7, Tryz.ntmps7
      go_wp2_with fail
      refine (H.out _).mono ?_
      rintro e1 w2 ⟨k1, rfl | ⟨rfl, k2⟩⟩
      · have K := Aside.mk k1
        clear k1
        go_wp2_with fail
        go_ret
        exact ⟨((Fr.refl _ w).alloc _).trans K.out, .inl rfl⟩
      · have K := Aside.mk k1
        have K2 := Aside.mk k2
        clear k1 k2
        go_wp2_with fail
        go_ret
        exact ⟨((Fr.refl _ w).alloc _).trans K.out, .inr ⟨rfl, .inr ⟨rfl, K2.out, hp, c2, HZ.out, by omega, by omega⟩⟩⟩
  by_cases c3 : (1 : Int) < (s.size : Int)
  · by_cases hz : s[0] = 48
    · have hz0 : (((s[0]).toNat : Int) == 48) = true := by rw [hz]; rfl
      clear last H
      go_enter Tryz.func7, Tryz.ntmps7
      go_wp2_with fail
      go_ret
      exact ⟨(Fr.refl _ w).alloc _, .inl rfl⟩
    · have hz0 : (((s[0]).toNat : Int) == 48) = false := by
        rw [beq_eq_false_iff_ne]; intro k
        exact hz (by apply UInt8.toNat_inj.1; have : (48 : UInt8).toNat = 48 := rfl
                     omega)
      by_cases c4 : e < -2500
      · clear last H
        go_enter Tryz.func7, Tryz.ntmps7
        go_wp2_with fail
        go_ret
        exact ⟨(Fr.refl _ w).alloc _, .inl rfl⟩
      by_cases c5 : e > 2500
      · clear last H
        go_enter Tryz.func7, Tryz.ntmps7
        go_wp2_with fail
        go_ret
        exact ⟨(Fr.refl _ w).alloc _, .inl rfl⟩
      exact last (.inr (fun _ => hz)) c4 c5
  · by_cases c4 : e < -2500
    · clear last H
      go_enter Tryz.func7, Tryz.ntmps7
      go_wp2_with fail
      go_ret
      exact ⟨(Fr.refl _ w).alloc _, .inl rfl⟩
    by_cases c5 : e > 2500
    · clear last H
      go_enter Tryz.func7, Tryz.ntmps7
      go_wp2_with fail
      go_ret
      exact ⟨(Fr.refl _ w).alloc _, .inl rfl⟩
    exact last (.inl (by omega)) c4 c5
theorem clear_any {w : World} {f e : Int} {n : Bool} {s : ByteArray} :
    Calls Tryz.prog 7 #[.agg #[.int .i64 f, .bool n, .int .i32 e, .string s]] w fun e1 w' => Fr (fun _ _ => False) w w' ∧ (e1 = .returned (.bool false) ∨ (e1 = .returned (.bool true) ∧ ClearP f e s)) := by
  by_cases h : f = 0
  · subst h; exact clear_fin
  · exact clear_inf h
theorem bl_digs {l : List UInt8} (h : Digs l) (hl : l.length ≤ 300) : bl (numOf l) ≤ 1100 := by
  have h1 := numOf_lt h
  have key : ∀ m, l.length ≤ 3 * m → 10 ^ l.length ≤ (2 ^ 10) ^ m := fun m hm => Nat.le_trans (Nat.pow_le_pow_right (by decide) hm) (by rw [Nat.pow_mul]; exact Nat.pow_le_pow_left (by decide) m)
  have k2 : ∀ m k, 10 * m ≤ k → (2 ^ 10) ^ m ≤ 2 ^ k := fun m k h => by rw [← Nat.pow_mul]; exact Nat.pow_le_pow_right (by decide) h
  exact (lt_two_iff _ 1100).1 (Nat.lt_of_lt_of_le (Nat.lt_of_lt_of_le h1 (key 100 hl)) (k2 100 1100 (by decide)))
/-- What a clear decimal is, in one list. -/
theorem ClearP.all {f e : Int} {s : ByteArray} (h : ClearP f e s) : Digs s.data.toList ∧ 0 < s.size ∧ s.size ≤ 300 ∧ (0 ≤ f ∧ f ≤ 3) ∧ natText (numOf s.data.toList) = s.data.toList ∧ (-2500 ≤ e ∧ e ≤ 2500) ∧ (f ≠ 0 → s.data.toList = [48] ∧ e = 0) := by
  have hsl : s.data.toList.length = s.size := rfl
  rcases h with ⟨h1, h2, h3, h6⟩ | ⟨h1, h2, h3, h4, h5, h6⟩
  · refine ⟨by rw [h3]; intro c hc; simp at hc; subst hc; decide, by rw [← hsl, h3]; decide, by rw [← hsl, h3]; decide, ⟨by omega, h2⟩, by rw [h3]; exact natText_zero, by omega, fun _ => ⟨h3, h6⟩⟩
  · have hne : s.data.toList ≠ [] := by intro k; rw [k] at hsl; simp at hsl; omega
    refine ⟨h2, h3, h4, by omega, natText_numOf h2 hne ?_, h6, fun k => absurd h1 k⟩
    rcases h5 with k | k
    · exact .inl (by omega)
    · exact .inr (fun hp => by have := k (by omega); simpa [ByteArray.getElem_eq_getElem_data] using this)
end Go.Proofs.YtgilnnipephfjaaGreatDoor
