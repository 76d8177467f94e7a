/- The reference's reader: onlyDigits, bare, low. spec.Clear, onlyDigits, zzFits1. spec.Clear of a finite decimal. -/
import Derived.Test.YtifkpcijheabhaaGreatDoorP39Fmt9
import Derived.Test.YtifkpcijheabhaaGreatDoorM28Str2
set_option linter.unusedSimpArgs false
set_option linter.unusedVariables false
namespace Go.Proofs.YtifkpcijheabhaaGreatDoor
open Go.RowKit

set_option maxRecDepth 100000 in
theorem only2_any {w : World} {s : ByteArray} (hs : s.size ≤ 2147483647) : Calls Tryz.prog 19 #[.string s] w fun e1 w' => w' = w ∧ ((e1 = .returned (.bool false) ∧ ¬ Digs s.data.toList) ∨ (e1 = .returned (.bool true) ∧ Digs s.data.toList)) := by
  go_enter Tryz.func19, Tryz.ntmps19
  go_wp2_with fail
  go_loopw [3] (fun iv wr => ∃ i : Nat, i ≤ s.size ∧ iv = .int .i64 i ∧ Aside (∀ k (h : k < s.data.toList.length), k < i → 48 ≤ (s.data.toList[k]).toNat ∧ (s.data.toList[k]).toNat ≤ 57) ∧ Aside (wr = w)) (fun iv _ => ((s.size : Int) - intOf iv).toNat)
  case atStart => exact ⟨0, Nat.zero_le _, rfl, ⟨fun k _ h => absurd h (Nat.not_lt_zero _)⟩, ⟨rfl⟩⟩
  case round =>
    obtain ⟨i, hi, rfl, hd, hf⟩ := hrel
    by_cases hl : i < s.size
    · have e2 : s.data.toList[i]'hl = s[i] := by simp [ByteArray.getElem_eq_getElem_data]
      have hno : Aside (¬ (48 ≤ (s[i]).toNat ∧ (s[i]).toNat ≤ 57) → ¬ Digs s.data.toList) := ⟨fun q k => q (by
        have := k.get (show i < s.data.toList.length from hl)
        rwa [e2] at this)⟩
      have E2 := Aside.mk e2
      clear e2
      by_cases h1 : ((s[i]).toNat : Int) < 48
      · go_wp2_with fail
        go_ret
        exact ⟨hf.out, .inl ⟨rfl, hno.out (by omega)⟩⟩
      · by_cases h2 : (57 : Int) < ((s[i]).toNat : Int)
        · go_wp2_with fail
          go_ret
          exact ⟨hf.out, .inl ⟨rfl, hno.out (by omega)⟩⟩
        · go_wp2_with fail
          go_roundw
          case rel =>
            refine ⟨i + 1, by omega, by go_num, ⟨fun k hk hki => ?_⟩, hf⟩
            by_cases e : k = i
            · subst e
              rw [E2.out]; omega
            · exact hd.out k hk (by omega)
          case measure => simp [intOf]; omega
    · go_wp2_with fail
      go_ret
      refine ⟨hf.out, .inr ⟨rfl, fun c hc => ?_⟩⟩
      obtain ⟨k, hk, rfl⟩ := List.mem_iff_getElem.1 hc
      exact hd.out k hk (by have : s.data.toList.length = s.size := rfl
                            omega)
/-- The length of a text. -/
def lenOf (v : Value) : Nat := match v with | .string t => t.size | _ => 0
theorem numOf_nought (r : List UInt8) : numOf (48 :: r) = numOf r := by simp [numOf]
set_option maxRecDepth 100000 in
theorem bare_any {w : World} {s : ByteArray} (hd : Digs s.data.toList) (h0 : 0 < s.size) (hs : s.size ≤ 2147483647) : Calls Tryz.prog 20 #[.string s] w fun e1 w' => e1 = .returned (.string (mk (natText (numOf s.data.toList)))) ∧ Fr (fun _ _ => False) w w' := by
  obtain ⟨N, hN⟩ : ∃ N, numOf s.data.toList = N := ⟨_, rfl⟩
  rw [hN]
  have HD := Aside.mk hd
  have HN := Aside.mk hN
  clear hd hN
  go_enter Tryz.func20, Tryz.ntmps20
  go_wp2_with fail
  go_loopw [0] (fun sv wr => ∃ t : ByteArray, sv = .string t ∧ 0 < t.size ∧ t.size ≤ 2147483647 ∧ Aside (Digs t.data.toList ∧ numOf t.data.toList = N) ∧ Aside (Fr (fun _ _ => False) w wr)) (fun sv _ => lenOf sv)
  case atStart => exact ⟨s, rfl, h0, hs, ⟨HD.out, HN.out⟩, ⟨Fr.refl _ _⟩⟩
  case round =>
    obtain ⟨t, rfl, ht0, hts, hA, hf⟩ := hrel
    clear h0 hs
    have hsl : t.data.toList.length = t.size := rfl
    have hfin : (t.size = 1 ∨ t[0] ≠ 48) → mk (natText N) = t := fun q => by
      have hne : t.data.toList ≠ [] := by intro k; rw [k] at hsl; simp at hsl; omega
      rw [← hA.out.2, natText_numOf hA.out.1 hne (by
        rcases q with q | q
        · exact .inl (by omega)
        · exact .inr (fun hp => by simpa [ByteArray.getElem_eq_getElem_data] using q))]
      exact (mk_of t).symm
    have HF := Aside.mk hfin
    clear hfin hsl
    by_cases h1 : (1 : Int) < (t.size : Int)
    · by_cases hz : t[0] = 48
      · have hz0 : (((t[0]).toNat : Int) == 48) = true := by rw [hz]; rfl
        have hx : Aside (Digs (t.extract 1 t.size).data.toList ∧ numOf (t.extract 1 t.size).data.toList = N ∧ (t.extract 1 t.size).size = t.size - 1) := ⟨by
          have e0 : t.data.toList = 48 :: t.data.toList.drop 1 := by
            have hl : 0 < t.data.toList.length := ht0
            have := List.drop_eq_getElem_cons hl
            rw [List.drop_zero] at this
            rw [this]
            simp only [List.drop_succ_cons, List.drop_zero]
            congr 1
          have e1 : t.extract 1 t.size = mk (t.data.toList.drop 1) := by
            have h := mk_extract t.data.toList 1 t.size
            rw [← mk_of] at h
            have hk3 : (t.data.toList.drop 1).length ≤ t.size - 1 := by rw [List.length_drop]; exact Nat.le_refl _
            rw [h, List.take_of_length_le hk3]
          rw [e1, mk_toList, mk_size]
          refine ⟨fun x hx => hA.out.1 x (List.mem_of_mem_drop hx), ?_, by rw [List.length_drop]; rfl⟩
          rw [← hA.out.2]
          conv => rhs; rw [e0]
          exact (numOf_nought _).symm⟩
        clear hz
        go_wp2_with fail
        go_roundw
        case rel => exact ⟨_, rfl, by rw [hx.out.2.2]; omega, by rw [hx.out.2.2]; omega, ⟨hx.out.1, hx.out.2.1⟩, hf⟩
        case measure => simp only [lenOf]; rw [hx.out.2.2]; omega
      · have hz0 : (((t[0]).toNat : Int) == 48) = false := by
          rw [beq_eq_false_iff_ne]; intro k
          exact hz (by apply UInt8.toNat_inj.1; have : (48 : UInt8).toNat = 48 := rfl
                       omega)
        have HZ := Aside.mk hz
        clear hz
        go_wp2_with fail
        go_ret
        exact ⟨by rw [HF.out (.inr HZ.out)]; rfl, hf.out⟩
    · go_wp2_with fail
      go_ret
      exact ⟨by rw [HF.out (.inl (by omega))]; rfl, hf.out⟩
/-- The bytes of which the first i have been lowered. -/
def lowC (l : List UInt8) (i j : Nat) (h : j < l.length) : UInt8 := if j < i then Lib.lowerB l[j] else l[j]
theorem lower_up {x : UInt8} (h : 65 ≤ x.toNat ∧ x.toNat ≤ 90) : (Lib.lowerB x).toNat = x.toNat + 32 := by
  have k : Lib.isUpperB x = true := by
    simp only [Lib.isUpperB, Bool.and_eq_true, decide_eq_true_eq, UInt8.le_iff_toNat_le]
    exact h
  unfold Lib.lowerB
  simp only [k, if_true]
  rw [UInt8.toNat_add]
  have : (32 : UInt8).toNat = 32 := rfl
  omega
theorem lower_no {x : UInt8} (h : ¬ (65 ≤ x.toNat ∧ x.toNat ≤ 90)) : Lib.lowerB x = x := by
  have k : Lib.isUpperB x = false := by
    rw [Bool.eq_false_iff]
    intro k
    simp only [Lib.isUpperB, Bool.and_eq_true, decide_eq_true_eq, UInt8.le_iff_toNat_le] at k
    exact h k
  unfold Lib.lowerB
  simp [k]
theorem lowA_get (l : List UInt8) (j : Nat) (h : j < (Lib.toLowerA l).length) (h2 : j < l.length) : (Lib.toLowerA l)[j] = Lib.lowerB l[j] := by simp [Lib.toLowerA]
set_option maxRecDepth 100000 in
set_option maxHeartbeats 1000000 in
theorem low_any {w : World} {l : List UInt8} (hl : l.length ≤ 2147483647) : Calls Tryz.prog 18 #[.string (mk l)] w fun e1 w' => e1 = .returned (.string (mk (Lib.toLowerA l))) ∧ Fr (fun _ _ => False) w w' := by
  obtain ⟨bc, bw, hcv, hbw⟩ := bytes_of l
  obtain ⟨b1, b2, b3, b4, b5⟩ := hbw w
  obtain ⟨sz, hsz⟩ : ∃ x, w.heap.size = x := ⟨_, rfl⟩
  have hcvw := hcv w
  obtain ⟨W0, hW0⟩ : ∃ x, bw w = x := ⟨_, rfl⟩
  obtain ⟨cp, hcp⟩ : ∃ x, bc w = x := ⟨_, rfl⟩
  obtain ⟨n, hn⟩ : ∃ x, l.length = x := ⟨_, rfl⟩
  obtain ⟨u, hu⟩ : ∃ x, mk l = x := ⟨_, rfl⟩
  rw [hsz] at b2 b3 b4 hcvw
  rw [hn] at hcvw b4 hl
  rw [hW0] at b1 b2 b3 b4 hcvw
  rw [hcp, hu] at hcvw
  rw [hu]
  have B1 := Aside.mk b1
  have B2 : Aside (∀ j (h : j < l.length), W0.cell? ⟨sz, j, none⟩ = some (.int .u8 (((lowC l 0 j h).toNat : Nat) : Int))) := ⟨fun j h => by have := b2 j h; rw [Nat.zero_add] at this; rw [this]; simp [lowC]⟩
  have B3 := Aside.mk b3
  have B4 := Aside.mk b4
  have HN := Aside.mk hn
  have HSZ := Aside.mk hsz
  obtain ⟨V, hV0⟩ : ∃ V, mk (Lib.toLowerA l) = V := ⟨_, rfl⟩
  have hV := Aside.mk hV0
  rw [hV0]
  clear hV0 b1 b2 b3 b4 b5 hbw hcv hW0 hcp hn hu
  go_enter Tryz.func18, Tryz.ntmps18
  go_wp2_with fail
  go_loopw [4] (fun iv wr => ∃ i : Nat, i ≤ n ∧ iv = .int .i64 i ∧ Aside (∀ j (h : j < l.length), wr.cell? ⟨sz, j, none⟩ = some (.int .u8 (((lowC l i j h).toNat : Nat) : Int))) ∧ Aside (Fr (fun x _ => x = sz) W0 wr)) (fun iv _ => ((n : Int) - intOf iv).toNat)
  case atStart => exact ⟨0, Nat.zero_le _, rfl, B2, ⟨Fr.refl _ _⟩⟩
  case round =>
    obtain ⟨i, hi, rfl, hC, hf⟩ := hrel
    by_cases hlt : i < n
    · have hil : i < l.length := by rw [HN.out]; exact hlt
      have hc := hC.out i hil
      have hfr : wr.frozen? ⟨sz, i, none⟩ = false := (hf.out.frozen sz i (by rw [B3.out]; omega)).trans (B4.out i hlt)
      have e0 : lowC l i i hil = l[i] := by simp [lowC]
      rw [e0] at hc
      obtain ⟨x, hx⟩ : ∃ x, l[i] = x := ⟨_, rfl⟩
      rw [hx] at hc
      have hxlt := UInt8.toNat_lt x
      obtain ⟨xn, hxn⟩ : ∃ xn, x.toNat = xn := ⟨_, rfl⟩
      rw [hxn] at hc hxlt
      have HX := Aside.mk (And.intro hx hxn)
      have hstay : Aside (¬ (65 ≤ xn ∧ xn ≤ 90) → ∀ j (h : j < l.length), wr.cell? ⟨sz, j, none⟩ = some (.int .u8 (((lowC l (i + 1) j h).toNat : Nat) : Int))) := ⟨fun q j h => by
        rw [hC.out j h]
        by_cases e : j = i
        · subst e
          have : lowC l (j + 1) j h = lowC l j j h := by
            unfold lowC
            rw [if_pos (by omega), if_neg (by omega)]
            exact lower_no (by rw [HX.out.1, HX.out.2]; exact q)
          rw [this]
        · have : lowC l (i + 1) j h = lowC l i j h := by
            unfold lowC
            by_cases k : j < i
            · rw [if_pos (by omega), if_pos k]
            · rw [if_neg (by omega), if_neg k]
          rw [this]⟩
      clear hx hxn e0
      by_cases h1 : (65 : Int) ≤ (xn : Int)
      · by_cases h2 : (xn : Int) ≤ 90
        · have hw : IntKind.u8.wrap ((xn : Int) + 32) = (xn : Int) + 32 := by rw [IntKind.wrap_u8]; omega
          have hcell : Aside (∀ j (h : j < l.length), (wr.setCell ⟨sz, i, none⟩ (.int .u8 ((xn : Int) + 32))).cell? ⟨sz, j, none⟩ = some (.int .u8 (((lowC l (i + 1) j h).toNat : Nat) : Int))) := ⟨fun j h => by
            by_cases e : j = i
            · subst e
              rw [World.cell?_setCell_same _ _ _ hc]
              have : (lowC l (j + 1) j h).toNat = xn + 32 := by
                unfold lowC
                rw [if_pos (by omega), lower_up (by rw [HX.out.1, HX.out.2]; omega), HX.out.1, HX.out.2]
              rw [this]; rfl
            · rw [World.cell?_setCell_other _ _ _ _ (by simp only [ne_eq, Addr.mk.injEq, and_true]; omega), hC.out j h]
              have : lowC l (i + 1) j h = lowC l i j h := by
                unfold lowC
                by_cases k : j < i
                · rw [if_pos (by omega), if_pos k]
                · rw [if_neg (by omega), if_neg k]
              rw [this]⟩
          go_wp2_with fail
          go_roundw
          case rel => exact ⟨i + 1, by omega, by go_num, hcell, ⟨hf.out.setCell sz i _ (fun _ => rfl)⟩⟩
          case measure => simp [intOf]; omega
        · go_wp2_with fail
          go_roundw
          case rel => exact ⟨i + 1, by omega, by go_num, ⟨hstay.out (by omega)⟩, hf⟩
          case measure => simp [intOf]; omega
      · go_wp2_with fail
        go_roundw
        case rel => exact ⟨i + 1, by omega, by go_num, ⟨hstay.out (by omega)⟩, hf⟩
        case measure => simp [intOf]; omega
    · obtain rfl : i = n := by omega
      have hcv : (convert 32 9 (.slice (some ⟨sz, 0, none⟩) i cp)).run Tryz.prog wr = .ok (.string (mk (Lib.toLowerA l))) wr := by
        have := run_convert_bytes_back wr 32 9 5 ⟨sz, 0, none⟩ cp (Lib.toLowerA l) Tryz.underlying32 Tryz.underlying5 Tryz.underlying9 (fun j hj => by
          rw [Addr.add_lit, Nat.zero_add]
          have hjl : j < l.length := by simpa [Lib.toLowerA] using hj
          rw [hC.out j hjl]
          have : lowC l i j hjl = (Lib.toLowerA l)[j] := by
            rw [lowA_get l j hj hjl]
            unfold lowC
            rw [if_pos (by rw [← HN.out]; exact hjl)]
          rw [this])
        have e1 : (Lib.toLowerA l).length = i := by simp [Lib.toLowerA]; exact HN.out
        rw [e1] at this
        exact this
      have HF : Aside (Fr (fun _ _ => False) w wr) := ⟨B1.out.trans' hf.out (fun _ _ _ k => k) (fun x y hx k => by have := HSZ.out; omega)⟩
      rw [hV.out] at hcv
      clear hC
      go_wp2_with fail
      go_ret
      exact ⟨rfl, HF.out⟩
end Go.Proofs.YtifkpcijheabhaaGreatDoor
namespace Go.Proofs.YtifkpcijheabhaaGreatDoor
open Go.RowKit

set_option maxRecDepth 100000 in
theorem zz_small {w : World} {f e : Int} {n : Bool} {s : ByteArray} (h : s.size ≤ 2147483647) : Calls Tryz.prog 10 #[.agg #[.int .i64 f, .bool n, .int .i32 e, .string s]] w fun e1 w' => e1 = .returned (.bool true) ∧ Fr (fun _ _ => False) w w' := by
  have h1 : ¬ (2147483647 : Int) < (s.size : Int) := by omega
  go_enter Tryz.func10, Tryz.ntmps10
  go_wp2_with fail
  go_ret
  exact ⟨rfl, (Fr.refl _ w).alloc _⟩
set_option maxRecDepth 100000 in
theorem zz_big {w : World} {f e : Int} {n : Bool} {s : ByteArray} (h : ¬ s.size ≤ 2147483647) : Calls Tryz.prog 10 #[.agg #[.int .i64 f, .bool n, .int .i32 e, .string s]] w fun e1 w' => e1 = .returned (.bool false) ∧ Fr (fun _ _ => False) w w' := by
  have h1 : (2147483647 : Int) < (s.size : Int) := by omega
  go_enter Tryz.func10, Tryz.ntmps10
  go_wp2_with fail
  go_ret
  exact ⟨rfl, (Fr.refl _ w).alloc _⟩
set_option maxRecDepth 100000 in
theorem only_any {w : World} {s : ByteArray} (hs : s.size ≤ 1000) : Calls Tryz.prog 19 #[.string s] w fun e1 w' => Fr (fun _ _ => False) w w' ∧ (e1 = .returned (.bool false) ∨ (e1 = .returned (.bool true) ∧ Digs s.data.toList)) := by
  go_enter Tryz.func19, Tryz.ntmps19
  go_wp2_with fail
  go_loopw [3] (fun iv wr => ∃ i : Nat, i ≤ s.size ∧ iv = .int .i64 i ∧ Aside (∀ k (h : k < s.data.toList.length), k < i → 48 ≤ (s.data.toList[k]).toNat ∧ (s.data.toList[k]).toNat ≤ 57) ∧ Aside (Fr (fun _ _ => False) w wr)) (fun iv _ => ((s.size : Int) - intOf iv).toNat)
  case atStart => exact ⟨0, Nat.zero_le _, rfl, ⟨fun k _ h => absurd h (Nat.not_lt_zero _)⟩, ⟨Fr.refl _ _⟩⟩
  case round =>
    obtain ⟨i, hi, rfl, hd, hf⟩ := hrel
    by_cases hl : i < s.size
    · by_cases h1 : ((s[i]).toNat : Int) < 48
      · go_wp2_with fail
        go_ret
        exact ⟨hf.out, .inl rfl⟩
      · by_cases h2 : (57 : Int) < ((s[i]).toNat : Int)
        · go_wp2_with fail
          go_ret
          exact ⟨hf.out, .inl rfl⟩
        · go_wp2_with fail
          go_roundw
          case rel =>
            refine ⟨i + 1, by omega, by go_num, ⟨fun k hk hki => ?_⟩, hf⟩
            by_cases e : k = i
            · subst e
              have e2 : s.data.toList[k] = s[k] := by simp [ByteArray.getElem_eq_getElem_data]
              rw [e2]; omega
            · exact hd.out k hk (by omega)
          case measure => simp [intOf]; omega
    · go_wp2_with fail
      go_ret
      refine ⟨hf.out, .inr ⟨rfl, fun c hc => ?_⟩⟩
      obtain ⟨k, hk, rfl⟩ := List.mem_iff_getElem.1 hc
      exact hd.out k hk (by have : s.data.toList.length = s.size := rfl
                            omega)
/-- What spec.Clear lets through. -/
def ClearP (f e : Int) (s : ByteArray) : Prop := (1 ≤ f ∧ f ≤ 3 ∧ s.data.toList = [48] ∧ e = 0) ∨ (f = 0 ∧ Digs s.data.toList ∧ 0 < s.size ∧ s.size ≤ 300 ∧ (s.size = 1 ∨ ∀ h : 0 < s.size, s[0] ≠ 48) ∧ -2500 ≤ e ∧ e ≤ 2500)
set_option maxRecDepth 100000 in
set_option maxHeartbeats 1000000 in
theorem clear_inf {w : World} {f e : Int} {n : Bool} {s : ByteArray} (hf : f ≠ 0) :
    Calls Tryz.prog 11 #[.agg #[.int .i64 f, .bool n, .int .i32 e, .string s]] w fun e1 w' => Fr (fun _ _ => False) w w' ∧ (e1 = .returned (.bool false) ∨ (e1 = .returned (.bool true) ∧ ClearP f e s)) := by
  have hfe : (f == 0) = false := by rw [beq_eq_false_iff_ne]; exact hf
  by_cases h1 : f > 0
  · by_cases h2 : f ≤ 3
    · by_cases h3 : s.toList = [48]
      · have h3b : (s.toList == [48]) = true := by rw [beq_iff_eq]; exact h3
        by_cases h4 : e = 0
        · have h4b : (e == 0) = true := by rw [beq_iff_eq]; exact h4
          go_enter Tryz.func11, Tryz.ntmps11
          go_wp2_with fail
          go_ret
          exact ⟨(Fr.refl _ w).alloc _, .inr ⟨rfl, .inl ⟨by omega, h2, by rw [← ByteArray.toList_eq]; exact h3, h4⟩⟩⟩
        · have h4b : (e == 0) = false := by rw [beq_eq_false_iff_ne]; exact h4
          go_enter Tryz.func11, Tryz.ntmps11
          go_wp2_with fail
          go_ret
          exact ⟨(Fr.refl _ w).alloc _, .inl rfl⟩
      · have h3b : (s.toList == [48]) = false := by rw [beq_eq_false_iff_ne]; exact h3
        go_enter Tryz.func11, Tryz.ntmps11
        go_wp2_with fail
        go_ret
        exact ⟨(Fr.refl _ w).alloc _, .inl rfl⟩
    · go_enter Tryz.func11, Tryz.ntmps11
      go_wp2_with fail
      go_ret
      exact ⟨(Fr.refl _ w).alloc _, .inl rfl⟩
  · go_enter Tryz.func11, Tryz.ntmps11
    go_wp2_with fail
    go_ret
    exact ⟨(Fr.refl _ w).alloc _, .inl rfl⟩
end Go.Proofs.YtifkpcijheabhaaGreatDoor
namespace Go.Proofs.YtifkpcijheabhaaGreatDoor
open Go.RowKit

set_option maxRecDepth 100000 in
set_option maxHeartbeats 1000000 in
theorem clear_fin {w : World} {e : Int} {n : Bool} {s : ByteArray} :
    Calls Tryz.prog 11 #[.agg #[.int .i64 0, .bool n, .int .i32 e, .string s]] w fun e1 w' => Fr (fun _ _ => False) w w' ∧ (e1 = .returned (.bool false) ∨ (e1 = .returned (.bool true) ∧ ClearP 0 e s)) := by
  by_cases c1 : s.size = 0
  · have hs : (s.toList == []) = true := by
      rw [ByteArray.toList_eq, beq_iff_eq]; exact List.eq_nil_of_length_eq_zero c1
    go_enter Tryz.func11, Tryz.ntmps11
    go_wp2_with fail
    go_ret
    exact ⟨(Fr.refl _ w).alloc _, .inl rfl⟩
  have hs : (s.toList == []) = false := by
    rw [ByteArray.toList_eq, beq_eq_false_iff_ne]; intro k
    exact c1 (by have : s.data.toList.length = s.size := rfl
                 rw [k] at this; exact this.symm)
  by_cases c2 : s.size ≤ 300
  case neg =>
    have c2' : (300 : Int) < (s.size : Int) := by omega
    go_enter Tryz.func11, Tryz.ntmps11
    go_wp2_with fail
    go_ret
    exact ⟨(Fr.refl _ w).alloc _, .inl rfl⟩
  have c2' : ¬ (300 : Int) < (s.size : Int) := by omega
  have hp : 0 < s.size := by omega
  have H : Hid (∀ w1, Calls Tryz.prog 19 #[.string s] w1 fun e1 w' => Fr (fun _ _ => False) w1 w' ∧ (e1 = .returned (.bool false) ∨ (e1 = .returned (.bool true) ∧ Digs s.data.toList))) := Lib.hid (fun w1 => only_any (by omega))
  have last : (s.size = 1 ∨ ∀ h : 0 < s.size, s[0] ≠ 48) → (¬ e < -2500) → (¬ e > 2500) → Calls Tryz.prog 11 #[.agg #[.int .i64 0, .bool n, .int .i32 e, .string s]] w fun e1 w' => Fr (fun _ _ => False) w w' ∧ (e1 = .returned (.bool false) ∨ (e1 = .returned (.bool true) ∧ ClearP 0 e s)) := by
    intro hz c4 c5
    by_cases c3 : (1 : Int) < (s.size : Int)
    · have hz0 : (((s[0]).toNat : Int) == 48) = false := by
        rw [beq_eq_false_iff_ne]; intro k
        rcases hz with k1 | k1
        · omega
        · exact k1 hp (by apply UInt8.toNat_inj.1; have : (48 : UInt8).toNat = 48 := rfl
                          omega)
      have HZ := Aside.mk hz
      clear hz
      go_enter Tryz.func11, Tryz.ntmps11
      go_wp2_with fail
      refine (H.out _).mono ?_
      rintro e1 w2 ⟨k1, rfl | ⟨rfl, k2⟩⟩
      · have K := Aside.mk k1
        clear k1
        go_wp2_with fail
        go_ret
        exact ⟨((Fr.refl _ w).alloc _).trans K.out, .inl rfl⟩
      · have K := Aside.mk k1
        have K2 := Aside.mk k2
        clear k1 k2
        go_wp2_with fail
        go_ret
        exact ⟨((Fr.refl _ w).alloc _).trans K.out, .inr ⟨rfl, .inr ⟨rfl, K2.out, hp, c2, HZ.out, by omega, by omega⟩⟩⟩
    · have HZ := Aside.mk hz
      clear hz
      go_enter Tryz.func11, Tryz.ntmps11
      go_wp2_with fail
      refine (H.out _).mono ?_
      rintro e1 w2 ⟨k1, rfl | ⟨rfl, k2⟩⟩
      · have K := Aside.mk k1
        clear k1
        go_wp2_with fail
        go_ret
        exact ⟨((Fr.refl _ w).alloc _).trans K.out, .inl rfl⟩
      · have K := Aside.mk k1
        have K2 := Aside.mk k2
        clear k1 k2
        go_wp2_with fail
        go_ret
        exact ⟨((Fr.refl _ w).alloc _).trans K.out, .inr ⟨rfl, .inr ⟨rfl, K2.out, hp, c2, HZ.out, by omega, by omega⟩⟩⟩
  by_cases c3 : (1 : Int) < (s.size : Int)
  · by_cases hz : s[0] = 48
    · have hz0 : (((s[0]).toNat : Int) == 48) = true := by rw [hz]; rfl
      clear last H
      go_enter Tryz.func11, Tryz.ntmps11
      go_wp2_with fail
      go_ret
      exact ⟨(Fr.refl _ w).alloc _, .inl rfl⟩
    · have hz0 : (((s[0]).toNat : Int) == 48) = false := by
        rw [beq_eq_false_iff_ne]; intro k
        exact hz (by apply UInt8.toNat_inj.1; have : (48 : UInt8).toNat = 48 := rfl
                     omega)
      by_cases c4 : e < -2500
      · clear last H
        go_enter Tryz.func11, Tryz.ntmps11
        go_wp2_with fail
        go_ret
        exact ⟨(Fr.refl _ w).alloc _, .inl rfl⟩
      by_cases c5 : e > 2500
      · clear last H
        go_enter Tryz.func11, Tryz.ntmps11
        go_wp2_with fail
        go_ret
        exact ⟨(Fr.refl _ w).alloc _, .inl rfl⟩
      exact last (.inr (fun _ => hz)) c4 c5
  · by_cases c4 : e < -2500
    · clear last H
      go_enter Tryz.func11, Tryz.ntmps11
      go_wp2_with fail
      go_ret
      exact ⟨(Fr.refl _ w).alloc _, .inl rfl⟩
    by_cases c5 : e > 2500
    · clear last H
      go_enter Tryz.func11, Tryz.ntmps11
      go_wp2_with fail
      go_ret
      exact ⟨(Fr.refl _ w).alloc _, .inl rfl⟩
    exact last (.inl (by omega)) c4 c5
theorem clear_any {w : World} {f e : Int} {n : Bool} {s : ByteArray} :
    Calls Tryz.prog 11 #[.agg #[.int .i64 f, .bool n, .int .i32 e, .string s]] w fun e1 w' => Fr (fun _ _ => False) w w' ∧ (e1 = .returned (.bool false) ∨ (e1 = .returned (.bool true) ∧ ClearP f e s)) := by
  by_cases h : f = 0
  · subst h; exact clear_fin
  · exact clear_inf h
theorem bl_digs {l : List UInt8} (h : Digs l) (hl : l.length ≤ 300) : bl (numOf l) ≤ 1100 := by
  have h1 := numOf_lt h
  have key : ∀ m, l.length ≤ 3 * m → 10 ^ l.length ≤ (2 ^ 10) ^ m := fun m hm => Nat.le_trans (Nat.pow_le_pow_right (by decide) hm) (by rw [Nat.pow_mul]; exact Nat.pow_le_pow_left (by decide) m)
  have k2 : ∀ m k, 10 * m ≤ k → (2 ^ 10) ^ m ≤ 2 ^ k := fun m k h => by rw [← Nat.pow_mul]; exact Nat.pow_le_pow_right (by decide) h
  exact (lt_two_iff _ 1100).1 (Nat.lt_of_lt_of_le (Nat.lt_of_lt_of_le h1 (key 100 hl)) (k2 100 1100 (by decide)))
/-- What a clear decimal is, in one list. -/
theorem ClearP.all {f e : Int} {s : ByteArray} (h : ClearP f e s) : Digs s.data.toList ∧ 0 < s.size ∧ s.size ≤ 300 ∧ (0 ≤ f ∧ f ≤ 3) ∧ natText (numOf s.data.toList) = s.data.toList ∧ (-2500 ≤ e ∧ e ≤ 2500) ∧ (f ≠ 0 → s.data.toList = [48] ∧ e = 0) := by
  have hsl : s.data.toList.length = s.size := rfl
  rcases h with ⟨h1, h2, h3, h6⟩ | ⟨h1, h2, h3, h4, h5, h6⟩
  · refine ⟨by rw [h3]; intro c hc; simp at hc; subst hc; decide, by rw [← hsl, h3]; decide, by rw [← hsl, h3]; decide, ⟨by omega, h2⟩, by rw [h3]; exact natText_zero, by omega, fun _ => ⟨h3, h6⟩⟩
  · have hne : s.data.toList ≠ [] := by intro k; rw [k] at hsl; simp at hsl; omega
    refine ⟨h2, h3, h4, by omega, natText_numOf h2 hne ?_, h6, fun k => absurd h1 k⟩
    rcases h5 with k | k
    · exact .inl (by omega)
    · exact .inr (fun hp => by have := k (by omega); simpa [ByteArray.getElem_eq_getElem_data] using this)
end Go.Proofs.YtifkpcijheabhaaGreatDoor
