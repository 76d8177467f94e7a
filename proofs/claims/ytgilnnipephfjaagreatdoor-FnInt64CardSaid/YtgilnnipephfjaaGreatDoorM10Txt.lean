/- The base-2 logarithm of 10, as math.Log2 gives it; the number of digits that itoa lays out. The decimal text of a number, as bytes; plain laws. -/
import Derived.Test.YtgilnnipephfjaaGreatDoorM09Conv
import GoSem.Extern.MathLog
import GoSem.Extern.MathFloatBits
set_option linter.unusedSimpArgs false
set_option linter.unusedVariables false
namespace Go.Proofs.YtgilnnipephfjaaGreatDoor
open Go.RowKit

/-- The floats of 10, of 0.625, and their logarithms. -/
def fTen : Nat := 4621819117588971520
def fPart : Nat := 4603804719079489536
def fLn : Nat := 13825510489450817230
def fLog : Nat := 4614662735865160561

theorem run_archLog (w : World) : (callFunc 299 #[.float .f64 4603804719079489536]).run Tryz.prog w = .ok (.value (.float .f64 13825510489450817230)) w := by
  rw [run_callFunc_extern Tryz.func299 (by kernel_rfl) (by kernel_rfl) (by kernel_rfl) (e := Go.Extern.MathLog.archLog) (by kernel_rfl)]
  kernel_rfl
theorem run_bits (b : Nat) (w : World) : (callFunc 323 #[.float .f64 b]).run Tryz.prog w = .ok (.value (.int .u64 b)) w := by
  rw [run_callFunc_extern Tryz.func323 (by kernel_rfl) (by kernel_rfl) (by kernel_rfl) (e := Go.Extern.MathFloatBits.float64bits) (by kernel_rfl)]
  rfl
theorem run_from (b : Nat) (w : World) : (callFunc 324 #[.int .u64 b]).run Tryz.prog w = .ok (.value (.float .f64 b)) w := by
  rw [run_callFunc_extern Tryz.func324 (by kernel_rfl) (by kernel_rfl) (by kernel_rfl) (e := Go.Extern.MathFloatBits.float64frombits) (by kernel_rfl)]
  rfl
theorem absf (b : Nat) (h : bits .andNot .u64 (b : Int) 9223372036854775808 = (b : Int)) (w : World) : Calls Tryz.prog 336 #[.float .f64 b] w fun e w' => e = .returned (.float .f64 b) ∧ w' = w := by
  have h1 := run_bits b w
  have h2 := run_from b w
  go_enter Tryz.func336, Tryz.ntmps336
  go_wp2_with fail
  go_ret
  exact ⟨rfl, rfl⟩
theorem isNaN (w : World) : Calls Tryz.prog 321 #[.float .f64 4621819117588971520] w fun e w' => e = .returned (.bool false) ∧ w' = w := by
  go_enter Tryz.func321, Tryz.ntmps321
  go_wp2_with fail
  go_ret
  exact ⟨rfl, rfl⟩
theorem isInf (w : World) : Calls Tryz.prog 320 #[.float .f64 4621819117588971520, .int .i64 0] w fun e w' => e = .returned (.bool false) ∧ w' = w := by
  go_enter Tryz.func320, Tryz.ntmps320
  go_wp2_with fail
  refine (absf _ (by rfl) _).mono ?_
  rintro e w' ⟨rfl, rfl⟩
  go_wp2_with fail
  go_ret
  exact ⟨rfl, rfl⟩
theorem normal (w : World) : Calls Tryz.prog 322 #[.float .f64 4621819117588971520] w fun e w' => e = .returned (.tuple #[.float .f64 4621819117588971520, .int .i64 0]) ∧ w' = w := by
  go_enter Tryz.func322, Tryz.ntmps322
  go_wp2_with fail
  refine (absf _ (by rfl) _).mono ?_
  rintro e w' ⟨rfl, rfl⟩
  go_wp2_with fail
  go_ret2
  exact ⟨rfl, rfl⟩
set_option maxRecDepth 20000 in
theorem frexp (w : World) : Calls Tryz.prog 298 #[.float .f64 4621819117588971520] w fun e w' => e = .returned (.tuple #[.float .f64 4603804719079489536, .int .i64 4]) ∧ w' = w := by
  have h1 := run_bits 4621819117588971520 w
  have h2 := run_from 4603804719079489536 w
  obtain ⟨b, hb⟩ : ∃ b : Int, ((4621819117588971520 : Nat) : Int) = b := ⟨_, rfl⟩
  obtain ⟨c, hc⟩ : ∃ c : Int, ((4603804719079489536 : Nat) : Int) = c := ⟨_, rfl⟩
  rw [hb] at h1
  rw [hc] at h2
  have e0 : bits BinOp.and IntKind.u64 (b / 4503599627370496) 2047 = 1026 := by rw [← hb]; rfl
  have e1 : bits BinOp.or IntKind.u64 (bits BinOp.andNot IntKind.u64 b 9218868437227405312) 4602678819172646912 = c := by rw [← hb, ← hc]; rfl
  clear hb hc
  go_enter Tryz.func298, Tryz.ntmps298
  go_wp2_with (first | (go_at_call 320; refine (isInf _).mono ?_; rintro e w' ⟨rfl, rfl⟩) | (go_at_call 321; refine (isNaN _).mono ?_; rintro e w' ⟨rfl, rfl⟩) | (go_at_call 322; refine (normal _).mono ?_; rintro e w' ⟨rfl, rfl⟩))
  go_ret2
  exact ⟨rfl, rfl⟩
theorem frexpU (w : World) : Calls Tryz.prog 266 #[.float .f64 4621819117588971520] w fun e w' => e = .returned (.tuple #[.float .f64 4603804719079489536, .int .i64 4]) ∧ w' = w := by
  go_enter Tryz.func266, Tryz.ntmps266
  go_wp2_with fail
  refine (frexp _).mono ?_
  rintro e w' ⟨rfl, rfl⟩
  go_wp2_with fail
  go_ret2
  exact ⟨rfl, rfl⟩
set_option maxRecDepth 20000 in
theorem logU (w : World) : Calls Tryz.prog 267 #[.float .f64 4603804719079489536] w fun e w' => e = .returned (.float .f64 13825510489450817230) ∧ w' = w := by
  have h := run_archLog w
  go_enter Tryz.func267, Tryz.ntmps267
  go_wp2_with fail
  go_ret
  exact ⟨rfl, rfl⟩
theorem fmul1 (w : World) : Sem.run Tryz.prog (binOp BinOp.mul 209 (Value.float FloatKind.f64 13825510489450817230) (Value.float FloatKind.f64 4609176140021203710)) w = .ok (.float .f64 13827654785158443579) w := by kernel_rfl
theorem fconv (w : World) : Sem.run Tryz.prog (convert 3 209 (.int .i64 4)) w = .ok (.float .f64 4616189618054758400) w := by kernel_rfl
theorem fadd1 (w : World) : Sem.run Tryz.prog (binOp BinOp.add 209 (Value.float FloatKind.f64 13827654785158443579) (Value.float FloatKind.f64 4616189618054758400)) w = .ok (.float .f64 4614662735865160561) w := by kernel_rfl
set_option maxRecDepth 20000 in
theorem log2 (w : World) : Calls Tryz.prog 225 #[.float .f64 4621819117588971520] w fun e w' => e = .returned (.float .f64 4614662735865160561) ∧ w' = w := by
  have m1 := fmul1 w
  have m2 := fconv w
  have m3 := fadd1 w
  go_enter Tryz.func225, Tryz.ntmps225
  go_wp2_with (first | (go_at_call 266; refine (frexpU _).mono ?_; rintro e w' ⟨rfl, rfl⟩) | (go_at_call 267; refine (logU _).mono ?_; rintro e w' ⟨rfl, rfl⟩))
  go_ret
  exact ⟨rfl, rfl⟩
theorem log2U (w : World) : Calls Tryz.prog 191 #[.float .f64 4621819117588971520] w fun e w' => e = .returned (.float .f64 4614662735865160561) ∧ w' = w := by
  go_enter Tryz.func191, Tryz.ntmps191
  go_wp2_with fail
  refine (log2 _).mono ?_
  rintro e w' ⟨rfl, rfl⟩
  go_wp2_with fail
  go_ret
  exact ⟨rfl, rfl⟩
/-- What a float division of a small whole number, cut to a whole number, gives. -/
def flq (n d : Nat) : Option (Nat × Nat) := match FloatKind.f64.format.div (FloatKind.f64.nearest n) d with
  | some q => match (FloatKind.f64.decode q).toInt .zero with
    | some (.ofNat k) => some (q, k)
    | _ => none
  | none => none
def flOk (d n : Nat) : Bool := match flq n d with
  | some (_, k) => decide (2 ^ n ≤ 10 ^ (k + 1)) && decide (10 ^ (k - 1) ≤ 2 ^ (n - 1)) && decide (k ≤ n)
  | none => false
def flAll (d : Nat) : Nat → Bool
  | 0 => flOk d 0
  | n + 1 => flOk d (n + 1) && flAll d n
theorem flAll_at {d m n : Nat} (h : flAll d m = true) (hn : n ≤ m) : flOk d n = true := by
  induction m with
  | zero =>
    obtain rfl : n = 0 := by omega
    exact h
  | succ m ih =>
    simp only [flAll, Bool.and_eq_true] at h
    by_cases e : n = m + 1
    · subst e; exact h.1
    · exact ih h.2 (by omega)
theorem flAll_log : flAll 4614662735865160561 1100 = true := by kernel_rfl
theorem fl_get {d n : Nat} (h : flAll d 1100 = true) (hn : n ≤ 1100) : ∃ q k, flq n d = some (q, k) ∧ 2 ^ n ≤ 10 ^ (k + 1) ∧ 10 ^ (k - 1) ≤ 2 ^ (n - 1) ∧ k ≤ n := by
  have h1 := flAll_at h hn
  unfold flOk at h1
  cases hq : flq n d with
  | none => rw [hq] at h1; cases h1
  | some p =>
    obtain ⟨q, k⟩ := p
    rw [hq] at h1
    simp only [Bool.and_eq_true, decide_eq_true_eq] at h1
    exact ⟨q, k, rfl, h1.1.1, h1.1.2, h1.2⟩
theorem flq_some {n d q k : Nat} (h : flq n d = some (q, k)) : FloatKind.f64.format.div (FloatKind.f64.nearest n) d = some q ∧ (FloatKind.f64.decode q).toInt .zero = some (k : Int) := by
  unfold flq at h
  split at h
  · rename_i q' h1
    split at h
    · rename_i k' h2
      simp only [Option.some.injEq, Prod.mk.injEq] at h
      obtain ⟨rfl, rfl⟩ := h
      exact ⟨h1, h2⟩
    · cases h
  · cases h
theorem run_fdiv {x y q : Nat} (h : FloatKind.f64.format.div x y = some q) (w : World) : Sem.run Tryz.prog (binOp BinOp.quo 209 (.float .f64 x) (.float .f64 y)) w = .ok (.float .f64 q) w := by
  show Sem.run Tryz.prog (Op.floatArith .quo .f64 x y) w = _
  simp only [Op.floatArith, pure_bind, h]
  rfl
theorem run_fcut {b k : Nat} (h : (FloatKind.f64.decode b).toInt .zero = some (k : Int)) (hk : k < 1000000) (w : World) : Sem.run Tryz.prog (convert 209 3 (.float .f64 b)) w = .ok (.int .i64 k) w := by
  have : Sem.run Tryz.prog (convert 209 3 (.float .f64 b)) w = Sem.run Tryz.prog (Conv.floatToInt .f64 b .i64) w := by kernel_rfl
  rw [this]
  simp only [Conv.floatToInt, h]
  rw [if_pos (by rw [show IntKind.i64.min = -9223372036854775808 from rfl, show IntKind.i64.max = 9223372036854775807 from rfl]; omega)]
  rfl
theorem run_fof (n : Nat) (w : World) : Sem.run Tryz.prog (convert 3 209 (.int .i64 n)) w = .ok (.float .f64 (FloatKind.f64.nearest n)) w := by kernel_rfl
end Go.Proofs.YtgilnnipephfjaaGreatDoor
namespace Go.Proofs.YtgilnnipephfjaaGreatDoor
open Go.RowKit

/-- How many digits a number has; 1 of 0. -/
def ndig (X : Nat) : Nat := if h : X < 10 then 1 else ndig (X / 10) + 1
termination_by X
theorem ndig_pos (X : Nat) : 0 < ndig X := by unfold ndig; split <;> omega
theorem lt_ndig (X : Nat) : X < 10 ^ ndig X := by
  induction X using Nat.strongRecOn with
  | ind X ih =>
    unfold ndig
    by_cases h : X < 10
    · rw [dif_pos h]; omega
    · rw [dif_neg h, Nat.pow_succ]
      have := ih (X / 10) (by omega)
      omega
theorem ndig_le {X : Nat} (h0 : X ≠ 0) : 10 ^ (ndig X - 1) ≤ X := by
  induction X using Nat.strongRecOn with
  | ind X ih =>
    unfold ndig
    by_cases h : X < 10
    · rw [dif_pos h]; simp; omega
    · rw [dif_neg h, Nat.add_sub_cancel]
      have := ih (X / 10) (by omega) (by omega)
      have e : ndig (X / 10) = ndig (X / 10) - 1 + 1 := by have := ndig_pos (X / 10); omega
      rw [e, Nat.pow_succ]
      omega
theorem ndig_le_of {X n : Nat} (hn : 0 < n) (h : X < 10 ^ n) : ndig X ≤ n := by
  by_cases h0 : X = 0
  · subst h0; unfold ndig; rw [dif_pos (by omega)]; exact hn
  · have h1 := ndig_le h0
    have h2 : 10 ^ (ndig X - 1) < 10 ^ n := Nat.lt_of_le_of_lt h1 h
    have := (Nat.pow_lt_pow_iff_right (by omega : 1 < 10)).1 h2
    omega
theorem ndig_eq_of {X n : Nat} (h1 : 10 ^ n ≤ X) (h2 : X < 10 ^ (n + 1)) : ndig X = n + 1 := by
  have := ndig_le_of (by omega) h2
  have h3 : 10 ^ n < 10 ^ ndig X := Nat.lt_of_le_of_lt h1 (lt_ndig X)
  have := (Nat.pow_lt_pow_iff_right (by omega : 1 < 10)).1 h3
  omega
theorem dg_top {X : Nat} (h0 : X ≠ 0) : dg X (ndig X - 1) ≠ 0 := by
  have h1 := ndig_le h0
  have h2 := lt_ndig X
  have e : ndig X = ndig X - 1 + 1 := by have := ndig_pos X; omega
  unfold dg
  generalize ndig X - 1 = m at *
  rw [e, Nat.pow_succ] at h2
  have h3 : X / 10 ^ m < 10 := Nat.div_lt_of_lt_mul h2
  have h4 : 0 < X / 10 ^ m := Nat.div_pos h1 (Nat.pow_pos (by omega))
  rw [Nat.mod_eq_of_lt h3]
  omega
theorem dg_high {X k : Nat} (h : ndig X ≤ k) : dg X k = 0 := dg_zero (t := ndig X) (Nat.div_eq_of_lt (lt_ndig X)) h

/-- The digits' bytes, and those of a number with its sign. -/
def natText (X : Nat) : List UInt8 := (List.range (ndig X)).map fun i => UInt8.ofNat (48 + dg X (ndig X - 1 - i))
def txt (neg : Bool) (X : Nat) : List UInt8 := if neg = true ∧ X ≠ 0 then 45 :: natText X else natText X
theorem natText_length (X : Nat) : (natText X).length = ndig X := by simp [natText]
theorem natText_get (X i : Nat) (h : i < ndig X) : ((natText X)[i]'(by rw [natText_length]; exact h)).toNat = 48 + dg X (ndig X - 1 - i) := by
  simp only [natText, List.getElem_map, List.getElem_range]
  have := dg_lt X (ndig X - 1 - i)
  rw [UInt8.toNat_ofNat', Nat.mod_eq_of_lt (by omega)]
theorem txt_false (X : Nat) : txt false X = natText X := by simp [txt]
theorem txt_true {X : Nat} (h : X ≠ 0) : txt true X = 45 :: natText X := by simp [txt, h]
theorem txt_zero (neg : Bool) : txt neg 0 = [48] := by
  have : natText 0 = [48] := by simp [natText, ndig, dg]
  simp [txt, this]
theorem txt_length (neg : Bool) (X : Nat) : (txt neg X).length ≤ ndig X + 1 := by
  unfold txt
  split <;> simp [natText_length]

/-- Bytes in memory. -/
def Bs (w : World) (b o : Nat) (l : List UInt8) : Prop := ∀ i (h : i < l.length), w.cell? ⟨b, o + i, none⟩ = some (.int .u8 ((l[i].toNat : Nat) : Int))
theorem Bs.fr {S : Nat → Nat → Prop} {w w' : World} {b o : Nat} {l : List UInt8} (h : Fr S w w') (hb : b < w.heap.size) (hw : Bs w b o l) (hs : ∀ i, i < l.length → ¬ S b (o + i)) : Bs w' b o l :=
  fun i hi => (h.cell b (o + i) hb (hs i hi)).trans (hw i hi)
/-- The digits behind the noughts. -/
theorem Dgs.bytes {w : World} {b o L X : Nat} (h : Dgs w b o L 0 X) (hL : ndig X ≤ L) : Bs w b (o + (L - ndig X)) (natText X) := by
  intro i hi
  have hi' : i < ndig X := by rwa [natText_length] at hi
  have := h (L - ndig X + i) (by omega) (by omega)
  rw [natText_get X i hi', Nat.add_assoc, this, show L - 1 - (L - ndig X + i) = ndig X - 1 - i from by omega]
theorem Bs.cons {w : World} {b o : Nat} {x : UInt8} {l : List UInt8} (h : w.cell? ⟨b, o, none⟩ = some (.int .u8 ((x.toNat : Nat) : Int))) (hl : Bs w b (o + 1) l) : Bs w b o (x :: l) := by
  intro i hi
  cases i with
  | zero => simpa using h
  | succ i =>
    have := hl i (by simpa using hi)
    rw [show o + (i + 1) = o + 1 + i from by omega, this]
    simp

/-- The bits of a number bound its digits. -/
theorem bl_ndig {X k : Nat} (h : 2 ^ bl X ≤ 10 ^ (k + 1)) : ndig X ≤ k + 1 :=
  ndig_le_of (by omega) (Nat.lt_of_lt_of_le ((lt_two_iff X (bl X)).2 (Nat.le_refl _)) h)
end Go.Proofs.YtgilnnipephfjaaGreatDoor
