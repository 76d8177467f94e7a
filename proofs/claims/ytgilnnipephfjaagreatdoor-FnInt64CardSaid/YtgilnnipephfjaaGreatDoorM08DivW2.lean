/- Contracts of arith.go: reciprocalWord, divWW. -/
import Derived.Test.YtgilnnipephfjaaGreatDoorM07DivW
import Derived.Test.YtgilnnipephfjaaGreatDoorM06Exp2
set_option linter.unusedSimpArgs false
set_option linter.unusedVariables false
namespace Go.Proofs.YtgilnnipephfjaaGreatDoor
open Go.RowKit

theorem bitsDiv_any (hi lo y : Nat) (w : World) (hlo : lo < B) (hy : y < B) (hhi : hi < y) (h : B ≤ 2 * y ∨ hi = 0) :
    Calls Tryz.prog 282 #[.int .u64 hi, .int .u64 lo, .int .u64 y] w fun e w' => e = .returned (.tuple #[.int .u64 (quo2 hi lo y : Nat), .int .u64 (rem2 hi lo y : Nat)]) ∧ ∃ d, w' = w.drewN d := by
  have H : Hid (Calls Tryz.prog 315 #[.int .u64 hi, .int .u64 lo, .int .u64 y] w fun e w' => e = .returned (.tuple #[.int .u64 (quo2 hi lo y : Nat), .int .u64 (rem2 hi lo y : Nat)]) ∧ ∃ d, w' = w.drewN d) := by
    by_cases h0 : hi = 0
    · subst h0
      have := bitsDiv64_lo lo y w hlo hy (by omega)
      have e1 : quo2 0 lo y = lo / y := by unfold quo2; rw [Nat.zero_mul, Nat.zero_add]
      have e2 : rem2 0 lo y = lo % y := by unfold rem2; rw [Nat.zero_mul, Nat.zero_add]
      rw [e1, e2]
      exact this
    · exact bitsDiv64_hi hi lo y w hlo hy (by omega) hhi h0
  go_enter Tryz.func282, Tryz.ntmps282
  go_wp2_with fail
  refine H.out.mono ?_
  rintro e w' ⟨rfl, d, rfl⟩
  go_wp2_with fail
  go_ret2
  exact ⟨rfl, d, rfl⟩

/-- The divisor moved up till its highest bit is set, and its reciprocal. -/
def up (y : Nat) : Nat := y * 2 ^ (64 - bl y)
def recip (y : Nat) : Nat := (B * B - 1) / up y - B
theorem up_lt {y : Nat} (hy : y < B) : up y < B := by
  unfold up
  have h1 := (lt_two_iff y _).2 (Nat.le_refl _)
  have h2 := bl_le hy
  have : B = 2 ^ bl y * 2 ^ (64 - bl y) := by rw [← Nat.pow_add, B_two]; congr 1; omega
  rw [this]
  exact Nat.mul_lt_mul_of_pos_right h1 (Nat.pow_pos (by omega))
theorem up_ge {y : Nat} (hy : y < B) (h0 : y ≠ 0) : B ≤ 2 * up y := by
  unfold up
  have hb := bl_pos h0
  have h1 : 2 ^ (bl y - 1) ≤ y := by apply Nat.le_of_not_lt; intro k; have := (lt_two_iff y _).1 k; omega
  have h2 := bl_le hy
  have : B = 2 * (2 ^ (bl y - 1) * 2 ^ (64 - bl y)) := by rw [← Nat.pow_add, ← Nat.pow_succ', B_two]; congr 1; omega
  rw [this]
  exact Nat.mul_le_mul_left _ (Nat.mul_le_mul_right _ h1)

theorem xor_ones (x : Nat) (h : x < 18446744073709551616) : 18446744073709551615 ^^^ x = 18446744073709551615 - x := by
  have e := congrArg BitVec.toNat (BitVec.allOnes_xor (x := BitVec.ofNat 64 x))
  rw [BitVec.toNat_xor, BitVec.toNat_allOnes, BitVec.toNat_not, BitVec.toNat_ofNat, Nat.mod_eq_of_lt (by simpa using h)] at e
  simpa using e
theorem not_word (x : Nat) (h : x < B) : bits .xor .u64 IntKind.u64.max (x : Int) = ((B - 1 - x : Nat) : Int) := by
  have e : IntKind.u64.max = ((18446744073709551615 : Nat) : Int) := by decide
  rw [e, u64_xor_nat _ _ (by omega) h, xor_ones x h]
  rfl
theorem recip_quo (u : Nat) (h : u < B) : quo2 (B - 1 - u) (B - 1) u = (B * B - 1) / u - B := by
  unfold quo2
  have e : (B - 1 - u) * B + (B - 1) = B * B - 1 - u * B := by
    have h1 : (B - 1 - u) * B = B * B - B - u * B := by rw [Nat.mul_sub_right_distrib, Nat.mul_sub_right_distrib, Nat.one_mul]
    have h2 : (u + 1) * B ≤ B * B := Nat.mul_le_mul_right _ h
    rw [Nat.succ_mul] at h2
    have h3 : B ≤ B * B := Nat.le_mul_of_pos_left _ B_pos
    have hB := B_pos
    generalize B = b at *
    omega
  rw [e, Nat.sub_mul_div]
theorem recip_any (y : Nat) (w : World) (hy : y < B) (h0 : y ≠ 0) :
    Calls Tryz.prog 283 #[.int .u64 y] w fun e w' => e = .returned (.int .u64 (recip y : Nat)) ∧ ∃ d, w' = w.drewN d := by
  have hu := up_lt hy
  have hg := up_ge hy h0
  obtain ⟨s, hs⟩ : ∃ s, 64 - bl y = s := ⟨_, rfl⟩
  have hbp := bl_pos h0
  have hsl : s < 64 := by omega
  have hu' : y * 2 ^ s = up y := by unfold up; rw [hs]
  have hw : IntKind.u64.wrap ((y : Int) * 2 ^ s) = (up y : Int) := by
    rw [show (y : Int) * 2 ^ s = ((y * 2 ^ s : Nat) : Int) from by simp, hu']; exact wrapU hu
  have HS := Lib.hid hs
  clear hs hu'
  go_enter Tryz.func283, Tryz.ntmps283
  go_wp2_with fail
  refine (nlz_any y _ hy).mono ?_
  rintro e w' ⟨rfl, rfl⟩
  rw [HS.out]
  have hn := not_word (up y) hu
  obtain ⟨x1, hx1⟩ : ∃ x, B - 1 - up y = x := ⟨_, rfl⟩
  rw [hx1] at hn
  have H := Lib.hid (bitsDiv_any x1 18446744073709551615 (up y) w' (by unfold B; omega) hu (by omega) (.inl hg))
  have HX := Lib.hid hx1
  clear hx1
  go_wp2_with fail
  refine H.out.mono ?_
  rintro e w2 ⟨rfl, d, rfl⟩
  go_wp2_with fail
  go_ret
  have hq : quo2 x1 18446744073709551615 (up y) = recip y := by rw [← HX.out]; exact recip_quo (up y) hu
  exact ⟨by rw [← hq]; rfl, d, rfl⟩

theorem gdivww_lo (B d mB x1 x0 : Nat) (hd : d < B) (hm : mB * d < B * B) : ((x1 * mB + x0) / B) * d ≤ x1 * B + x0 := by
  have hB : 0 < B := by omega
  have h1 : (x1 * mB + x0) / B * B ≤ x1 * mB + x0 := Nat.div_mul_le_self _ _
  generalize (x1 * mB + x0) / B = q at *
  have h2 : q * B * d ≤ (x1 * mB + x0) * d := Nat.mul_le_mul_right _ h1
  have h3 : x1 * (mB * d) ≤ x1 * (B * B) := Nat.mul_le_mul_left _ (by omega)
  have h4 : x0 * d ≤ x0 * B := Nat.mul_le_mul_left _ (by omega)
  have h5 : (q * d) * B ≤ (x1 * B + x0) * B := by
    calc (q * d) * B = q * B * d := by grind
      _ ≤ (x1 * mB + x0) * d := h2
      _ = x1 * (mB * d) + x0 * d := by grind
      _ ≤ x1 * (B * B) + x0 * B := Nat.add_le_add h3 h4
      _ = (x1 * B + x0) * B := by grind
  exact Nat.le_of_mul_le_mul_right h5 hB
theorem gdivww_hi (B d mB x1 x0 : Nat) (hd : d < B) (hx1 : x1 < d) (hx0 : x0 < B) (hm : B * B ≤ mB * d + d) : x1 * B + x0 < ((x1 * mB + x0) / B) * d + B + d := by
  have hB : 0 < B := by omega
  have h1 : x1 * mB + x0 < (x1 * mB + x0) / B * B + B := by
    have := Nat.div_add_mod (x1 * mB + x0) B
    have := Nat.mod_lt (x1 * mB + x0) hB
    grind
  generalize (x1 * mB + x0) / B = q at *
  have h2 : (x1 * mB + x0 + 1) * d ≤ (q * B + B) * d := Nat.mul_le_mul_right _ h1
  have h3 : x1 * (B * B) ≤ x1 * (mB * d + d) := Nat.mul_le_mul_left _ hm
  obtain ⟨e, rfl⟩ : ∃ e, B = d + e := ⟨B - d, by omega⟩
  have h4 : x0 * e < (d + e) * e ∨ e = 0 := by
    rcases Nat.eq_zero_or_pos e with h | h
    · exact .inr h
    · exact .inl (Nat.mul_lt_mul_of_pos_right hx0 h)
  have h5 : x1 * d < d * d := Nat.mul_lt_mul_of_pos_right hx1 (by omega)
  have h6 : (x1 * (d + e) + x0) * (d + e) < (q * d + (d + e) + d) * (d + e) := by
    rcases h4 with h4 | h4 <;> grind
  exact Nat.lt_of_mul_lt_mul_right h6

theorem gdif (B a1 a0 d1 d0 r : Nat) (h1 : a1 < B) (h0 : a0 < B) (g1 : d1 < B) (g0 : d0 < B) (hr : d0 + B * d1 + r = a1 * B + a0) (hrB : r < 2 * B) :
    (a0 + B - d0 - 0) % B = r % B ∧ (a1 + B - d1 - (if a0 < d0 + 0 then 1 else 0)) % B = r / B := by
  have hB : 0 < B := by omega
  have em := Nat.div_add_mod r B
  have ml := Nat.mod_lt r hB
  generalize r % B = rl at *
  generalize hq : r / B = rh at *
  subst em
  have hrh : rh < 2 := by
    apply Nat.lt_of_mul_lt_mul_left (a := B); omega
  by_cases hlt : a0 < d0
  · rw [if_pos (by omega)]
    have e1 : a0 + B = d0 + rl ∧ a1 = d1 + rh + 1 := by
      have h2 : d0 + rl + B * (d1 + rh) = a0 + B * a1 := by grind
      rcases Nat.lt_trichotomy (d1 + rh + 1) a1 with k | k | k
      · have := Nat.mul_le_mul_left B (show d1 + rh + 2 ≤ a1 from k)
        have e : B * (d1 + rh + 2) = B * (d1 + rh) + 2 * B := by grind
        omega
      · subst k
        have e : B * (d1 + rh + 1) = B * (d1 + rh) + B := by grind
        omega
      · have := Nat.mul_le_mul_left B (show a1 ≤ d1 + rh by omega)
        omega
    constructor
    · rw [show a0 + B - d0 - 0 = rl by omega, Nat.mod_eq_of_lt ml]
    · rw [show a1 + B - d1 - 1 = rh + B by omega, Nat.add_mod_right, Nat.mod_eq_of_lt (by omega)]
  · rw [if_neg (by omega)]
    have e1 : a0 = d0 + rl ∧ a1 = d1 + rh := by
      have h2 : d0 + rl + B * (d1 + rh) = a0 + B * a1 := by grind
      rcases Nat.lt_trichotomy (d1 + rh) a1 with k | k | k
      · have := Nat.mul_le_mul_left B (show d1 + rh + 1 ≤ a1 from k)
        have e : B * (d1 + rh + 1) = B * (d1 + rh) + B := by grind
        omega
      · subst k; omega
      · have := Nat.mul_le_mul_left B (show a1 + 1 ≤ d1 + rh from k)
        have e : B * (a1 + 1) = B * a1 + B := by grind
        omega
    constructor
    · rw [show a0 + B - d0 - 0 = rl + B by omega, Nat.add_mod_right, Nat.mod_eq_of_lt ml]
    · rw [show a1 + B - d1 - 0 = rh + B by omega, Nat.add_mod_right, Nat.mod_eq_of_lt (by omega)]
/-- The first quotient that divWW tries, and what it leaves. -/
def q1st (a1 a0 m : Nat) : Nat := (a1 * (m + B) + a0) / B
theorem recip_add {y : Nat} (hy : y < B) (h0 : y ≠ 0) : recip y + B = (B * B - 1) / up y := by
  have hu := up_lt hy
  have hg := up_ge hy h0
  unfold recip
  have : B ≤ (B * B - 1) / up y := by
    rw [Nat.le_div_iff_mul_le (by omega)]
    have h1 : B * (up y + 1) ≤ B * B := Nat.mul_le_mul_left _ hu
    rw [Nat.mul_succ] at h1
    have hB := B_pos
    omega
  omega
theorem recip_lt {y : Nat} (hy : y < B) (h0 : y ≠ 0) : recip y < B := by
  have h := recip_add hy h0
  have hg := up_ge hy h0
  have : (B * B - 1) / up y < 2 * B := by
    apply Nat.div_lt_of_lt_mul
    have h1 : B * B ≤ (2 * up y) * B := Nat.mul_le_mul_right _ hg
    have h2 : up y * (2 * B) = (2 * up y) * B := by grind
    have hB : 0 < B * B := Nat.mul_pos B_pos B_pos
    omega
  omega
theorem q1st_ok {a1 a0 y : Nat} (hy : y < B) (h0 : y ≠ 0) (h1 : a1 < up y) (ha0 : a0 < B) :
    q1st a1 a0 (recip y) < B ∧ q1st a1 a0 (recip y) * up y ≤ a1 * B + a0 ∧ a1 * B + a0 < q1st a1 a0 (recip y) * up y + B + up y := by
  have hu := up_lt hy
  have hg := up_ge hy h0
  have hm := recip_add hy h0
  have e := Nat.div_add_mod (B * B - 1) (up y)
  have ml := Nat.mod_lt (B * B - 1) (show 0 < up y by omega)
  rw [← hm, Nat.mul_comm] at e
  have hBB : 0 < B * B := Nat.mul_pos B_pos B_pos
  unfold q1st
  have lo := gdivww_lo B (up y) (recip y + B) a1 a0 hu (by omega)
  have hi := gdivww_hi B (up y) (recip y + B) a1 a0 hu h1 ha0 (by omega)
  refine ⟨?_, lo, hi⟩
  apply Nat.lt_of_not_le
  intro k
  have h2 := Nat.mul_le_mul_right (up y) k
  have h3 := Nat.mul_le_mul_right B (show a1 + 1 ≤ up y from h1)
  rw [Nat.succ_mul] at h3
  have : B * up y = up y * B := Nat.mul_comm _ _
  omega
theorem q1st_words {a1 a0 m : Nat} (hq : q1st a1 a0 m < B) : sumLo (prodHi m a1) a1 (sumHi (prodLo m a1) a0 0) = q1st a1 a0 m := by
  have h := mulHi_eq m a1 a0
  have h2 : prodHi m a1 + sumHi (prodLo m a1) a0 0 = mulHi m a1 a0 := by omega
  unfold sumLo
  have e : prodHi m a1 + a1 + sumHi (prodLo m a1) a0 0 = q1st a1 a0 m := by
    have : q1st a1 a0 m = (m * a1 + a0) / B + a1 := by
      unfold q1st
      rw [show a1 * (m + B) + a0 = (m * a1 + a0) + a1 * B by grind, Nat.add_mul_div_right _ _ B_pos]
    rw [this]
    unfold mulHi at h2
    omega
  rw [e, Nat.mod_eq_of_lt hq]
theorem fin_quo {x1 x0 y s Q R : Nat} (hY : 0 < y) (h : (x1 * B + x0) * 2 ^ s = Q * (y * 2 ^ s) + R) (hR : R < y * 2 ^ s) : quo2 x1 x0 y = Q ∧ rem2 x1 x0 y = R / 2 ^ s := by
  have hp : 0 < 2 ^ s := Nat.pow_pos (by omega)
  have hd : 0 < y * 2 ^ s := Nat.mul_pos hY hp
  unfold quo2 rem2
  have e1 : (x1 * B + x0) * 2 ^ s / (y * 2 ^ s) = Q := by
    rw [h, Nat.add_comm, Nat.add_mul_div_right _ _ hd, Nat.div_eq_of_lt hR, Nat.zero_add]
  have e2 : (x1 * B + x0) * 2 ^ s % (y * 2 ^ s) = R := by
    rw [h, Nat.add_comm, Nat.add_mul_mod_self_right, Nat.mod_eq_of_lt hR]
  rw [Nat.mul_div_mul_right _ _ hp] at e1
  rw [Nat.mul_mod_mul_right] at e2
  refine ⟨e1, ?_⟩
  rw [← e2, Nat.mul_div_cancel _ hp]

theorem divcast (r s : Nat) : ((r / 2 ^ s : Nat) : Int) = (r : Int) / 2 ^ s := by simp

set_option maxRecDepth 20000 in
set_option maxHeartbeats 2000000 in
theorem divWW_any (x1 x0 y : Nat) (w : World) (hy : y < B) (hx1 : x1 < y) (hx0 : x0 < B) :
    Calls Tryz.prog 284 #[.int .u64 x1, .int .u64 x0, .int .u64 y, .int .u64 (recip y : Nat)] w fun e w' => e = .returned (.tuple #[.int .u64 (quo2 x1 x0 y : Nat), .int .u64 (rem2 x1 x0 y : Nat)]) ∧ w' = w := by
  have h0 : y ≠ 0 := by omega
  have hu := up_lt hy
  have hg := up_ge hy h0
  obtain ⟨s, hs⟩ : ∃ s, 64 - bl y = s := ⟨_, rfl⟩
  have hbp := bl_pos h0
  have hsl : s < 64 := by omega
  have hu' : y * 2 ^ s = up y := by unfold up; rw [hs]
  have hp : 0 < 2 ^ s := Nat.pow_pos (by omega)
  have hBs : B = 2 ^ s * 2 ^ (64 - s) := by rw [← Nat.pow_add, B_two]; congr 1; omega
  obtain ⟨a1, ha1⟩ : ∃ a, x1 * 2 ^ s + x0 / 2 ^ (64 - s) = a := ⟨_, rfl⟩
  obtain ⟨a0, ha0⟩ : ∃ a, x0 * 2 ^ s % B = a := ⟨_, rfl⟩
  have hx0s : x0 / 2 ^ (64 - s) < 2 ^ s := by apply Nat.div_lt_of_lt_mul; rw [Nat.mul_comm, ← hBs]; exact hx0
  have ha1l : a1 < up y := by
    rw [← ha1, ← hu']
    have := Nat.mul_le_mul_right (2 ^ s) (show x1 + 1 ≤ y from hx1)
    rw [Nat.succ_mul] at this
    omega
  have ha0l : a0 < B := by rw [← ha0]; exact Nat.mod_lt _ B_pos
  have hval : a1 * B + a0 = (x1 * B + x0) * 2 ^ s := by
    rw [← ha1, ← ha0]
    have e1 : x0 * 2 ^ s = B * (x0 / 2 ^ (64 - s)) + x0 * 2 ^ s % B := by
      have e2 : x0 * 2 ^ s / B = x0 / 2 ^ (64 - s) := by
        rw [hBs, Nat.mul_comm x0, Nat.mul_div_mul_left _ _ hp]
      rw [← e2]; exact (Nat.div_add_mod _ _).symm
    rw [Nat.add_mul, Nat.add_mul]
    conv => rhs; rw [e1]
    grind
  have HV := Lib.hid hval
  have HS := Lib.hid hs
  clear hs hval
  go_enter Tryz.func284, Tryz.ntmps284
  go_wp2_with fail
  refine (nlz_any y _ hy).mono ?_
  rintro e w' ⟨rfl, rfl⟩
  rw [HS.out]
  go_upto_if 26 with (fail)
  go_cut [0, 1, 2] (fun p q r wx => p = .int .u64 (a1 : Nat) ∧ q = .int .u64 (a0 : Nat) ∧ r = .int .u64 (up y : Nat) ∧ wx = w')
  case first =>
    by_cases hz : s = 0
    · have hs0' : ((s : Int) != 0) = false := by simp [hz]
      have e1 : a1 = x1 := by rw [← ha1, hz]; simp; exact Nat.lt_of_lt_of_le hx0 (by decide)
      have e0 : a0 = x0 := by rw [← ha0, hz, Nat.pow_zero, Nat.mul_one, Nat.mod_eq_of_lt hx0]
      have e2 : up y = y := by rw [← hu', hz, Nat.pow_zero, Nat.mul_one]
      have E1 := Aside.mk e1
      have E0 := Aside.mk e0
      have E2 := Aside.mk e2
      clear e1 e0 e2 hu' ha1 ha0 hBs hz
      go_wp2_with fail
      go_meet
      exact ⟨by rw [E1.out], by rw [E0.out], by rw [E2.out], rfl⟩
    · have hs0' : ((s : Int) != 0) = true := by simp [hz]
      have hx1s : x1 * 2 ^ s < B := Nat.lt_of_le_of_lt (Nat.le_add_right _ _) (by rw [ha1]; omega)
      have hor : bits .or .u64 ((x1 : Int) * 2 ^ s) ((x0 : Int) / 2 ^ (64 - s)) = (a1 : Int) := by
        have h := u64_or_nat (x1 * 2 ^ s) (x0 / 2 ^ (64 - s)) hx1s (Nat.lt_of_le_of_lt (Nat.div_le_self _ _) hx0)
        have e : x1 * 2 ^ s ||| x0 / 2 ^ (64 - s) = a1 := by rw [← ha1, Nat.mul_comm x1, Nat.two_pow_add_eq_or_of_lt hx0s]
        rw [e] at h
        rw [← h]
        simp
      have w1 : IntKind.u64.wrap ((x1 : Int) * 2 ^ s) = ((x1 * 2 ^ s : Nat) : Int) := by
        rw [show (x1 : Int) * 2 ^ s = ((x1 * 2 ^ s : Nat) : Int) from by simp]; exact wrapU hx1s
      have w2 : IntKind.u64.wrap ((x0 : Int) * 2 ^ s) = (a0 : Int) := by
        rw [show (x0 : Int) * 2 ^ s = ((x0 * 2 ^ s : Nat) : Int) from by simp, IntKind.wrap_u64, ← ha0]; simp [B]
      have w3 : IntKind.u64.wrap ((y : Int) * 2 ^ s) = (up y : Int) := by
        rw [show (y : Int) * 2 ^ s = ((y * 2 ^ s : Nat) : Int) from by simp, hu']; exact wrapU hu
      clear hu' ha0
      rw [show ((x1 * 2 ^ s : Nat) : Int) = (x1 : Int) * 2 ^ s from by simp] at w1
      go_wp2_with fail
      go_meet
      exact ⟨rfl, rfl, rfl, rfl⟩
  case rest =>
    obtain ⟨rfl, rfl, rfl, rfl⟩ := hcut
    obtain ⟨k1, k2, k3⟩ := q1st_ok hy h0 ha1l ha0l
    have k4 := q1st_words k1
    have hrl := recip_lt hy h0
    obtain ⟨q, hq⟩ : ∃ q, q1st a1 a0 (recip y) = q := ⟨_, rfl⟩
    rw [hq] at k1 k2 k3 k4
    clear hq
    obtain ⟨r, hr⟩ : ∃ r, a1 * B + a0 = q * up y + r := ⟨a1 * B + a0 - q * up y, by omega⟩
    have hrl2 : r < B + up y := by omega
    have hpl : prodLo (up y) q < B := Nat.mod_lt _ B_pos
    have hph : prodHi (up y) q < B := Nat.div_lt_of_lt_mul (Nat.mul_lt_mul'' hu k1)
    have hps : prodLo (up y) q + B * prodHi (up y) q = up y * q := Nat.mod_add_div _ _
    obtain ⟨g1, g2⟩ := gdif B a1 a0 (prodHi (up y) q) (prodLo (up y) q) r (by omega) ha0l hph hpl (by rw [hps, Nat.mul_comm]; omega) (by omega)
    have g1' : difLo a0 (prodLo (up y) q) 0 = r % B := g1
    have g2' : difLo a1 (prodHi (up y) q) (difHi a0 (prodLo (up y) q) 0) = r / B := g2
    obtain ⟨r0, hr0⟩ : ∃ v, r % B = v := ⟨_, rfl⟩
    obtain ⟨r1, hr1⟩ : ∃ v, r / B = v := ⟨_, rfl⟩
    have hsum : r0 + B * r1 = r := by rw [← hr0, ← hr1]; exact Nat.mod_add_div r B
    have hr0l : r0 < B := by rw [← hr0]; exact Nat.mod_lt _ B_pos
    rw [hr0] at g1'
    rw [hr1] at g2'
    clear hr0 hr1
    have HSUM := Lib.hid hsum
    have hrem : ∀ Q R, Q * up y + R = q * up y + r → R < up y → quo2 x1 x0 y = Q ∧ rem2 x1 x0 y = R / 2 ^ s := by
      intro Q R h1 h2
      apply fin_quo (by omega)
      · rw [← HV.out, hr, hu', h1]
      · rw [hu']; exact h2
    have HR := Lib.hid hrem
    have HA1 := Lib.hid (show a1 < B by omega)
    clear hsum
    have hsl1 : sumHi (prodLo (recip y) a1) a0 0 ≤ 1 := sumHi_le (Nat.mod_lt _ B_pos) ha0l (by omega)
    have hdh : difHi a0 (prodLo (up y) q) 0 ≤ 1 := by unfold difHi; split <;> omega
    clear hrem g1 g2 hr hBs ha1 ha0 hu' hps k2 k3
    go_wp2_with fail
    refine (bitsMul_any (recip y) a1 _ hrl HA1.out).mono ?_
    rintro e w' ⟨rfl, rfl⟩
    go_wp2_with fail
    refine (bitsAdd_any (prodLo (recip y) a1) a0 0 _ (by omega)).mono ?_
    rintro e w' ⟨rfl, rfl⟩
    go_wp2_with fail
    refine (bitsAdd_any (prodHi (recip y) a1) a1 (sumHi (prodLo (recip y) a1) a0 0) _ hsl1).mono ?_
    rw [k4]
    rintro e w' ⟨rfl, rfl⟩
    go_wp2_with fail
    refine (bitsMul_any (up y) q _ hu k1).mono ?_
    rintro e w' ⟨rfl, rfl⟩
    go_wp2_with fail
    refine (bitsSub_any a0 (prodLo (up y) q) 0 _ (by omega)).mono ?_
    rw [g1']
    rintro e w' ⟨rfl, rfl⟩
    go_wp2_with fail
    refine (bitsSub_any a1 (prodHi (up y) q) (difHi a0 (prodLo (up y) q) 0) _ hdh).mono ?_
    rw [g2']
    rintro e w' ⟨rfl, rfl⟩
    clear g1' g2' k4
    have hr1l : r1 ≤ 1 := by
      have h := HSUM.out
      have h2 : B * r1 < B * 2 := by omega
      have := Nat.lt_of_mul_lt_mul_left h2
      omega
    have hql : quo2 x1 x0 y < B := by
      unfold quo2
      apply Nat.div_lt_of_lt_mul
      have := Nat.mul_le_mul_right B (show x1 + 1 ≤ y from hx1)
      rw [Nat.succ_mul] at this
      omega
    have hd0 : 0 < up y := by omega
    have BI : (B : Int) = 18446744073709551616 := rfl
    have hdI : (up y : Int) ≤ 18446744073709551615 := by omega
    have hr0I : (r0 : Int) ≤ 18446744073709551615 := by omega
    have hqI : (q : Int) ≤ 18446744073709551615 := by omega
    have hQL := Lib.hid hql
    have HBI := Lib.hid BI
    clear BI hql
    by_cases h1 : r1 = 0
    · subst h1
      have hs0 : r0 = r := by have := HSUM.out; omega
      by_cases h2 : up y ≤ r0
      · obtain ⟨f1, f2⟩ := HR.out (q + 1) (r0 - up y) (by rw [Nat.succ_mul]; omega) (by omega)
        have hq2 : (q : Int) + 1 ≤ 18446744073709551615 := by have := hQL.out; rw [f1] at this; have := HBI.out; omega
        have h2' : (up y : Int) ≤ r0 := by omega
        have hsb : (r0 : Int) - (up y : Int) = ((r0 - up y : Nat) : Int) := by omega
        obtain ⟨rr, hrr⟩ : ∃ v, r0 - up y = v := ⟨_, rfl⟩
        rw [hrr] at hsb f2
        have F1 := Lib.hid f1
        have F2 := Lib.hid f2
        clear f1 f2 hrr hs0 h2
        go_wp2_with fail
        go_ret2
        exact ⟨by rw [F1.out, F2.out, divcast]; rfl, rfl⟩
      · obtain ⟨f1, f2⟩ := HR.out q r0 (by rw [hs0]) (by omega)
        have h2' : decide (up y ≤ r0) = false := by simp; omega
        have F1 := Lib.hid f1
        have F2 := Lib.hid f2
        clear f1 f2 hs0 h2
        go_wp2_with fail
        go_ret2
        exact ⟨by rw [F1.out, F2.out, divcast]; rfl, rfl⟩
    · have h1' : r1 = 1 := by omega
      subst h1'
      have hs0 : r0 + B = r := by have := HSUM.out; omega
      have hwr : IntKind.u64.wrap ((r0 : Int) - (up y : Int)) = ((r - up y : Nat) : Int) := by
        rw [IntKind.wrap_u64]
        have := HBI.out
        omega
      obtain ⟨rr, hrr⟩ : ∃ v, r - up y = v := ⟨_, rfl⟩
      rw [hrr] at hwr
      by_cases h2 : up y ≤ rr
      · obtain ⟨f1, f2⟩ := HR.out (q + 2) (rr - up y) (by rw [Nat.add_mul]; omega) (by omega)
        have hq2 : (q : Int) + 1 + 1 ≤ 18446744073709551615 := by have := hQL.out; rw [f1] at this; have := HBI.out; omega
        have h2' : (up y : Int) ≤ rr := by omega
        have hsb : (rr : Int) - (up y : Int) = ((rr - up y : Nat) : Int) := by omega
        have hrrI : (rr : Int) ≤ 18446744073709551615 := by have := HBI.out; omega
        obtain ⟨r3, hr3⟩ : ∃ v, rr - up y = v := ⟨_, rfl⟩
        rw [hr3] at hsb f2
        have F1 := Lib.hid f1
        have F2 := Lib.hid f2
        clear f1 f2 hr3 hrr hs0 h2
        go_wp2_with fail
        go_ret2
        exact ⟨by rw [F1.out, F2.out, divcast]; rfl, rfl⟩
      · obtain ⟨f1, f2⟩ := HR.out (q + 1) rr (by rw [Nat.succ_mul]; omega) (by omega)
        have hq2 : (q : Int) + 1 ≤ 18446744073709551615 := by have := hQL.out; rw [f1] at this; have := HBI.out; omega
        have h2' : decide (up y ≤ rr) = false := by simp; omega
        have F1 := Lib.hid f1
        have F2 := Lib.hid f2
        clear f1 f2 hrr hs0 h2
        go_wp2_with fail
        go_ret2
        exact ⟨by rw [F1.out, F2.out, divcast]; rfl, rfl⟩
end Go.Proofs.YtgilnnipephfjaaGreatDoor
