/- expNN where the exponent is 0 or 1; any power of a word above 1. Contracts of zz_div.go: bitsDiv64, bitsDiv: a quotient of two words by one. -/
import Derived.Test.YtgilnnipephfjaaGreatDoorM06Exp2
import Derived.Test.YtgilnnipephfjaaGreatDoorM03Mul
import Derived.Deep.DeepCutAuto
import Derived.Deep.CutBlock
set_option linter.unusedSimpArgs false
set_option linter.unusedVariables false
namespace Go.Proofs.YtgilnnipephfjaaGreatDoor
open Go.RowKit

set_option maxRecDepth 1000000 in
theorem expNN_zero {a xa ya : Option Addr} {zl zc xc yc X : Nat} {w : World} (hG : NG ≤ w.heap.size) (hz : Reg w a zc) (hzl : zl ≤ zc) (hX : Nt w xa xc X) (hY : Nt w ya yc 0) (slow : Bool)
    (hnx : aliasB a zc xa xc = false) (hny : aliasB a zc ya yc = false) :
    Calls Tryz.prog 268 #[.slice a zl zc, .pointer none, .slice xa (nlen X) xc, .slice ya 0 yc, .slice none 0 0, .bool slow] w fun e w' => ∃ a' c', e = .returned (.slice a' (nlen 1) c') ∧ Nt w' a' c' 1 ∧
      Fr (foot a zc) w w' ∧ Out w a zc a' c' := by
  have hxl := hX.len
  have hyl := hY.len
  rw [nlen_zero] at hyl
  have hS := Lib.hid (fun d => setWord_any a zl zc 1 (w.drewN d) hG (hz.drewN d) (by decide))
  have HX := Aside.mk hX
  have HY := Aside.mk hY
  have HZ := Aside.mk hz
  clear hX hY hz
  go_enter_defers Tryz.func268, Tryz.ntmps268
  go_wp2_with fail
  refine (alias_any hzl hxl HZ.out HX.out.reg).mono ?_
  rw [hnx]
  rintro e w' ⟨rfl, d, rfl⟩
  go_wp2_with fail
  refine (alias_any hzl hyl (HZ.out.drewN d) (HY.out.reg.drewN d)).mono ?_
  rw [hny]
  rintro e w' ⟨rfl, d2, rfl⟩
  rw [World.drewN_drewN]
  go_wp2_with fail
  refine (hS.out (d + d2)).mono ?_
  rintro e w1 ⟨a', c', rfl, s1, s2, s3⟩
  have M1 := Aside.mk s1
  have M2 := Aside.mk s2
  have M3 := Aside.mk s3
  clear s1 s2 s3
  go_wp2_with fail
  exact ⟨_, results_tmp rfl _ _ _, a', c', rfl, M1.out, ((Fr.refl _ w).drewN _).trans M2.out, M3.out⟩
set_option maxRecDepth 1000000 in
theorem expNN_one {a xa ya : Option Addr} {zl zc xc yc X : Nat} {w : World} (hG : NG ≤ w.heap.size) (hz : Reg w a zc) (hzl : zl ≤ zc) (hX : Nt w xa xc X) (hY : Nt w ya yc 1) (slow : Bool) (hX1 : 1 < X) (hXB : X < B)
    (hnx : aliasB a zc xa xc = false) (hny : aliasB a zc ya yc = false) :
    Calls Tryz.prog 268 #[.slice a zl zc, .pointer none, .slice xa (nlen X) xc, .slice ya (nlen 1) yc, .slice none 0 0, .bool slow] w fun e w' => ∃ a' c', e = .returned (.slice a' (nlen X) c') ∧ Nt w' a' c' X ∧
      Fr (foot a zc) w w' ∧ Out w a zc a' c' := by
  obtain ⟨xb, xo, rfl, hxo, hWX⟩ := hX.pos (by omega)
  obtain ⟨yb, yo, rfl, hyo, hWY⟩ := hY.pos (by omega)
  have hy1 : nlen 1 = 1 := nlen_word (by omega) (by decide)
  have hx1 : nlen X = 1 := nlen_word (by omega) hXB
  have hxl := hX.len
  have hyl := hY.len
  have hcy := hWY.cell 0 (by omega)
  rw [wd_word (by decide), Nat.add_zero] at hcy
  have hcx := hWX.cell 0 (by omega)
  rw [wd_word hXB, Nat.add_zero] at hcx
  rw [hx1] at hxl ⊢
  rw [hy1] at hyl ⊢
  have q1 : ((X : Int) == 1) = false := by simp; omega
  have hS := Lib.hid (fun d => set_any (a := a) (zl := zl) (xc := xc) (w := w.drewN d) hG (hz.drewN d) (hX.drewN d).words (by omega))
  have HX := Aside.mk hX
  have HY := Aside.mk hY
  have HZ := Aside.mk hz
  have HX1 := Aside.mk hx1
  clear hX hY hz hx1 hy1 hWX hWY
  go_enter_defers Tryz.func268, Tryz.ntmps268
  go_wp2_with fail
  refine (alias_any hzl hxl HZ.out HX.out.reg).mono ?_
  rw [hnx]
  rintro e w' ⟨rfl, d, rfl⟩
  go_wp2_with fail
  refine (alias_any hzl hyl (HZ.out.drewN d) (HY.out.reg.drewN d)).mono ?_
  rw [hny]
  rintro e w' ⟨rfl, d2, rfl⟩
  rw [World.drewN_drewN]
  have hcy' : (w.drewN (d + d2)).cell? ⟨yb, yo, none⟩ = some (.int .u64 1) := hcy
  go_wp2_with fail
  have K := Lib.hid (hS.out (d + d2))
  rw [HX1.out] at K
  refine K.out.mono ?_
  clear K hS
  rintro e w1 ⟨a', c', rfl, s1, s2, s3, s4, s5⟩
  have M1 : Aside (Nt w1 a' c' X) := ⟨⟨s2, by rw [HX1.out]; exact s1, by rw [HX1.out]; exact s3⟩⟩
  have M2 := Aside.mk s4
  have M3 := Aside.mk s5
  clear s1 s2 s3 s4 s5
  go_wp2_with fail
  exact ⟨_, results_tmp rfl _ _ _, a', c', rfl, M1.out, ((Fr.refl _ w).drewN _).trans M2.out, M3.out⟩

/-- A power of a word above 1. -/
theorem expNN_word {a xa ya : Option Addr} {zl zc xc yc X Y : Nat} {w : World} (g : Gl w) (hz : Reg w a zc) (hzl : zl ≤ zc) (hX : Nt w xa xc X) (hY : Nt w ya yc Y) (slow : Bool)
    (hX1 : 1 < X) (hXB : X < B) (hYB : Y < B) (h12 : nlen (X ^ (Y / 2)) < 12) (hax : ∀ b o, foot a zc b o → ¬ foot xa xc b o) (hay : ∀ b o, foot a zc b o → ¬ foot ya yc b o)
    (hnx : aliasB a zc xa xc = false) (hny : aliasB a zc ya yc = false) :
    Calls Tryz.prog 268 #[.slice a zl zc, .pointer none, .slice xa (nlen X) xc, .slice ya (nlen Y) yc, .slice none 0 0, .bool slow] w fun e w' => ∃ a' c', e = .returned (.slice a' (nlen (X ^ Y)) c') ∧ Nt w' a' c' (X ^ Y) ∧
      Fr (foot a zc) w w' ∧ Out w a zc a' c' := by
  by_cases h0 : Y = 0
  · subst h0
    rw [Nat.pow_zero, nlen_zero]
    exact expNN_zero g.size hz hzl hX hY slow hnx hny
  · by_cases h1 : Y = 1
    · subst h1
      rw [Nat.pow_one]
      exact expNN_one g.size hz hzl hX hY slow hX1 hXB hnx hny
    · exact expNN_nil g hz hzl hX hY slow hX1 hXB (by omega) hYB h12 hax hay hnx hny
end Go.Proofs.YtgilnnipephfjaaGreatDoor
namespace Go.Proofs.YtgilnnipephfjaaGreatDoor
open Go.RowKit

/-- Quotient and remainder of two words by one. -/
def quo2 (x1 x0 y : Nat) : Nat := (x1 * B + x0) / y
def rem2 (x1 x0 y : Nat) : Nat := (x1 * B + x0) % y

theorem bitsDiv64_lo (lo y : Nat) (w : World) (hlo : lo < B) (hy : y < B) (h0 : y ≠ 0) :
    Calls Tryz.prog 315 #[.int .u64 0, .int .u64 lo, .int .u64 y] w fun e w' => e = .returned (.tuple #[.int .u64 (lo / y : Nat), .int .u64 (lo % y : Nat)]) ∧ ∃ d, w' = w.drewN d := by
  have q0 : ((y : Int) == 0) = false := by simp; omega
  have q1 : 1 ≤ (y : Int) := by omega
  have q2 : 0 < (y : Int) := by omega
  have l1 : (lo : Int) < 18446744073709551616 := by unfold B at hlo; omega
  have l2 : (y : Int) < 18446744073709551616 := by unfold B at hy; omega
  have hwq : IntKind.u64.wrap ((lo : Int) / (y : Int)) = (lo : Int) / (y : Int) := by
    have h1 : ((lo / y : Nat) : Int) = (lo : Int) / (y : Int) := rfl
    rw [← h1]
    exact wrapU (Nat.lt_of_le_of_lt (Nat.div_le_self _ _) hlo)
  go_enter Tryz.func315, Tryz.ntmps315
  go_wp2_with fail
  go_quiet (fail)
  go_wp2_with fail
  go_ret2
  exact ⟨rfl, nq, rfl⟩

/-- The trial quotient of a digit. -/
structure Trial (b v1 v0 U u0 q r : Nat) : Prop where
  inv : q * v1 + r = U
  ge : (U * b + u0) / (v1 * b + v0) ≤ q
  le : q ≤ b + 1
theorem Trial.start {b v1 v0 U u0 : Nat} (hv : b ≤ 2 * v1) (h1 : v1 < b) (h0 : v0 < b) (hU : U < v1 * b + v0) (hu : u0 < b) : Trial b v1 v0 U u0 (U / v1) (U % v1) := by
  have hv1 : 0 < v1 := by omega
  refine ⟨by rw [Nat.mul_comm]; exact Nat.div_add_mod U v1, ?_, ?_⟩
  · rw [Nat.le_div_iff_mul_le hv1]
    have hm := Nat.div_mul_le_self (U * b + u0) (v1 * b + v0)
    generalize (U * b + u0) / (v1 * b + v0) = Q at *
    have h2 : (Q * v1) * b < (U + 1) * b := by grind
    have := Nat.lt_of_mul_lt_mul_right h2
    omega
  · have : U / v1 < b + 2 := by
      apply Nat.div_lt_of_lt_mul
      have : v1 * (b + 2) = v1 * b + 2 * v1 := by grind
      omega
    omega
theorem quo_lt {b V U u0 : Nat} (hU : U < V) (hu : u0 < b) : (U * b + u0) / V < b := by
  apply Nat.div_lt_of_lt_mul
  have : (U + 1) * b ≤ V * b := Nat.mul_le_mul_right _ hU
  grind
theorem Trial.down {b v1 v0 U u0 q r : Nat} (h : Trial b v1 v0 U u0 q r) (hU : U < v1 * b + v0) (hu : u0 < b) (ht : b ≤ q ∨ b * r + u0 < q * v0) : 0 < q ∧ Trial b v1 v0 U u0 (q - 1) (r + v1) := by
  have hlt : (U * b + u0) / (v1 * b + v0) < q := by
    rcases ht with k | k
    · have := quo_lt hU hu; omega
    · apply Nat.div_lt_of_lt_mul
      have := h.inv
      subst this
      grind
  have hle := h.le
  have hinv := h.inv
  refine ⟨Nat.lt_of_le_of_lt (Nat.zero_le _) hlt, ?_, Nat.le_sub_one_of_lt hlt, by omega⟩
  have hq : 0 < q := Nat.lt_of_le_of_lt (Nat.zero_le _) hlt
  clear hlt
  obtain ⟨p, rfl⟩ : ∃ p, q = p + 1 := ⟨q - 1, by omega⟩
  rw [Nat.add_sub_cancel]
  grind
theorem Trial.exit {b v1 v0 U u0 q r : Nat} (h : Trial b v1 v0 U u0 q r) (hV : 0 < v1 * b + v0) (ht : q * v0 ≤ b * r + u0) : q = (U * b + u0) / (v1 * b + v0) := by
  apply Nat.le_antisymm _ h.ge
  rw [Nat.le_div_iff_mul_le hV]
  have := h.inv
  subst this
  grind
theorem Trial.leave {b v1 v0 U u0 q r : Nat} (h : Trial b v1 v0 U u0 q r) (hV : 0 < v1 * b + v0) (h0 : v0 < b) (hq : q ≤ b) (hr : b ≤ r) : q = (U * b + u0) / (v1 * b + v0) := by
  apply h.exit hV
  have h1 : q * v0 ≤ b * b := Nat.mul_le_mul hq (by omega)
  have h2 : b * b ≤ b * r := Nat.mul_le_mul_left _ hr
  omega

theorem wsub (x y z : Nat) (h : (x : Int) - y = z) (hz : z < B) : IntKind.u64.wrap ((x : Int) - y) = z := by rw [h]; exact wrapU hz
theorem wrap_rem (U u y Q R : Nat) (hQ : (U * 4294967296 + u) / y = Q) (hR : (U * 4294967296 + u) % y = R) (hl : R < B) :
    IntKind.u64.wrap (IntKind.u64.wrap (IntKind.u64.wrap ((U : Int) * 4294967296) + (u : Int)) - IntKind.u64.wrap ((Q : Int) * (y : Int))) = R := by
  have h := Nat.div_add_mod (U * 4294967296 + u) y
  rw [hQ, hR, Nat.mul_comm] at h
  simp only [IntKind.wrap_u64]
  have h2 : (Q : Int) * (y : Int) = ((Q * y : Nat) : Int) := rfl
  rw [h2]
  generalize Q * y = p at *
  unfold B at hl
  omega
theorem gquo (b hi u1 u0 y Q1 R1 Q2 R2 : Nat) (h1 : hi * b + u1 = y * Q1 + R1) (h2 : R1 * b + u0 = y * Q2 + R2) : (hi * b + u1) * b + u0 = (Q1 * b + Q2) * y + R2 := by
  rw [h1]; grind
theorem quo_parts (hi lo y Q1 R1 Q2 R2 : Nat) {u1 u0 : Nat} (h1 : (hi * 4294967296 + u1) / y = Q1) (h2 : (hi * 4294967296 + u1) % y = R1) (h3 : (R1 * 4294967296 + u0) / y = Q2) (h4 : (R1 * 4294967296 + u0) % y = R2)
    (hl : R2 < y) (hu1 : lo / 4294967296 = u1) (hu0 : lo % 4294967296 = u0) : quo2 hi lo y = Q1 * 4294967296 + Q2 ∧ rem2 hi lo y = R2 := by
  have e1 := Nat.div_add_mod (hi * 4294967296 + u1) y
  have e2 := Nat.div_add_mod (R1 * 4294967296 + u0) y
  rw [h1, h2] at e1
  rw [h3, h4] at e2
  have e3 : hi * B + lo = (Q1 * 4294967296 + Q2) * y + R2 := by
    have : hi * B + lo = (hi * 4294967296 + u1) * 4294967296 + u0 := by unfold B; omega
    rw [this]
    exact gquo _ _ _ _ _ _ _ _ _ e1.symm e2.symm
  unfold quo2 rem2
  rw [e3]
  constructor
  · rw [Nat.add_comm, Nat.add_mul_div_right _ _ (by omega), Nat.div_eq_of_lt hl, Nat.zero_add]
  · rw [Nat.add_comm, Nat.add_mul_mod_self_right, Nat.mod_eq_of_lt hl]
set_option maxRecDepth 100000 in
set_option maxHeartbeats 4000000 in
/-- A divisor whose highest bit is set. -/
theorem bitsDiv64_hi (hi lo y : Nat) (w : World) (hlo : lo < B) (hy : y < B) (h63 : B ≤ 2 * y) (hhi : hi < y) (h0 : hi ≠ 0) :
    Calls Tryz.prog 315 #[.int .u64 hi, .int .u64 lo, .int .u64 y] w fun e w' => e = .returned (.tuple #[.int .u64 (quo2 hi lo y : Nat), .int .u64 (rem2 hi lo y : Nat)]) ∧ ∃ d, w' = w.drewN d := by
  obtain ⟨v1, hv1⟩ : ∃ v, y / 4294967296 = v := ⟨_, rfl⟩
  obtain ⟨v0, hv0⟩ : ∃ v, y % 4294967296 = v := ⟨_, rfl⟩
  obtain ⟨u1, hu1⟩ : ∃ v, lo / 4294967296 = v := ⟨_, rfl⟩
  obtain ⟨u0, hu0⟩ : ∃ v, lo % 4294967296 = v := ⟨_, rfl⟩
  have hB : B = 18446744073709551616 := rfl
  have e1 : (y : Int) / 4294967296 = v1 := by omega
  have e2 : bits .and .u64 (y : Int) 4294967295 = v0 := by rw [and_low32 _ (by omega) (by omega)]; omega
  have e3 : (lo : Int) / 4294967296 = u1 := by omega
  have e4 : bits .and .u64 (lo : Int) 4294967295 = u0 := by rw [and_low32 _ (by omega) (by omega)]; omega
  have q0 : ((y : Int) == 0) = false := by simp; omega
  have q1 : ((hi : Int) == 0) = false := by simp; omega
  have q2 : (hi : Int) < y := by omega
  have e5 : bits .or .u64 (hi : Int) ((lo : Int) / 18446744073709551616) = hi := by
    have h := u64_or_nat hi 0 (by omega) (by omega)
    rw [show (lo : Int) / 18446744073709551616 = ((0 : Nat) : Int) from by omega, h]
    simp
  have hbl : bl y = 64 := by
    have := bl_le hy
    have : ¬ bl y ≤ 63 := fun k => by have := (lt_two_iff y 63).2 k; omega
    omega
  have HL := Lib.hid (bitLen_bl hy)
  have HBL := Lib.hid hbl
  clear hbl
  go_enter Tryz.func315, Tryz.ntmps315
  go_wp2_with fail
  refine (Tryz.bits_LeadingZeros64 (y : Int) _ (by omega) (by omega)).mono ?_
  rintro e w' ⟨rfl, rfl⟩
  rw [Int.toNat_natCast, HL.out, HBL.out]
  have hV : v1 * 4294967296 + v0 = y := by omega
  have hv1b : 4294967296 ≤ 2 * v1 := by omega
  have hv1l : v1 < 4294967296 := by omega
  have hv0l : v0 < 4294967296 := by omega
  have hu1l : u1 < 4294967296 := by omega
  have hu0l : u0 < 4294967296 := by omega
  have T1 := Trial.start hv1b hv1l hv0l (show hi < v1 * 4294967296 + v0 by omega) hu1l
  obtain ⟨q0', hq0⟩ : ∃ q, hi / v1 = q := ⟨_, rfl⟩
  obtain ⟨r0', hr0⟩ : ∃ q, hi % v1 = q := ⟨_, rfl⟩
  rw [hq0, hr0] at T1
  have hr0l : r0' < 4294967296 := by rw [← hr0]; exact Nat.lt_trans (Nat.mod_lt _ (by omega)) hv1l
  have w1 : IntKind.u64.wrap ((hi : Int) / (v1 : Int)) = q0' := by
    rw [show (hi : Int) / (v1 : Int) = ((hi / v1 : Nat) : Int) from rfl, hq0]; exact wrapU (by have := T1.le; omega)
  have w2 : IntKind.u64.wrap ((hi : Int) - IntKind.u64.wrap ((q0' : Int) * (v1 : Int))) = r0' := by
    have hinv := T1.inv
    have hle : q0' * v1 ≤ hi := by omega
    rw [show (q0' : Int) * (v1 : Int) = ((q0' * v1 : Nat) : Int) from rfl, wrapU (by omega)]
    exact wsub _ _ _ (by omega) (by omega)
  clear hq0 hr0
  obtain ⟨Q1, hQ1⟩ : ∃ q, (hi * 4294967296 + u1) / y = q := ⟨_, rfl⟩
  have HQ1 := Lib.hid hQ1
  have HV := Lib.hid hV
  clear hQ1 hV
  go_upto_block 0 with (fail)
  go_cut [15] (fun q wx => q = .int .u64 (Q1 : Nat) ∧ wx = w')
  case first =>
    go_wp2_with fail
    go_loop [15, 16] (fun q r => ∃ a c : Nat, q = .int .u64 a ∧ r = .int .u64 c ∧ c < 4294967296 ∧ Aside (Trial 4294967296 v1 v0 hi u1 a c)) (fun q _ => (intOf q).toNat)
    case atStart => exact ⟨q0', r0', rfl, rfl, hr0l, ⟨T1⟩⟩
    case round =>
      obtain ⟨a, c, rfl, rfl, hc, hT⟩ := hrel
      have hale := hT.out.le
      have hpB : a * v0 < 18446744073709551616 := by
        have := Nat.mul_le_mul hale (show v0 ≤ 4294967295 by omega)
        omega
      have hp : IntKind.u64.wrap ((a : Int) * (v0 : Int)) = (a : Int) * (v0 : Int) := by
        rw [show (a : Int) * (v0 : Int) = ((a * v0 : Nat) : Int) from rfl]; exact wrapU (by unfold B; omega)
      have hUV : hi < v1 * 4294967296 + v0 := by rw [HV.out]; omega
      have hVpos : 0 < v1 * 4294967296 + v0 := by omega
      by_cases ht : 4294967296 ≤ a ∨ 4294967296 * c + u1 < a * v0
      · obtain ⟨ha0, hD⟩ := hT.out.down hUV (by omega) ht
        have hD' := Aside.mk hD
        clear hD
        obtain ⟨a, rfl⟩ : ∃ m, a = m + 1 := ⟨a - 1, by omega⟩
        rw [Nat.add_sub_cancel] at hD'
        have hp1 : IntKind.u64.wrap (((a : Int) + 1) * (v0 : Int)) = ((a : Int) + 1) * (v0 : Int) := hp
        clear hp
        by_cases hbr : 4294967296 ≤ c + v1
        · have hbr' : (4294967296 : Int) ≤ (c : Int) + v1 := by omega
          have hfin : a = Q1 := by rw [← HQ1.out, ← HV.out]; exact hD'.out.leave hVpos hv0l (by omega) hbr
          have HF := Aside.mk hfin
          clear hfin hUV hVpos
          by_cases ht1 : 4294967296 ≤ a + 1
          · have ht1' : (4294967296 : Int) ≤ (a : Int) + 1 := by omega
            go_wp2_with fail
            go_meet
            exact ⟨by rw [HF.out], rfl⟩
          · have ht1' : ¬ (4294967296 : Int) ≤ (a : Int) + 1 := by omega
            have ht2 : 4294967296 * (c : Int) + (u1 : Int) < ((a : Int) + 1) * (v0 : Int) := by
              have : 4294967296 * c + u1 < (a + 1) * v0 := by omega
              have h2 : ((a : Int) + 1) * (v0 : Int) = (((a + 1) * v0 : Nat) : Int) := rfl
              omega
            go_wp2_with fail
            go_meet
            exact ⟨by rw [HF.out], rfl⟩
        · have hbr' : ¬ (4294967296 : Int) ≤ (c : Int) + v1 := by omega
          clear hUV hVpos
          by_cases ht1 : 4294967296 ≤ a + 1
          · have ht1' : (4294967296 : Int) ≤ (a : Int) + 1 := by omega
            go_wp2_with fail
            go_round
            case rel => exact ⟨a, c + v1, rfl, rfl, by omega, hD'⟩
            case measure => simp [intOf]
          · have ht1' : ¬ (4294967296 : Int) ≤ (a : Int) + 1 := by omega
            have ht2 : 4294967296 * (c : Int) + (u1 : Int) < ((a : Int) + 1) * (v0 : Int) := by
              have : 4294967296 * c + u1 < (a + 1) * v0 := by omega
              have h2 : ((a : Int) + 1) * (v0 : Int) = (((a + 1) * v0 : Nat) : Int) := rfl
              omega
            go_wp2_with fail
            go_round
            case rel => exact ⟨a, c + v1, rfl, rfl, by omega, hD'⟩
            case measure => simp [intOf]
      · have hfin : a = Q1 := by rw [← HQ1.out, ← HV.out]; exact hT.out.exit hVpos (by omega)
        have HF := Aside.mk hfin
        have ht1' : ¬ (4294967296 : Int) ≤ (a : Int) := by omega
        have ht2 : ¬ 4294967296 * (c : Int) + (u1 : Int) < (a : Int) * (v0 : Int) := by
          have : ¬ 4294967296 * c + u1 < a * v0 := by omega
          have h2 : (a : Int) * (v0 : Int) = ((a * v0 : Nat) : Int) := rfl
          omega
        clear hfin hUV hVpos ht
        go_wp2_with fail
        go_meet
        exact ⟨by rw [HF.out], rfl⟩
  case rest =>
    obtain ⟨rfl, rfl⟩ := hcut
    obtain ⟨R1, hR1⟩ : ∃ q, (hi * 4294967296 + u1) % y = q := ⟨_, rfl⟩
    have hR1l : R1 < y := by rw [← hR1]; exact Nat.mod_lt _ (by omega)
    have w3 : IntKind.u64.wrap (IntKind.u64.wrap (IntKind.u64.wrap ((hi : Int) * 4294967296) + (u1 : Int)) - IntKind.u64.wrap ((Q1 : Int) * (y : Int))) = R1 := wrap_rem hi u1 y Q1 R1 HQ1.out hR1 (by omega)
    have T2 := Trial.start hv1b hv1l hv0l (show R1 < v1 * 4294967296 + v0 by have := HV.out; omega) hu0l
    obtain ⟨q1', hq1⟩ : ∃ q, R1 / v1 = q := ⟨_, rfl⟩
    obtain ⟨r1', hr1⟩ : ∃ q, R1 % v1 = q := ⟨_, rfl⟩
    rw [hq1, hr1] at T2
    have hr1l : r1' < 4294967296 := by rw [← hr1]; exact Nat.lt_trans (Nat.mod_lt _ (by omega)) hv1l
    have w4 : IntKind.u64.wrap ((R1 : Int) / (v1 : Int)) = q1' := by
      rw [show (R1 : Int) / (v1 : Int) = ((R1 / v1 : Nat) : Int) from rfl, hq1]; exact wrapU (by have := T2.le; omega)
    have w5 : IntKind.u64.wrap ((R1 : Int) - IntKind.u64.wrap ((q1' : Int) * (v1 : Int))) = r1' := by
      have hinv := T2.inv
      have hle : q1' * v1 ≤ R1 := by omega
      rw [show (q1' : Int) * (v1 : Int) = ((q1' * v1 : Nat) : Int) from rfl, wrapU (by omega)]
      exact wsub _ _ _ (by omega) (by omega)
    clear hq1 hr1 T1 w1 w2 hr0l
    obtain ⟨Q2, hQ2⟩ : ∃ q, (R1 * 4294967296 + u0) / y = q := ⟨_, rfl⟩
    obtain ⟨R2, hR2⟩ : ∃ q, (R1 * 4294967296 + u0) % y = q := ⟨_, rfl⟩
    have hR2l : R2 < y := by rw [← hR2]; exact Nat.mod_lt _ (by omega)
    have w6 : IntKind.u64.wrap (IntKind.u64.wrap (IntKind.u64.wrap ((R1 : Int) * 4294967296) + (u0 : Int)) - IntKind.u64.wrap ((Q2 : Int) * (y : Int))) = R2 := wrap_rem R1 u0 y Q2 R2 hQ2 hR2 (by omega)
    have hQ1l : Q1 < 4294967296 := by rw [← HQ1.out]; exact quo_lt hhi hu1l
    have hQ2l : Q2 < 4294967296 := by rw [← hQ2]; exact quo_lt hR1l hu0l
    have HQ2 := Lib.hid hQ2
    have HR2 := Lib.hid hR2
    have HR1 := Lib.hid hR1
    clear hQ2 hR1 hR2
    go_upto_block 2 with (fail)
    go_cut [18] (fun q wx => q = .int .u64 (Q2 : Nat) ∧ wx = wc)
    case first =>
      go_wp2_with fail
      go_loop [18, 16] (fun q r => ∃ a c : Nat, q = .int .u64 a ∧ r = .int .u64 c ∧ c < 4294967296 ∧ Aside (Trial 4294967296 v1 v0 R1 u0 a c)) (fun q _ => (intOf q).toNat)
      case atStart => exact ⟨q1', r1', rfl, rfl, hr1l, ⟨T2⟩⟩
      case round =>
        obtain ⟨a, c, rfl, rfl, hc, hT⟩ := hrel
        have hale := hT.out.le
        have hpB : a * v0 < 18446744073709551616 := by
          have := Nat.mul_le_mul hale (show v0 ≤ 4294967295 by omega)
          omega
        have hp : IntKind.u64.wrap ((a : Int) * (v0 : Int)) = (a : Int) * (v0 : Int) := by
          rw [show (a : Int) * (v0 : Int) = ((a * v0 : Nat) : Int) from rfl]; exact wrapU (by unfold B; omega)
        have hUV : R1 < v1 * 4294967296 + v0 := by rw [HV.out]; omega
        have hVpos : 0 < v1 * 4294967296 + v0 := by omega
        by_cases ht : 4294967296 ≤ a ∨ 4294967296 * c + u0 < a * v0
        · obtain ⟨ha0, hD⟩ := hT.out.down hUV (by omega) ht
          have hD' := Aside.mk hD
          clear hD
          obtain ⟨a, rfl⟩ : ∃ m, a = m + 1 := ⟨a - 1, by omega⟩
          rw [Nat.add_sub_cancel] at hD'
          have hp1 : IntKind.u64.wrap (((a : Int) + 1) * (v0 : Int)) = ((a : Int) + 1) * (v0 : Int) := hp
          clear hp
          by_cases hbr : 4294967296 ≤ c + v1
          · have hbr' : (4294967296 : Int) ≤ (c : Int) + v1 := by omega
            have hfin : a = Q2 := by rw [← HQ2.out, ← HV.out]; exact hD'.out.leave hVpos hv0l (by omega) hbr
            have HF := Aside.mk hfin
            clear hfin hUV hVpos
            by_cases ht1 : 4294967296 ≤ a + 1
            · have ht1' : (4294967296 : Int) ≤ (a : Int) + 1 := by omega
              go_wp2_with fail
              go_meet
              exact ⟨by rw [HF.out], rfl⟩
            · have ht1' : ¬ (4294967296 : Int) ≤ (a : Int) + 1 := by omega
              have ht2 : 4294967296 * (c : Int) + (u0 : Int) < ((a : Int) + 1) * (v0 : Int) := by
                have : 4294967296 * c + u0 < (a + 1) * v0 := by omega
                have h2 : ((a : Int) + 1) * (v0 : Int) = (((a + 1) * v0 : Nat) : Int) := rfl
                omega
              go_wp2_with fail
              go_meet
              exact ⟨by rw [HF.out], rfl⟩
          · have hbr' : ¬ (4294967296 : Int) ≤ (c : Int) + v1 := by omega
            clear hUV hVpos
            by_cases ht1 : 4294967296 ≤ a + 1
            · have ht1' : (4294967296 : Int) ≤ (a : Int) + 1 := by omega
              go_wp2_with fail
              go_round
              case rel => exact ⟨a, c + v1, rfl, rfl, by omega, hD'⟩
              case measure => simp [intOf]
            · have ht1' : ¬ (4294967296 : Int) ≤ (a : Int) + 1 := by omega
              have ht2 : 4294967296 * (c : Int) + (u0 : Int) < ((a : Int) + 1) * (v0 : Int) := by
                have : 4294967296 * c + u0 < (a + 1) * v0 := by omega
                have h2 : ((a : Int) + 1) * (v0 : Int) = (((a + 1) * v0 : Nat) : Int) := rfl
                omega
              go_wp2_with fail
              go_round
              case rel => exact ⟨a, c + v1, rfl, rfl, by omega, hD'⟩
              case measure => simp [intOf]
        · have hfin : a = Q2 := by rw [← HQ2.out, ← HV.out]; exact hT.out.exit hVpos (by omega)
          have HF := Aside.mk hfin
          have ht1' : ¬ (4294967296 : Int) ≤ (a : Int) := by omega
          have ht2 : ¬ 4294967296 * (c : Int) + (u0 : Int) < (a : Int) * (v0 : Int) := by
            have : ¬ 4294967296 * c + u0 < a * v0 := by omega
            have h2 : (a : Int) * (v0 : Int) = ((a * v0 : Nat) : Int) := rfl
            omega
          clear hfin hUV hVpos ht
          go_wp2_with fail
          go_meet
          exact ⟨by rw [HF.out], rfl⟩
    case rest =>
      obtain ⟨rfl, rfl⟩ := hcut
      go_wp2_with fail
      have hfin := quo_parts hi lo y Q1 R1 Q2 R2 HQ1.out HR1.out HQ2.out HR2.out hR2l (by omega) (by omega)
      go_ret2
      rw [hfin.1, hfin.2]
      exact ⟨rfl, 0, rfl⟩
end Go.Proofs.YtgilnnipephfjaaGreatDoor
