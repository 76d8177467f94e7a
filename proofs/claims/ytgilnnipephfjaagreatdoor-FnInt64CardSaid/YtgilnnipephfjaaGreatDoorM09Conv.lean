/- Contracts of natdiv.go: divWVW, divW: a number divided by a word. Contracts of natconv.go: maxPow at 10, pow. Contract of natconv.go: convertWords without a table: a number's digits, written from the end on. -/
import Derived.Test.YtgilnnipephfjaaGreatDoorM08DivW2
import Derived.Test.YtgilnnipephfjaaGreatDoorM03Mul
import Derived.Lib.RabinKarpLaws
set_option linter.unusedSimpArgs false
set_option linter.unusedVariables false
namespace Go.Proofs.YtgilnnipephfjaaGreatDoor
open Go.RowKit

theorem wd_succ_div (N k : Nat) : N / B ^ k = N / B ^ (k + 1) * B + wd N k := by
  have := Nat.div_add_mod (N / B ^ k) B
  rw [Nat.div_div_eq_div_mul, ← Nat.pow_succ] at this
  unfold wd
  rw [Nat.mul_comm]; exact this.symm
theorem step_quo (N k y : Nat) (hy : 0 < y) (hyB : y ≤ B) : quo2 (N / B ^ (k + 1) % y) (wd N k) y = wd (N / y) k ∧ rem2 (N / B ^ (k + 1) % y) (wd N k) y = N / B ^ k % y := by
  have e := wd_succ_div N k
  have hm := Nat.mod_lt (N / B ^ (k + 1)) hy
  have e2 : N / B ^ k = (N / B ^ (k + 1) / y * B) * y + (N / B ^ (k + 1) % y * B + wd N k) := by
    have := Nat.div_add_mod (N / B ^ (k + 1)) y
    conv => lhs; rw [e, ← this]
    generalize N / B ^ (k + 1) % y = r
    generalize N / B ^ (k + 1) / y = q
    grind
  have hw := wd_lt N k
  constructor
  · unfold quo2
    have e3 : wd (N / y) k = N / B ^ k / y % B := by unfold wd; rw [Nat.div_div_eq_div_mul, Nat.div_div_eq_div_mul, Nat.mul_comm]
    rw [e3, e2]
    generalize N / B ^ (k + 1) / y = q at *
    rw [Nat.add_comm (q * B * y), Nat.add_mul_div_right _ _ hy, Nat.add_mul_mod_self_right]
    symm
    apply Nat.mod_eq_of_lt
    apply Nat.div_lt_of_lt_mul
    have := Nat.mul_le_mul_right B (show N / B ^ (k + 1) % y + 1 ≤ y from hm)
    rw [Nat.succ_mul] at this
    omega
  · unfold rem2
    conv => rhs; rw [e2]
    generalize N / B ^ (k + 1) / y = q at *
    rw [Nat.add_comm (q * B * y), Nat.add_mul_mod_self_right]

theorem divWVW_one (zb zo zc xb xo xc X y : Nat) (w : World) (hX : Words w xb xo 1 X) (hz : Own w zb zo 1) (hy : y < B) (hy0 : y ≠ 0) :
    Calls Tryz.prog 250 #[.slice (some ⟨zb, zo, none⟩) 1 zc, .int .u64 0, .slice (some ⟨xb, xo, none⟩) 1 xc, .int .u64 y] w fun e w' =>
      e = .returned (.int .u64 (X % y : Nat)) ∧ Words w' zb zo 1 (X / y) ∧ Fr (fun b o => b = zb ∧ zo ≤ o ∧ o < zo + 1) w w' := by
  have hXB : X < B := by simpa using hX.lt
  have hx := hX.cell 0 (by omega)
  rw [wd_word hXB, Nat.add_zero] at hx
  obtain ⟨u, _, hu⟩ := hz.cell 0 (by omega)
  have hf := hz.free 0 (by omega)
  rw [Nat.add_zero] at hu hf
  have H := Lib.hid (bitsDiv_any 0 X y w hXB hy (by omega) (.inr rfl))
  have e1 : quo2 0 X y = X / y := by unfold quo2; rw [Nat.zero_mul, Nat.zero_add]
  have e2 : rem2 0 X y = X % y := by unfold rem2; rw [Nat.zero_mul, Nat.zero_add]
  have E1 := Lib.hid e1
  have E2 := Lib.hid e2
  clear e1 e2
  go_enter Tryz.func250, Tryz.ntmps250
  go_wp2_with fail
  refine H.out.mono ?_
  rintro e w' ⟨rfl, d, rfl⟩
  go_wp2_with fail
  go_ret
  have hq : X / y < B := Nat.lt_of_le_of_lt (Nat.div_le_self _ _) hXB
  refine ⟨by rw [← E2.out]; rfl, ?_, ?_⟩
  · rw [E1.out]
    have e : (w.drewN d).setCell ⟨zb, zo, none⟩ (.int .u64 (X / y : Nat)) = (putW w zb zo 1 (X / y)).drewN d := by simp only [putW]; rw [wd_word hq]; rfl
    rw [e]
    have := Words_putW w zb zo 1 (X / y) (by simpa using hq) hz
    exact ⟨this.lt, this.cell⟩
  · exact ((Fr.refl _ w).drewN d).setCell zb zo _ (fun _ => ⟨rfl, by omega, by omega⟩)

set_option maxHeartbeats 1000000 in
theorem divWVW_many (zb zo zc xb xo xc n X y : Nat) (w : World) (hn2 : 2 ≤ n) (hn : n < 1000000) (hX : Words w xb xo n X) (hz : Own w zb zo n) (hy : y < B) (hy0 : y ≠ 0)
    (hal : (zb = xb ∧ zo = xo) ∨ zb ≠ xb ∨ zo + n ≤ xo ∨ xo + n ≤ zo) :
    Calls Tryz.prog 250 #[.slice (some ⟨zb, zo, none⟩) n zc, .int .u64 0, .slice (some ⟨xb, xo, none⟩) n xc, .int .u64 y] w fun e w' =>
      e = .returned (.int .u64 (X % y : Nat)) ∧ Words w' zb zo n (X / y) ∧ Fr (fun b o => b = zb ∧ zo ≤ o ∧ o < zo + n) w w' := by
  have q1 : ((n : Int) == 1) = false := by simp; omega
  have H := Lib.hid (recip_any y w hy hy0)
  obtain ⟨m, rfl⟩ : ∃ m, n = m + 1 := ⟨n - 1, by omega⟩
  go_enter Tryz.func250, Tryz.ntmps250
  go_wp2_with fail
  refine H.out.mono ?_
  rintro e w' ⟨rfl, d, rfl⟩
  go_wp2_with fail
  go_loopw [8, 12] (fun r i wr => ∃ (k R : Nat), k ≤ m + 1 ∧ i = .int .i64 ((k : Int) - 1) ∧ r = .int .u64 (R : Nat) ∧ R < y ∧ Aside (R = X / B ^ k % y) ∧
      Aside (Fr (fun b o => b = zb ∧ zo + k ≤ o ∧ o < zo + (m + 1)) w wr ∧ ∀ j, k ≤ j → j < m + 1 → wr.cell? ⟨zb, zo + j, none⟩ = some (.int .u64 (wd (X / y) j : Nat)))) (fun _ i _ => (intOf i + 1).toNat)
  case atStart => exact ⟨m + 1, 0, by omega, by simp, rfl, by omega, ⟨by rw [Nat.div_eq_of_lt hX.lt, Nat.zero_mod]⟩, ⟨(Fr.refl _ w).drewN d, fun j h1 h2 => by omega⟩⟩
  case round =>
    obtain ⟨k, R, hk, rfl, rfl, hR, hRE, hI⟩ := hrel
    by_cases h0 : 0 < k
    · obtain ⟨k, rfl⟩ : ∃ j, k = j + 1 := ⟨k - 1, by omega⟩
      have hki : ((k + 1 : Nat) : Int) - 1 = k := by omega
      have hx : wr.cell? ⟨xb, xo + k, none⟩ = some (.int .u64 (wd X k : Nat)) := by
        have hc := hX.cell k (by omega)
        exact (hI.out.1.cell xb (xo + k) (World.block_lt_of_cell? w _ hc) (by omega)).trans hc
      obtain ⟨u, _, hu0⟩ := hz.cell k (by omega)
      have hu : wr.cell? ⟨zb, zo + k, none⟩ = some (.int .u64 (u : Nat)) := (hI.out.1.cell zb (zo + k) hz.kind.lt (by omega)).trans hu0
      have hf : wr.frozen? ⟨zb, zo + k, none⟩ = false := (hI.out.1.frozen zb (zo + k) hz.kind.lt).trans (hz.free k (by omega))
      have HD := Lib.hid (divWW_any R (wd X k) y wr hy hR (wd_lt _ _))
      simp only [hki]
      clear hki
      go_wp2_with fail
      refine HD.out.mono ?_
      rintro e w' ⟨rfl, rfl⟩
      have hst := step_quo X k y (by omega) (by omega)
      rw [← hRE.out] at hst
      obtain ⟨Q2, hQ2⟩ : ∃ v, quo2 R (wd X k) y = v := ⟨_, rfl⟩
      obtain ⟨R2, hR2⟩ : ∃ v, rem2 R (wd X k) y = v := ⟨_, rfl⟩
      rw [hQ2, hR2] at hst ⊢
      have hR2l : R2 < y := by rw [hst.2]; exact Nat.mod_lt _ (by omega)
      have HST := Lib.hid hst
      clear hst hQ2 hR2 HD
      go_wp2_with fail
      go_roundw
      case rel =>
        refine ⟨k, R2, by omega, rfl, rfl, hR2l, ⟨HST.out.2⟩, ⟨?_, ?_⟩⟩
        · exact (hI.out.1.mono (fun b o _ h => ⟨h.1, by omega, h.2.2⟩)).setCell zb (zo + k) _ (fun _ => ⟨rfl, by omega, by omega⟩)
        · intro j h1 h2
          by_cases e : j = k
          · subst e; rw [← HST.out.1]; exact World.cell?_setCell_same _ _ _ hu
          · rw [World.cell?_setCell_other _ _ _ _ (by simp only [ne_eq, Addr.mk.injEq, and_true]; omega)]
            exact hI.out.2 j (by omega) h2
      case measure => simp [intOf]
    · obtain rfl : k = 0 := by omega
      go_wp2_with fail
      go_ret
      have := hRE.out
      rw [Nat.pow_zero, Nat.div_one] at this
      refine ⟨by rw [← this]; rfl, ⟨Nat.lt_of_le_of_lt (Nat.div_le_self _ _) hX.lt, fun i hi => hI.out.2 i (by omega) hi⟩, ?_⟩
      exact hI.out.1.mono (fun b o _ h => ⟨h.1, by omega, h.2.2⟩)

/-- z.divW(x, y), y above 1. -/
theorem divW_any {a xa : Option Addr} {zl zc xc X y : Nat} {w : World} (hG : NG ≤ w.heap.size) (hz : Reg w a zc) (hX : Nt w xa xc X) (hn : nlen X < 800000) (hy : y < B) (hy1 : 1 < y) (hax : Ap a zc xa xc) :
    Calls Tryz.prog 216 #[.slice a zl zc, .slice xa (nlen X) xc, .int .u64 y] w fun e w' => ∃ a' c', e = .returned (.tuple #[.slice a' (nlen (X / y)) c', .int .u64 (X % y : Nat)]) ∧ Nt w' a' c' (X / y) ∧
      Fr (foot a zc) w w' ∧ Out w a zc a' c' := by
  have q0 : ((y : Int) == 0) = false := by simp; omega
  have q1 : ((y : Int) == 1) = false := by simp; omega
  by_cases h0 : X = 0
  · subst h0
    have hz1 := hz.1
    simp only [nlen_zero, Nat.zero_div, Nat.zero_mod]
    go_enter Tryz.func216, Tryz.ntmps216
    go_wp2_with fail
    go_ret2
    exact ⟨a, zc, rfl, Nt.zero hz, Fr.refl _ _, .inl ⟨rfl, rfl⟩⟩
  · obtain ⟨xb, xo, rfl, hxo, hW⟩ := hX.pos h0
    obtain ⟨n, hn'⟩ : ∃ n, nlen X = n := ⟨_, rfl⟩
    have hxl := hX.len
    have hnp := nlen_pos h0
    rw [hn'] at hW hn hxl hnp ⊢
    clear hn'
    have q2 : ((n : Int) == 0) = false := by simp; omega
    have HM := Lib.hid (make_any a zl zc n w hG hz (by omega) (by omega))
    have HA := Aside.mk hax
    have HX := Aside.mk hX
    have HZ := Aside.mk hz
    clear hX hax hz
    go_enter Tryz.func216, Tryz.ntmps216
    go_wp2_with fail
    refine HM.out.mono ?_
    rintro e w1 ⟨b, o, c, rfl, hnc, hc, hown, hfr, hout⟩
    have hW1 := hfr.words hW (fun _ _ => id)
    have hal : (b = xb ∧ o = xo) ∨ b ≠ xb ∨ o + n ≤ xo ∨ xo + n ≤ o := by
      rcases hout with ⟨rfl, rfl⟩ | hnew
      · rcases HA.out with ⟨e, _⟩ | hd
        · cases e; exact .inl ⟨rfl, rfl⟩
        · have := apart_of hd (by omega) (by omega); omega
      · have := hxo.kind.lt; right; left; omega
    have HD : Hid (Calls Tryz.prog 250 #[.slice (some ⟨b, o, none⟩) n c, .int .u64 0, .slice (some ⟨xb, xo, none⟩) n xc, .int .u64 y] w1 fun e w' =>
        e = .returned (.int .u64 (X % y : Nat)) ∧ Words w' b o n (X / y) ∧ Fr (fun b' o' => b' = b ∧ o ≤ o' ∧ o' < o + n) w1 w') := by
      by_cases h1 : n = 1
      · subst h1; exact divWVW_one b o c xb xo xc X y w1 hW1 (hown.le hnc) hy (by omega)
      · exact divWVW_many b o c xb xo xc n X y w1 (by omega) (by omega) hW1 (hown.le hnc) hy (by omega) hal
    obtain ⟨R, hR⟩ : ∃ R, X % y = R := ⟨_, rfl⟩
    rw [hR] at HD
    have HR := Lib.hid hR
    clear hR
    go_wp2_with fail
    refine HD.out.mono ?_
    rintro e w2 ⟨rfl, hw2, hf2⟩
    go_wp2_with fail
    refine (norm_some b o n c (X / y) _ (by omega) hnc hw2).mono ?_
    rintro e w' ⟨rfl, rfl⟩
    go_wp2_with fail
    go_ret2
    have hout' : Out w a zc (some ⟨b, o, none⟩) c := by
      rcases hout with ⟨rfl, rfl⟩ | h
      · exact .inl ⟨rfl, rfl⟩
      · exact .inr ⟨b, o, rfl, h⟩
    exact ⟨some ⟨b, o, none⟩, c, by rw [HR.out]; rfl, Nt.mk' hc hnc (Fin.out hown hw2 hf2) hw2, Fin.fr hfr hf2 hout' hnc, hout'⟩
end Go.Proofs.YtgilnnipephfjaaGreatDoor
namespace Go.Proofs.YtgilnnipephfjaaGreatDoor
open Go.RowKit

def p10 (k : Nat) : Nat := 10 ^ k
theorem p10_succ (k : Nat) : p10 (k + 1) = p10 k * 10 := by unfold p10; rw [Nat.pow_succ]
theorem p10_mono {k m : Nat} (h : k ≤ m) : p10 k ≤ p10 m := Nat.pow_le_pow_right (by omega) h
theorem p10_18 : p10 18 = 1000000000000000000 := by decide
theorem p10_19 : p10 19 = 10000000000000000000 := by decide

theorem maxPow_ten (w : World) :
    Calls Tryz.prog 195 #[.int .u64 10] w fun e w' => e = .returned (.tuple #[.int .u64 (p10 19 : Nat), .int .i64 19]) ∧ w' = w := by
  go_enter Tryz.func195, Tryz.ntmps195
  go_wp2_with fail
  go_loop [2, 3] (fun p n => ∃ k : Nat, 1 ≤ k ∧ k ≤ 19 ∧ p = .int .u64 (p10 k : Nat) ∧ n = .int .i64 k) (fun _ n => 19 - (intOf n).toNat)
  case atStart => exact ⟨1, by omega, by omega, rfl, rfl⟩
  case round =>
    obtain ⟨k, h1, h19, rfl, rfl⟩ := hrel
    by_cases hlt : k < 19
    · have hb := p10_mono (show k ≤ 18 by omega)
      rw [p10_18] at hb
      have hs := Aside.mk (p10_succ k)
      have hp : (p10 k : Int) ≤ 1000000000000000000 := by omega
      have hp0 : (0 : Int) ≤ p10 k := by omega
      clear hb
      go_wp2_with fail
      go_round
      case rel => exact ⟨k + 1, by omega, by omega, by rw [hs.out]; rfl, by go_num⟩
      case measure => simp [intOf]; omega
    · obtain rfl : k = 19 := by omega
      have hp : (p10 19 : Int) = 10000000000000000000 := by rw [p10_19]; rfl
      have hp' : ¬ (p10 19 : Int) ≤ 1844674407370955161 := by omega
      clear hp
      go_wp2_with fail
      go_ret2
      exact ⟨rfl, rfl⟩

theorem gpow_step (b x n p N : Nat) (h : p * x ^ n % b = N) : (if n % 2 = 1 then p * x % b else p) * (x * x % b) ^ (n / 2) % b = N := by
  rw [← h]
  have e := Nat.mod_add_div n 2
  have h2 : x ^ n = (if n % 2 = 1 then x else 1) * (x * x) ^ (n / 2) := by
    conv => lhs; rw [← e, Nat.pow_add, Nat.pow_mul]
    have : x ^ 2 = x * x := by rw [Nat.pow_succ, Nat.pow_one]
    rw [this]
    split
    · rename_i k; rw [k, Nat.pow_one]
    · have : n % 2 = 0 := by omega
      rw [this, Nat.pow_zero]
  rw [h2, Nat.mul_mod, Nat.pow_mod (x * x % b), Nat.mod_mod, ← Nat.pow_mod, ← Nat.mul_mod]
  split
  · rw [Nat.mul_mod, Nat.mod_mod, ← Nat.mul_mod, Nat.mul_assoc]
  · rw [Nat.one_mul]

/-- A power, of which a word is kept. -/
def powB (x n : Nat) : Nat := x ^ n % B
set_option maxHeartbeats 400000 in
theorem pow_any (x n : Nat) (w : World) (hx : x < B) (hn : n < 1000000) :
    Calls Tryz.prog 246 #[.int .u64 x, .int .i64 n] w fun e w' => e = .returned (.int .u64 (powB x n : Nat)) ∧ w' = w := by
  go_enter Tryz.func246, Tryz.ntmps246
  go_wp2_with fail
  go_loop [0, 1, 4] (fun x1 n1 p1 => ∃ y m p : Nat, x1 = .int .u64 y ∧ n1 = .int .i64 m ∧ p1 = .int .u64 p ∧ m < 1000000 ∧ y < B ∧ p < B ∧ Aside (p * y ^ m % B = x ^ n % B)) (fun _ n _ => (intOf n).toNat)
  case atStart => exact ⟨x, n, 1, rfl, rfl, rfl, hn, hx, by decide, ⟨by rw [Nat.one_mul]⟩⟩
  case round =>
    obtain ⟨y, m, p, rfl, rfl, rfl, hm, hy, hp, hE⟩ := hrel
    by_cases h0 : 0 < m
    · have hst := gpow_step B y m p _ hE.out
      obtain ⟨y2, hy2⟩ : ∃ y2, y * y % B = y2 := ⟨_, rfl⟩
      have hw1 : IntKind.u64.wrap ((y : Int) * y) = (y2 : Int) := by rw [← hy2, IntKind.wrap_u64]; simp [B]
      obtain ⟨p2, hp2⟩ : ∃ p2, p * y % B = p2 := ⟨_, rfl⟩
      have hw2 : IntKind.u64.wrap ((p : Int) * y) = (p2 : Int) := by rw [← hp2, IntKind.wrap_u64]; simp [B]
      have hlt1 : y2 < B := by rw [← hy2]; exact Nat.mod_lt _ B_pos
      have hlt2 : p2 < B := by rw [← hp2]; exact Nat.mod_lt _ B_pos
      rw [hy2, hp2] at hst
      have HST := Aside.mk hst
      clear hst hy2 hp2
      by_cases hodd : m % 2 = 1
      · have hb : (bits .and .i64 (m : Int) 1 != 0) = true := by rw [Go.Proofs.and_one m (by omega), hodd]; rfl
        have HST' := HST.out
        rw [if_pos hodd] at HST'
        have HS := Aside.mk HST'
        clear HST HST' hodd
        go_wp2_with fail
        exact ⟨⟨y2, m / 2, p2, rfl, rfl, rfl, by omega, hlt1, hlt2, HS⟩, by simp [intOf]; omega⟩
      · have hb : (bits .and .i64 (m : Int) 1 != 0) = false := by rw [Go.Proofs.and_one m (by omega), show m % 2 = 0 from by omega]; rfl
        have HST' := HST.out
        rw [if_neg hodd] at HST'
        have HS := Aside.mk HST'
        clear HST HST' hodd
        go_wp2_with fail
        exact ⟨⟨y2, m / 2, p, rfl, rfl, rfl, by omega, hlt1, hp, HS⟩, by simp [intOf]; omega⟩
    · obtain rfl : m = 0 := by omega
      go_wp2_with fail
      go_ret
      have := hE.out
      rw [Nat.pow_zero, Nat.mul_one, Nat.mod_eq_of_lt hp] at this
      exact ⟨by unfold powB; rw [← this]; rfl, rfl⟩
end Go.Proofs.YtgilnnipephfjaaGreatDoor
namespace Go.Proofs.YtgilnnipephfjaaGreatDoor
open Go.RowKit

/-- Digit k of a number. -/
def dg (X k : Nat) : Nat := X / 10 ^ k % 10
theorem dg_lt (X k : Nat) : dg X k < 10 := Nat.mod_lt _ (by decide)
theorem dg_zero {X t k : Nat} (h : X / 10 ^ t = 0) (hk : t ≤ k) : dg X k = 0 := by
  obtain ⟨m, rfl⟩ : ∃ m, k = t + m := ⟨k - t, by omega⟩
  unfold dg
  rw [Nat.pow_add, ← Nat.div_div_eq_div_mul, h, Nat.zero_div]
/-- What of a group of 19 digits is left when j of them are written. -/
def grp (X t j : Nat) : Nat := X / 10 ^ t % 10 ^ 19 / 10 ^ j
theorem grp_next (X t j : Nat) : grp X t j / 10 = grp X t (j + 1) := by
  unfold grp; rw [Nat.div_div_eq_div_mul, ← Nat.pow_succ]
theorem grp_dg (X t j : Nat) (h : j < 19) : grp X t j % 10 = dg X (t + j) := by
  unfold grp dg
  obtain ⟨m, hm⟩ : ∃ m, 19 = j + (m + 1) := ⟨18 - j, by omega⟩
  rw [hm, Nat.pow_add 10 j, Nat.mod_mul_right_div_self, Nat.pow_succ, Nat.mod_mod_of_dvd _ (Nat.dvd_mul_left 10 _), Nat.div_div_eq_div_mul, ← Nat.pow_add]
theorem grp_lt (X t j : Nat) : grp X t j < p10 19 := Nat.lt_of_le_of_lt (Nat.div_le_self _ _) (Nat.mod_lt _ (Nat.pow_pos (by decide)))
theorem grp_zero (X t : Nat) : X / 10 ^ t % p10 19 = grp X t 0 := by unfold grp p10; rw [Nat.pow_zero, Nat.div_one]
theorem next_t (X t : Nat) : X / 10 ^ t / p10 19 = X / 10 ^ (t + 19) := by unfold p10; rw [Nat.div_div_eq_div_mul, ← Nat.pow_add]

/-- The number that words in memory are. -/
def sumW (w : World) (b o : Nat) : Nat → Nat
  | 0 => 0
  | n + 1 => sumW w b o n + B ^ n * (match w.cell? ⟨b, o + n, none⟩ with | some (.int _ x) => x.toNat | _ => 0)
def nval (w : World) : Value → Nat
  | .slice (some ⟨b, o, _⟩) n _ => sumW w b o n
  | _ => 0
theorem sumW_of {w : World} {b o v : Nat} (n : Nat) (h : ∀ i, i < n → w.cell? ⟨b, o + i, none⟩ = some (.int .u64 (wd v i : Nat))) : sumW w b o n = v % B ^ n := by
  induction n with
  | zero => simp [sumW, Nat.mod_one]
  | succ n ih =>
    simp only [sumW, h n (by omega)]
    rw [ih (fun i hi => h i (by omega)), mod_succ]
    rfl
theorem Nt.nval {w : World} {a : Option Addr} {c X : Nat} (h : Nt w a c X) : nval w (.slice a (nlen X) c) = X := by
  by_cases h0 : X = 0
  · subst h0
    cases a with
    | none => rfl
    | some a => simp [Go.Proofs.YtgilnnipephfjaaGreatDoor.nval, nlen_zero, sumW]
  · obtain ⟨b, o, rfl, _, hW⟩ := h.pos h0
    simp only [Go.Proofs.YtgilnnipephfjaaGreatDoor.nval]
    rw [sumW_of _ hW.cell, Nat.mod_eq_of_lt hW.lt]

/-- n bytes from (b, o) on may be written. -/
structure OwnB (w : World) (b o n : Nat) : Prop where
  cell : ∀ i, i < n → ∃ x : Nat, x < 256 ∧ w.cell? ⟨b, o + i, none⟩ = some (.int .u8 (x : Nat))
  kind : Blk w b
/-- The bytes from k on are the digits of X. -/
def Dgs (w : World) (b o L k X : Nat) : Prop := ∀ i, k ≤ i → i < L → w.cell? ⟨b, o + i, none⟩ = some (.int .u8 ((48 + dg X (L - 1 - i) : Nat) : Int))
theorem OwnB.fr {S : Nat → Nat → Prop} {w w' : World} {b o n : Nat} (h : Fr S w w') (hw : OwnB w b o n) (hs : ∀ i, i < n → ¬ S b (o + i)) : OwnB w' b o n :=
  ⟨fun i hi => by
    obtain ⟨x, hx, hc⟩ := hw.cell i hi
    exact ⟨x, hx, (h.cell b (o + i) hw.kind.lt (hs i hi)).trans hc⟩, h.blk hw.kind⟩
theorem Fr.ownB {S : Nat → Nat → Prop} {w w' : World} {b o n : Nat} (h : Fr S w w') (hw : OwnB w b o n) (hs : ∀ i, i < n → ¬ S b (o + i)) : OwnB w' b o n := hw.fr h hs
theorem OwnB.set {w : World} {b o n : Nat} (h : OwnB w b o n) (i : Nat) {x : Nat} (hx : x < 256) : OwnB (w.setCell ⟨b, o + i, none⟩ (.int .u8 (x : Nat))) b o n := by
  refine ⟨fun j hj => ?_, h.kind.of_kind (kind_setCell _ _ _ _)⟩
  obtain ⟨y, hy, hc⟩ := h.cell j hj
  by_cases e : (⟨b, o + i, none⟩ : Addr) = ⟨b, o + j, none⟩
  · rw [e]; exact ⟨x, hx, World.cell?_setCell_same _ _ _ hc⟩
  · exact ⟨y, hy, (World.cell?_setCell_other _ _ _ _ e).trans hc⟩
theorem Dgs.fr {S : Nat → Nat → Prop} {w w' : World} {b o L k X : Nat} (h : Fr S w w') (hb : b < w.heap.size) (hw : Dgs w b o L k X) (hs : ∀ i, i < L → ¬ S b (o + i)) : Dgs w' b o L k X :=
  fun i h1 h2 => (h.cell b (o + i) hb (hs i h2)).trans (hw i h1 h2)
theorem Dgs.set {w : World} {b o L k X d : Nat} (hw : Dgs w b o L (k + 1) X) (ho : OwnB w b o L) (hk : k < L) (hd : d = dg X (L - 1 - k)) :
    Dgs (w.setCell ⟨b, o + k, none⟩ (.int .u8 ((48 + d : Nat) : Int))) b o L k X := by
  intro i h1 h2
  by_cases e : i = k
  · subst e
    obtain ⟨y, hy, hc⟩ := ho.cell i h2
    rw [hd]
    exact World.cell?_setCell_same _ _ _ hc
  · rw [World.cell?_setCell_other _ _ _ _ (by simp only [ne_eq, Addr.mk.injEq, and_true]; omega)]
    exact hw i (by omega) h2

/-- The state on the way: digits from k on are written, X / 10^T is left. -/
structure CW (w wr : World) (a : Option Addr) (c sb so L X T k : Nat) (aq : Option Addr) (cq : Nat) : Prop where
  nt : Nt wr aq cq (X / 10 ^ T)
  out : Out w a c aq cq
  own : OwnB wr sb so L
  dgs : Dgs wr sb so L k X
  fr : Fr (fun b o => foot a c b o ∨ (b = sb ∧ so ≤ o ∧ o < so + L)) w wr
theorem CW.divided {w wr w1 : World} {a : Option Addr} {c sb so L X T k : Nat} {aq : Option Addr} {cq T' : Nat} {a' : Option Addr} {c' : Nat} (h : CW w wr a c sb so L X T k aq cq) (hr : Reg w a c) (hsb : sb < w.heap.size)
    (hd : ∀ o, so ≤ o → o < so + L → ¬ foot a c sb o) (hnt : Nt w1 a' c' (X / 10 ^ T')) (hf : Fr (foot aq cq) wr w1) (ho : Out wr aq cq a' c') : CW w w1 a c sb so L X T' k a' c' := by
  have hq : ∀ b o, b < w.heap.size → foot aq cq b o → foot a c b o := by
    intro b o hb hk
    rcases h.out with ⟨rfl, rfl⟩ | ⟨b', o', rfl, hn⟩
    · exact hk
    · rw [foot_some] at hk; omega
  have hsd : ∀ i, i < L → ¬ foot aq cq sb (so + i) := fun i hi k => hd (so + i) (by omega) (by omega) (hq _ _ hsb k)
  refine ⟨hnt, ?_, h.own.fr hf hsd, h.dgs.fr hf (Nat.lt_of_lt_of_le hsb h.fr.size) hsd, h.fr.trans' hf (fun b o _ k => k) (fun b o hb k => .inl (hq b o hb k))⟩
  rcases ho with ⟨rfl, rfl⟩ | ⟨b, o, rfl, hn⟩
  · exact h.out
  · exact .inr ⟨b, o, rfl, Nat.le_trans h.fr.size hn⟩
theorem CW.set {w wr : World} {a : Option Addr} {c sb so L X T k d : Nat} {aq : Option Addr} {cq : Nat} (h : CW w wr a c sb so L X T (k + 1) aq cq) (hk : k < L) (hd : d = dg X (L - 1 - k))
    (hsb : sb < w.heap.size) (hq : ∀ o, so ≤ o → o < so + L → ¬ foot a c sb o) : CW w (wr.setCell ⟨sb, so + k, none⟩ (.int .u8 ((48 + d : Nat) : Int))) a c sb so L X T k aq cq := by
  have hd10 : d < 10 := by rw [hd]; exact dg_lt _ _
  have hqn : ∀ i, i < L → ¬ foot aq cq sb (so + i) := by
    intro i hi hk
    rcases h.out with ⟨rfl, rfl⟩ | ⟨b', o', rfl, hn⟩
    · exact hq _ (by omega) (by omega) hk
    · rw [foot_some] at hk; omega
  have f := (Fr.refl (fun b o => b = sb ∧ o = so + k) wr).setCell sb (so + k) (.int .u8 ((48 + d : Nat) : Int)) (fun _ => ⟨rfl, rfl⟩)
  exact ⟨f.nt h.nt (fun b o hf e => by obtain ⟨rfl, rfl⟩ := e; exact hqn k hk hf), h.out, h.own.set k (by omega), h.dgs.set h.own hk hd, h.fr.setCell sb (so + k) _ (fun _ => .inr ⟨rfl, by omega, by omega⟩)⟩

theorem CW.less {w wr wr' : World} {a : Option Addr} {c sb so L X t k k' : Nat} {aq aq' : Option Addr} {cq cq' n n' : Nat} (h : Aside (CW w wr a c sb so L X t k aq cq)) (h' : Aside (CW w wr' a c sb so L X (t + 19) k' aq' cq'))
    (hn : Aside (n = nlen (X / 10 ^ t))) (hn' : Aside (nlen (X / 10 ^ (t + 19)) = n')) (h0 : Aside (X / 10 ^ t ≠ 0)) : nval wr' (.slice aq' n' cq') < nval wr (.slice aq n cq) := by
  rw [hn.out, ← hn'.out, h.out.nt.nval, h'.out.nt.nval, ← next_t]
  exact Nat.div_lt_self (Nat.pos_of_ne_zero h0.out) (by rw [p10_19]; decide)

set_option maxRecDepth 100000 in
set_option maxHeartbeats 4000000 in
theorem convert_nil {a : Option Addr} {c X sb so L sc : Nat} {w : World} (stk : Value) (hG : NG ≤ w.heap.size) (hX : Nt w a c X) (hn : nlen X < 800000) (hs : OwnB w sb so L) (hL : L < 1000000) (hd : ∀ o, so ≤ o → o < so + L → ¬ foot a c sb o) :
    Calls Tryz.prog 197 #[.slice a (nlen X) c, stk, .slice (some ⟨sb, so, none⟩) L sc, .int .u64 10, .int .i64 19, .int .u64 (p10 19 : Nat), .slice none 0 0] w fun e w' => e = .returned (.tuple #[]) ∧
      Dgs w' sb so L 0 X ∧ OwnB w' sb so L ∧ Fr (fun b o => foot a c b o ∨ (b = sb ∧ so ≤ o ∧ o < so + L)) w w' := by
  have hp19 : p10 19 < B := by rw [p10_19]; decide
  have hp19' : 1 < p10 19 := by rw [p10_19]; decide
  have hsb := hs.kind.lt
  have I0 : Aside (CW w w a c sb so L X 0 (L - 0) a c) := ⟨{
    nt := by rw [Nat.pow_zero, Nat.div_one]; exact hX
    out := .inl ⟨rfl, rfl⟩
    own := hs
    dgs := fun i h1 h2 => by omega
    fr := Fr.refl _ _ }⟩
  have HX := Aside.mk hX
  have HD := Aside.mk hd
  clear hX hs hd
  go_enter Tryz.func197, Tryz.ntmps197
  go_wp2_with fail
  go_loopw [0, 19] (fun q i wr => ∃ (t : Nat) (aq : Option Addr) (cq n : Nat), i = .int .i64 ((L - t : Nat) : Int) ∧ q = .slice aq n cq ∧ n = nlen (X / 10 ^ t) ∧ Aside (CW w wr a c sb so L X t (L - t) aq cq)) (fun q _ wr => nval wr q)
  case atStart => exact ⟨0, a, c, _, rfl, rfl, by rw [Nat.pow_zero, Nat.div_one], I0⟩
  case round =>
    obtain ⟨t, aq, cq, n, rfl, rfl, hn1, hI⟩ := hrel
    by_cases h0 : 0 < n
    · have g0 : decide (0 < (n : Int)) = true := by simpa using h0
      have hq0 : X / 10 ^ t ≠ 0 := fun k => by rw [hn1, k, nlen_zero] at h0; omega
      have hle : X / 10 ^ t ≤ X := Nat.div_le_self _ _
      have hdv := Lib.hid (divW_any (zl := n) (Nat.le_trans hG hI.out.fr.size) hI.out.nt.reg hI.out.nt (by have := nlen_mono hle; omega) hp19 hp19' (.inl ⟨rfl, rfl⟩))
      rw [grp_zero, next_t] at hdv
      have HN := Aside.mk hn1
      have HQ0 := Aside.mk hq0
      rw [← hn1] at hdv
      clear hn1 hq0 hle
      obtain ⟨R, hR⟩ : ∃ R, grp X t 0 = R := ⟨_, rfl⟩
      rw [hR] at hdv
      have HR := Aside.mk hR.symm
      clear hR
      obtain ⟨N2, hN2⟩ : ∃ N2, nlen (X / 10 ^ (t + 19)) = N2 := ⟨_, rfl⟩
      rw [hN2] at hdv
      have HN2 := Aside.mk hN2
      clear hN2
      go_wp2_with fail
      refine hdv.out.mono ?_
      rintro e w1 ⟨a', c', rfl, hnt1, hfr1, hout1⟩
      have J0 : Aside (CW w w1 a c sb so L X (t + 19) (L - (t + 0)) a' c') := ⟨hI.out.divided HX.out.reg hsb HD.out hnt1 hfr1 hout1⟩
      clear hnt1 hfr1 hout1 hdv
      go_wp2_with fail
      go_loopw [19, 20, 21] (fun i r j wr => ∃ (k R : Nat), k ≤ 19 ∧ j = .int .i64 k ∧ i = .int .i64 ((L - (t + k) : Nat) : Int) ∧ r = .int .u64 (R : Nat) ∧ Aside (R = grp X t k) ∧ Aside (CW w wr a c sb so L X (t + 19) (L - (t + k)) a' c')) (fun _ _ j _ => 19 - (intOf j).toNat)
      case atStart => exact ⟨0, R, by omega, rfl, rfl, rfl, HR, J0⟩
      case round =>
        obtain ⟨k, R2, hk, rfl, rfl, rfl, hR2, hJ⟩ := hrel
        by_cases hk19 : k < 19
        · by_cases hm : 0 < L - (t + k)
          · obtain ⟨m, hm1⟩ : ∃ m, L - (t + k) = m + 1 := ⟨L - (t + k) - 1, by omega⟩
            have hm2 : L - (t + (k + 1)) = m := by omega
            have hmL : m < L := by omega
            obtain ⟨u, _, hu⟩ := hJ.out.own.cell m hmL
            have hf : wr.frozen? ⟨sb, so + m, none⟩ = false := hJ.out.own.kind.free _
            have hRd : R2 % 10 = dg X (L - 1 - m) := by rw [hR2.out, grp_dg X t k hk19, show L - 1 - m = t + k from by omega]
            have J1 : Aside (CW w (wr.setCell ⟨sb, so + m, none⟩ (.int .u8 ((48 + R2 % 10 : Nat) : Int))) a c sb so L X (t + 19) m a' c') :=
              ⟨(hm1 ▸ hJ.out : CW w wr a c sb so L X (t + 19) (m + 1) a' c').set hmL hRd hsb HD.out⟩
            rw [show ((48 + R2 % 10 : Nat) : Int) = 48 + ((R2 : Int) - (R2 : Int) / 10 * 10) from by omega] at J1
            have hRn : Aside (R2 / 10 = grp X t (k + 1)) := ⟨by rw [hR2.out, grp_next]⟩
            have hRB : R2 < 10000000000000000000 := by have := grp_lt X t k; rw [← hR2.out, p10_19] at this; exact this
            rw [hm1]
            have HM1 := Aside.mk hm1
            have HM2 := Aside.mk hm2
            clear hRd hm1 hm2 hm
            go_wp2_with fail
            go_roundw
            case rel => exact ⟨k + 1, R2 / 10, by omega, by go_num, by rw [HM2.out], rfl, hRn, by rw [HM2.out]; exact J1⟩
            case measure => simp [intOf]; omega
          · have hm0 : L - (t + k) = 0 := by omega
            rw [hm0] at hJ ⊢
            have hm1 : L - (t + 19) = 0 := by omega
            have HM1 := Aside.mk hm1
            clear hm hm0 hm1
            go_wp2_with fail
            go_roundw
            case rel => exact ⟨t + 19, a', c', N2, by rw [HM1.out]; rfl, rfl, HN2.out.symm, by rw [HM1.out]; exact hJ⟩
            case measure => exact CW.less hI hJ HN HN2 HQ0
        · obtain rfl : k = 19 := by omega
          go_wp2_with fail
          go_roundw
          case rel => exact ⟨t + 19, a', c', N2, rfl, rfl, HN2.out.symm, hJ⟩
          case measure => exact CW.less hI hJ HN HN2 HQ0
    · obtain rfl : n = 0 := by omega
      have hz : X / 10 ^ t = 0 := nlen_eq_zero.1 hn1.symm
      have HZ := Aside.mk hz
      clear hz hn1
      go_wp2_with fail
      go_loopw [19] (fun i wr => ∃ (k : Nat), k ≤ L - t ∧ i = .int .i64 k ∧ Aside (CW w wr a c sb so L X t k aq cq)) (fun i _ => (intOf i).toNat)
      case atStart => exact ⟨L - t, by omega, rfl, hI⟩
      case round =>
        obtain ⟨k, hk, rfl, hJ⟩ := hrel
        by_cases hk0 : 0 < k
        · obtain ⟨m, rfl⟩ : ∃ m, k = m + 1 := ⟨k - 1, by omega⟩
          have hmL : m < L := by omega
          obtain ⟨u, _, hu⟩ := hJ.out.own.cell m hmL
          have hf : wr.frozen? ⟨sb, so + m, none⟩ = false := hJ.out.own.kind.free _
          have J1 := Aside.mk (hJ.out.set (d := 0) hmL (dg_zero HZ.out (by omega)).symm hsb HD.out)
          go_wp2_with fail
          go_roundw
          case rel => exact ⟨m, by omega, rfl, J1⟩
          case measure => simp [intOf]
        · obtain rfl : k = 0 := by omega
          go_wp2_with fail
          go_end0
          exact ⟨rfl, hJ.out.dgs, hJ.out.own, hJ.out.fr⟩
end Go.Proofs.YtgilnnipephfjaaGreatDoor
