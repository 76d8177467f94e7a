/- Contracts of the loops over words (arith.go). Contracts of the small functions of nat.go. -/
import Derived.Test.YtgilnnipephfjaaGreatDoorM01Mem
import Derived.Test.YtgilnnipephfjaaGreatDoorShelf
import Derived.WalkKit
import Derived.Shelf.Spec.BitsCarry
import Derived.Deep.QuietTactic
import Derived.BigQuiet
import Derived.WalkSpells
import Derived.WalkLawsBesides
set_option linter.unusedSimpArgs false
set_option linter.unusedVariables false
namespace Go.Proofs.YtgilnnipephfjaaGreatDoor
open Go.RowKit

/-- Sum and carry of words. -/
def sumLo (x y c : Nat) : Nat := (x + y + c) % B
def sumHi (x y c : Nat) : Nat := (x + y + c) / B

theorem run_bitsAdd64 (x y c : Nat) (hc : c ≤ 1) (w : World) :
    (callFunc 308 #[.int .u64 x, .int .u64 y, .int .u64 c]).run Tryz.prog w =
      .ok (.value (.tuple #[.int .u64 (sumLo x y c), .int .u64 (sumHi x y c)])) w := by
  rw [run_callFunc_extern Tryz.func308 (by kernel_rfl) (by kernel_rfl) (by kernel_rfl) (e := add64Entry) (by kernel_rfl), run_add64 x y c (by omega) (by omega) (by omega) (by omega)]
  simp only [Result.andThen]
  congr 5 <;> (unfold sumLo sumHi B; omega)

theorem bitsAdd_any (x y c : Nat) (w : World) (hc : c ≤ 1) :
    Calls Tryz.prog 277 #[.int .u64 x, .int .u64 y, .int .u64 c] w fun e w' =>
      e = .returned (.tuple #[.int .u64 (sumLo x y c), .int .u64 (sumHi x y c)]) ∧ w' = w := by
  have h := run_bitsAdd64 x y c hc
  go_enter Tryz.func277, Tryz.ntmps277
  go_wp2_with fail
  go_ret2
  exact ⟨rfl, rfl⟩

/-- Difference and borrow of words. -/
def difLo (x y c : Nat) : Nat := (x + B - y - c) % B
def difHi (x y c : Nat) : Nat := if x < y + c then 1 else 0

theorem run_bitsSub64 (x y c : Nat) (hc : c ≤ 1) (w : World) :
    (callFunc 310 #[.int .u64 x, .int .u64 y, .int .u64 c]).run Tryz.prog w =
      .ok (.value (.tuple #[.int .u64 (difLo x y c), .int .u64 (difHi x y c)])) w := by
  rw [run_callFunc_extern Tryz.func310 (by kernel_rfl) (by kernel_rfl) (by kernel_rfl) (e := sub64Entry) (by kernel_rfl), run_sub64 x y c hc]
  rfl

theorem bitsSub_any (x y c : Nat) (w : World) (hc : c ≤ 1) :
    Calls Tryz.prog 279 #[.int .u64 x, .int .u64 y, .int .u64 c] w fun e w' =>
      e = .returned (.tuple #[.int .u64 (difLo x y c), .int .u64 (difHi x y c)]) ∧ w' = w := by
  have h := run_bitsSub64 x y c hc
  go_enter Tryz.func279, Tryz.ntmps279
  go_wp2_with fail
  go_ret2
  exact ⟨rfl, rfl⟩

/-- The product of words. -/
def prodLo (x y : Nat) : Nat := x * y % B
def prodHi (x y : Nat) : Nat := x * y / B
theorem bitsMul_any (x y : Nat) (w : World) (hx : x < B) (hy : y < B) :
    Calls Tryz.prog 294 #[.int .u64 x, .int .u64 y] w fun e w' =>
      e = .returned (.tuple #[.int .u64 (prodHi x y), .int .u64 (prodLo x y)]) ∧ w' = w :=
  (Tryz.bits_Mul x y hx hy w)

/-- Product and sum of words. -/
def mulLo (x y c : Nat) : Nat := (x * y + c) % B
def mulHi (x y c : Nat) : Nat := (x * y + c) / B
theorem mulHi_eq (x y c : Nat) : ((prodHi x y : Nat) : Int) + (sumHi (prodLo x y) c 0 : Nat) = (mulHi x y c : Nat) := by
  unfold prodHi sumHi prodLo mulHi
  have := Nat.div_add_mod (x * y) B
  have hB := B_pos
  generalize x * y = p at *
  have h2 : (p + c) / B = p / B + (p % B + c) / B := by
    conv => lhs; rw [← Nat.div_add_mod p B, Nat.add_assoc, Nat.mul_add_div hB]
  rw [h2]; simp
theorem mulLo_eq (x y c : Nat) : sumLo (prodLo x y) c 0 = mulLo x y c := by
  unfold sumLo prodLo mulLo; simp
theorem gmul_lt (b x y c : Nat) (hx : x < b) (hy : y < b) (hc : c < b) : x * y + c < b * b := by
  have h1 : x * (y + 1) ≤ x * b := Nat.mul_le_mul_left _ hy
  have h2 : (x + 1) * b ≤ b * b := Nat.mul_le_mul_right _ hx
  rw [Nat.mul_succ] at h1
  rw [Nat.succ_mul] at h2
  omega
theorem mulHi_lt {x y c : Nat} (hx : x < B) (hy : y < B) (hc : c < B) : mulHi x y c < B :=
  Nat.div_lt_of_lt_mul (gmul_lt B x y c hx hy hc)
theorem mulLo_lt (x y c : Nat) : mulLo x y c < B := Nat.mod_lt _ B_pos
theorem mul_split (x y c : Nat) : mulLo x y c + B * mulHi x y c = x * y + c := Nat.mod_add_div _ _
theorem wrapU {n : Nat} (h : n < B) : IntKind.u64.wrap (n : Int) = n := by
  unfold B at h
  exact IntWalk.u64_in _ (by omega)

theorem mulAddWWW_any (x y c : Nat) (w : World) (hx : x < B) (hy : y < B) (hc : c < B) :
    Calls Tryz.prog 306 #[.int .u64 x, .int .u64 y, .int .u64 c] w fun e w' =>
      e = .returned (.tuple #[.int .u64 (mulHi x y c), .int .u64 (mulLo x y c)]) ∧ w' = w := by
  have hw : IntKind.u64.wrap ((prodHi x y : Nat) + (sumHi (prodLo x y) c 0 : Nat)) = (mulHi x y c : Nat) := by
    rw [mulHi_eq]; exact wrapU (mulHi_lt hx hy hc)
  go_enter Tryz.func306, Tryz.ntmps306
  go_wp2_with (first | (go_at_call 294; refine (bitsMul_any x y _ hx hy).mono ?_; rintro e w' ⟨rfl, rfl⟩) | (go_at_call 277; refine (bitsAdd_any (prodLo x y) c 0 _ (by omega)).mono ?_; rintro e w' ⟨rfl, rfl⟩))
  go_ret2
  exact ⟨by rw [mulLo_eq]; rfl, rfl⟩

theorem mulAddVWW_loop (zb zo zc xb xo xc n : Nat) (X y r : Nat) (w : World) (hn : n < 1000000) (hX : Words w xb xo n X) (hz : Own w zb zo n)
    (hal : zb ≠ xb ∨ zo ≤ xo ∨ xo + n ≤ zo) (hy : y < B) (hr : r < B) :
    Calls Tryz.prog 269 #[.slice (some ⟨zb, zo, none⟩) n zc, .slice (some ⟨xb, xo, none⟩) n xc, .int .u64 y, .int .u64 r] w fun e w' =>
      ∃ Z c, e = .returned (.int .u64 (c : Nat)) ∧ w' = putW w zb zo n Z ∧ Z < B ^ n ∧ c < B ∧ Z + B ^ n * c = X * y + r := by
  go_enter Tryz.func269, Tryz.ntmps269
  go_wp2_with fail
  go_loopw [8, 19] (fun c i wr => ∃ k Z cc : Nat, k ≤ n ∧ i = .int .i64 k ∧ c = .int .u64 cc ∧ cc < B ∧ Z < B ^ k ∧ Aside (Z + B ^ k * cc = (X % B ^ k) * y + r) ∧ Aside (wr = putW w zb zo k Z)) (fun _ i _ => n - (intOf i).toNat)
  case atStart => exact ⟨0, 0, r, by omega, rfl, rfl, hr, by simp, ⟨by simp [Nat.mod_one]⟩, ⟨rfl⟩⟩
  case round =>
    obtain ⟨k, Z, cc, hk, rfl, rfl, hcc, hZ, hE, hW⟩ := hrel
    by_cases hlt : k < n
    · have hx : wr.cell? ⟨xb, xo + k, none⟩ = some (.int .u64 (wd X k : Nat)) := by
        rw [hW.out, cell_putW_out _ _ _ _ _ _ _ (by omega)]; exact hX.cell k hlt
      have hz1 : ∃ u, wr.cell? ⟨zb, zo + k, none⟩ = some u := by
        rw [hW.out]; exact cell_putW_some _ _ _ _ _ _ (let ⟨x, _, q⟩ := hz.cell k hlt; ⟨_, q⟩)
      obtain ⟨u, hu⟩ := hz1
      have hf : wr.frozen? ⟨zb, zo + k, none⟩ = false := by rw [hW.out, frozen_putW]; exact hz.free k hlt
      go_wp2_with (go_at_call 306; refine (mulAddWWW_any (wd X k) y cc _ (wd_lt _ _) hy hcc).mono ?_; rintro e w' ⟨rfl, rfl⟩)
      go_roundw
      case rel => exact ⟨k + 1, Z + B ^ k * mulLo (wd X k) y cc, mulHi (wd X k) y cc, by omega, by go_num, rfl, mulHi_lt (wd_lt _ _) hy hcc, snoc_lt hZ (mulLo_lt _ _ _), ⟨by have := mul_split (wd X k) y cc; have h2 := hE.out; rw [mod_succ, Nat.pow_succ]; grind⟩, ⟨by rw [hW.out]; exact putW_snoc _ _ _ _ _ _ hZ (mulLo_lt _ _ _)⟩⟩
      case measure => simp [intOf]; omega
    · go_wp2
      go_ret
      obtain rfl : k = n := by omega
      exact ⟨Z, cc, rfl, hW.out, hZ, hcc, by have := hE.out; rw [Nat.mod_eq_of_lt hX.lt] at this; exact this⟩

theorem gmul2_lt (k x y c d r q t p : Nat) (hx : x < k + 1) (hy : y < k + 1) (hc : c < k + 1) (hd : d < k + 1) (h : r + (k + 1) * q = x * y + c) (hs : t + (k + 1) * p = r + d + 0) : p + q < k + 1 := by
  have h1 : x * y ≤ k * k := Nat.mul_le_mul (by omega) (by omega)
  apply Nat.lt_of_not_le
  intro hge
  have h2 : (k + 1) * (k + 1) ≤ (k + 1) * (p + q) := Nat.mul_le_mul_left _ hge
  grind
theorem mul2_lt (x y c d : Nat) (hx : x < B) (hy : y < B) (hc : c < B) (hd : d < B) : sumHi (mulLo x y c) d 0 + mulHi x y c < B := by
  have h := mul_split x y c
  have hs : sumLo (mulLo x y c) d 0 + B * sumHi (mulLo x y c) d 0 = mulLo x y c + d + 0 := Nat.mod_add_div _ _
  have hB : B = (B - 1) + 1 := by have := B_pos; omega
  generalize sumHi (mulLo x y c) d 0 = p at *
  generalize mulHi x y c = q at *
  generalize mulLo x y c = r at *
  generalize sumLo r d 0 = t at *
  generalize B = b at *
  obtain ⟨k, rfl⟩ : ∃ k, b = k + 1 := ⟨b - 1, hB⟩
  exact gmul2_lt k x y c d r q t p hx hy hc hd h hs
theorem sum_split (x y c : Nat) : sumLo x y c + B * sumHi x y c = x + y + c := Nat.mod_add_div _ _
theorem sumLo_lt (x y c : Nat) : sumLo x y c < B := Nat.mod_lt _ B_pos
theorem sumHi_le {x y c : Nat} (hx : x < B) (hy : y < B) (hc : c ≤ 1) : sumHi x y c ≤ 1 := by
  unfold sumHi
  have : (x + y + c) / B < 2 := Nat.div_lt_of_lt_mul (by omega)
  omega

theorem addMulVVWW_loop (zb zo zc xb xo xc yb yo yc n : Nat) (X Y m r : Nat) (w : World) (hn : n < 1000000) (hX : Words w xb xo n X) (hY : Words w yb yo n Y) (hz : Own w zb zo n)
    (halx : zb ≠ xb ∨ zo ≤ xo ∨ xo + n ≤ zo) (haly : zb ≠ yb ∨ zo ≤ yo ∨ yo + n ≤ zo) (hm : m < B) (hr : r < B) :
    Calls Tryz.prog 319 #[.slice (some ⟨zb, zo, none⟩) n zc, .slice (some ⟨xb, xo, none⟩) n xc, .slice (some ⟨yb, yo, none⟩) n yc, .int .u64 m, .int .u64 r] w fun e w' =>
      ∃ Z c d, e = .returned (.int .u64 (c : Nat)) ∧ w' = (putW w zb zo n Z).drewN d ∧ Z < B ^ n ∧ c < B ∧ Z + B ^ n * c = X + Y * m + r := by
  go_enter Tryz.func319, Tryz.ntmps319
  go_wp2_with fail
  go_loopw [10, 32] (fun c i wr => ∃ k Z cc d : Nat, k ≤ n ∧ i = .int .i64 k ∧ c = .int .u64 cc ∧ cc < B ∧ Z < B ^ k ∧ Aside (Z + B ^ k * cc = X % B ^ k + (Y % B ^ k) * m + r) ∧ Aside (wr = (putW w zb zo k Z).drewN d)) (fun _ i _ => n - (intOf i).toNat)
  case atStart => exact ⟨0, 0, r, 0, by omega, rfl, rfl, hr, by simp, ⟨by simp [Nat.mod_one]⟩, ⟨rfl⟩⟩
  case round =>
    obtain ⟨k, Z, cc, d, hk, rfl, rfl, hcc, hZ, hE, hW⟩ := hrel
    by_cases hlt : k < n
    · have hx : wr.cell? ⟨xb, xo + k, none⟩ = some (.int .u64 (wd X k : Nat)) := by
        rw [hW.out]; exact (cell_putW_out _ _ _ _ _ _ _ (by omega)).trans (hX.cell k hlt)
      have hy : wr.cell? ⟨yb, yo + k, none⟩ = some (.int .u64 (wd Y k : Nat)) := by
        rw [hW.out]; exact (cell_putW_out _ _ _ _ _ _ _ (by omega)).trans (hY.cell k hlt)
      have hz1 : ∃ u, wr.cell? ⟨zb, zo + k, none⟩ = some u := by
        rw [hW.out]; exact cell_putW_some _ _ _ _ _ _ (let ⟨x, _, q⟩ := hz.cell k hlt; ⟨_, q⟩)
      obtain ⟨u, hu⟩ := hz1
      have hf : wr.frozen? ⟨zb, zo + k, none⟩ = false := by rw [hW.out]; exact (frozen_putW _ _ _ _ _ _).trans (hz.free k hlt)
      have hlo := mulLo_lt (wd Y k) m (wd X k)
      have h2 := mul2_lt (wd Y k) m (wd X k) cc (wd_lt _ _) hm (wd_lt _ _) hcc
      have hwrap : IntKind.u64.wrap ((sumHi (mulLo (wd Y k) m (wd X k)) cc 0 : Nat) + (mulHi (wd Y k) m (wd X k) : Nat)) = ((sumHi (mulLo (wd Y k) m (wd X k)) cc 0 + mulHi (wd Y k) m (wd X k) : Nat) : Int) := by
        rw [← Int.natCast_add]; exact wrapU h2
      go_wp2_with fail
      go_quiet ((go_at_call 306; exact Calls.quiet_of_same (mulAddWWW_any _ _ _ _ (wd_lt _ _) hm (wd_lt _ _))))
      go_wp2_with (go_at_call 277; refine (bitsAdd_any _ _ 0 _ (by omega)).mono ?_; rintro e w' ⟨rfl, rfl⟩)
      refine ⟨⟨k + 1, Z + B ^ k * sumLo (mulLo (wd Y k) m (wd X k)) cc 0, _, d + nq, by omega, rfl, rfl, h2, snoc_lt hZ (sumLo_lt _ _ _), ⟨?_⟩, put_step nq hW hZ (sumLo_lt _ _ _)⟩, by simp [intOf]; omega⟩
      have e1 := mul_split (wd Y k) m (wd X k)
      have e2 := sum_split (mulLo (wd Y k) m (wd X k)) cc 0
      have e3 := hE.out
      rw [mod_succ, mod_succ, Nat.pow_succ]
      generalize B ^ k = p at *
      generalize mulLo (wd Y k) m (wd X k) = r1 at *
      generalize mulHi (wd Y k) m (wd X k) = r2 at *
      generalize sumLo r1 cc 0 = r3 at *
      generalize sumHi r1 cc 0 = r4 at *
      generalize X % p = xx at *
      generalize Y % p = yy at *
      generalize wd X k = x1 at *
      generalize wd Y k = y1 at *
      clear hx hy hu hf hwrap hW hE h2 hlo hcc hX hY hz
      generalize B = b at *
      grind
    · go_wp2
      go_ret
      obtain rfl : k = n := by omega
      exact ⟨Z, cc, d, rfl, hW.out, hZ, hcc, by have := hE.out; rw [Nat.mod_eq_of_lt hX.lt, Nat.mod_eq_of_lt hY.lt] at this; exact this⟩
end Go.Proofs.YtgilnnipephfjaaGreatDoor
namespace Go.Proofs.YtgilnnipephfjaaGreatDoor
open Go.RowKit

/-- How many words a number takes. -/
def nlen (v : Nat) : Nat := if v = 0 then 0 else Nat.log2 v / 64 + 1
theorem B_two : B = 2 ^ 64 := by decide
theorem Bpow_two (n : Nat) : B ^ n = 2 ^ (64 * n) := by rw [B_two, ← Nat.pow_mul]
theorem lt_Bpow_iff (v m : Nat) : v < B ^ m ↔ nlen v ≤ m := by
  rw [Bpow_two]
  unfold nlen
  by_cases h : v = 0
  · subst h; simp; exact Nat.pow_pos (by omega)
  · rw [if_neg h, ← Nat.log2_lt h]; omega
theorem nlen_lt (v : Nat) : v < B ^ nlen v := (lt_Bpow_iff v _).2 (Nat.le_refl _)
theorem nlen_zero : nlen 0 = 0 := rfl
theorem nlen_pos {v : Nat} (h : v ≠ 0) : 0 < nlen v := by unfold nlen; rw [if_neg h]; omega
theorem nlen_eq_zero {v : Nat} : nlen v = 0 ↔ v = 0 := by
  constructor
  · intro h; apply Classical.byContradiction; intro k; have := nlen_pos k; omega
  · rintro rfl; rfl
theorem nlen_le {v m : Nat} (h : v < B ^ m) : nlen v ≤ m := (lt_Bpow_iff v m).1 h
theorem nlen_mono {u v : Nat} (h : u ≤ v) : nlen u ≤ nlen v := nlen_le (Nat.lt_of_le_of_lt h (nlen_lt v))
theorem Bpow_le {v m : Nat} (h : m < nlen v) : B ^ m ≤ v := by
  apply Nat.le_of_not_lt; intro k; have := nlen_le k; omega
theorem nlen_uniq {v m : Nat} (h : v < B ^ m) (k : m = 0 ∨ B ^ (m - 1) ≤ v) : nlen v = m := by
  apply Nat.le_antisymm (nlen_le h)
  rcases k with rfl | k
  · omega
  · apply Nat.le_of_not_lt
    intro hlt
    have := (lt_Bpow_iff v (m - 1)).2 (by omega)
    omega
/-- The highest word of n is 0 just where n - 1 words serve. -/
theorem top_zero {v k : Nat} (h : v < B ^ (k + 1)) : wd v k = 0 ↔ v < B ^ k := by
  unfold wd
  have hb := Bpow_pos k
  rw [Nat.pow_succ] at h
  rw [Nat.mod_eq_of_lt (Nat.div_lt_of_lt_mul h), Nat.div_eq_zero_iff]
  omega

/-- n words at a (nothing, where n is 0) are those of v. -/
def WordsA (w : World) (a : Option Addr) (n v : Nat) : Prop := v < B ^ n ∧ (n = 0 ∨ ∃ b o, a = some ⟨b, o, none⟩ ∧ Words w b o n v)
theorem Words.a {w : World} {b o n v : Nat} (h : Words w b o n v) : WordsA w (some ⟨b, o, none⟩) n v := ⟨h.lt, .inr ⟨b, o, rfl, h⟩⟩

theorem norm_some (b o n c v : Nat) (w : World) (hn : n < 1000000) (hc : n ≤ c) (h : Words w b o n v) :
    Calls Tryz.prog 190 #[.slice (some ⟨b, o, none⟩) n c] w fun e w' => e = .returned (.slice (some ⟨b, o, none⟩) (nlen v) c) ∧ w' = w := by
  go_enter Tryz.func190, Tryz.ntmps190
  go_wp2_with fail
  go_loop [3] (fun i => ∃ k : Nat, k ≤ n ∧ i = .int .i64 k ∧ v < B ^ k) (fun i => (intOf i).toNat)
  case atStart => exact ⟨n, by omega, rfl, h.lt⟩
  case round =>
    obtain ⟨k, hk, rfl, hv⟩ := hrel
    by_cases h0 : 0 < k
    · obtain ⟨k, rfl⟩ : ∃ m, k = m + 1 := ⟨k - 1, by omega⟩
      have hx : w.cell? ⟨b, o + k, none⟩ = some (.int .u64 (wd v k : Nat)) := h.cell k (by omega)
      have ht := top_zero hv
      by_cases hz : wd v k = 0
      · have hz' : ((wd v k : Nat) : Int) == 0 := by simp [hz]
        go_wp2
        exact ⟨⟨k, by omega, rfl, ht.1 hz⟩, by simp [intOf]⟩
      · have hz' : (((wd v k : Nat) : Int) == 0) = false := by simp [hz]
        go_wp2
        go_ret
        exact ⟨by rw [nlen_uniq hv (.inr (Nat.le_of_not_lt fun q => hz (ht.2 q)))]; rfl, rfl⟩
    · obtain rfl : k = 0 := by omega
      go_wp2
      go_ret
      exact ⟨by rw [nlen_uniq hv (.inl rfl)]; rfl, rfl⟩

theorem norm_nil (c : Nat) (a : Option Addr) (w : World) :
    Calls Tryz.prog 190 #[.slice a 0 c] w fun e w' => e = .returned (.slice a 0 c) ∧ w' = w := by
  go_enter Tryz.func190, Tryz.ntmps190
  go_wp2_with fail
  go_loop [3] (fun i => i = .int .i64 0) (fun i => (intOf i).toNat)
  case atStart => rfl
  case round =>
    obtain rfl := hrel
    go_wp2
    go_ret
    exact ⟨rfl, rfl⟩

/-- c words at a may be written (nothing, where a is nil). -/
def Reg (w : World) (a : Option Addr) (c : Nat) : Prop := c < 1000000 ∧ ((a = none ∧ c = 0) ∨ ∃ b o, a = some ⟨b, o, none⟩ ∧ Own w b o c)
/-- The cells of c words at a. -/
def foot (a : Option Addr) (c : Nat) (b o : Nat) : Prop := ∃ b' o', a = some ⟨b', o', none⟩ ∧ b = b' ∧ o' ≤ o ∧ o < o' + c

theorem infoW : (Tryz.prog.info? 217).map (fun i => (i.zero, i.size, i.bytes)) = some (some (.int .u64 0), 1, 8) := by kernel_rfl
theorem run_makeW (n c : Nat) (hn : n ≤ c) (hc : c < 1000000) (w : World) :
    (Instr.makeSlice 65 (.int .i64 (n : Int)) (.int .i64 (c : Int))).run Tryz.prog w = .ok (.slice (some ⟨w.heap.size, 0, none⟩) n c) (w.alloc (.cells (madeCells #[.int .u64 0] c) 217)) := by
  obtain ⟨i, hi, hzz⟩ := Option.map_eq_some_iff.1 infoW
  simp only [Prod.mk.injEq] at hzz
  obtain ⟨hz, hs, hb⟩ := hzz
  have h := run_make (P := Tryz.prog) w 65 217 i _ Tryz.underlying65 hi hz .i64 .i64 n c (by omega) (by omega) (by rw [hb]; omega) (by omega)
  simp only [Int.toNat_natCast, hs, Nat.mul_one] at h
  exact h
theorem Own_made (c t : Nat) (w : World) (hG : NG ≤ w.heap.size) : Own (w.alloc (.cells (madeCells #[.int .u64 0] c) t)) w.heap.size 0 c := by
  refine ⟨fun i hi => ⟨0, B_pos, ?_⟩, ⟨hG, t, kind_alloc_new _ _ _ _⟩⟩
  rw [Nat.zero_add, World.cell?_alloc_new, ← Array.getElem?_toList, toList_madeCells_one]
  simp [hi]

theorem make_any (a : Option Addr) (zl zc n : Nat) (w : World) (hG : NG ≤ w.heap.size) (hz : Reg w a zc) (h0 : 0 < n) (hn : n < 900000) :
    Calls Tryz.prog 188 #[.slice a zl zc, .int .i64 n] w fun e w' => ∃ b o c, e = .returned (.slice (some ⟨b, o, none⟩) n c) ∧ n ≤ c ∧ c < 1000000 ∧ Own w' b o c ∧
      Fr (fun _ _ => False) w w' ∧ ((a = some ⟨b, o, none⟩ ∧ c = zc) ∨ w.heap.size ≤ b) := by
  obtain ⟨hc, hz⟩ := hz
  by_cases hle : n ≤ zc
  · rcases hz with ⟨_, rfl⟩ | ⟨b, o, rfl, hown⟩
    · omega
    · go_enter Tryz.func188, Tryz.ntmps188
      go_wp2
      go_ret
      refine ⟨b, o, zc, ?_, hle, hc, hown, Fr.refl _ _, .inl ⟨rfl, rfl⟩⟩
      rfl
  · by_cases h1 : n = 1
    · subst h1
      have hmk := run_makeW 1 1 (by omega) (by omega)
      have h1 : ((1 : Nat) : Int) = 1 := rfl
      simp only [h1] at hmk
      go_enter Tryz.func188, Tryz.ntmps188
      go_wp2
      go_ret
      exact ⟨w.heap.size, 0, 1, rfl, by omega, by omega, Own_made _ _ _ hG, (Fr.refl _ _).alloc _, .inr (Nat.le_refl _)⟩
    · have h1' : ((n : Int) == 1) = false := by simp; omega
      have hmk := run_makeW n (n + 4) (by omega) (by omega)
      have h4 : ((n + 4 : Nat) : Int) = (n : Int) + 4 := rfl
      simp only [h4] at hmk
      go_enter Tryz.func188, Tryz.ntmps188
      go_wp2
      go_ret
      exact ⟨w.heap.size, 0, n + 4, rfl, by omega, by omega, Own_made _ _ _ hG, (Fr.refl _ _).alloc _, .inr (Nat.le_refl _)⟩

theorem make_zero (a : Option Addr) (zl zc : Nat) (w : World) (hc : zc < 1000000) :
    Calls Tryz.prog 188 #[.slice a zl zc, .int .i64 0] w fun e w' => e = .returned (.slice a 0 zc) ∧ w' = w := by
  go_enter Tryz.func188, Tryz.ntmps188
  go_wp2
  go_ret
  exact ⟨rfl, rfl⟩

/-- A number in a slice of words without noughts ahead; its array may be written. -/
structure Nt (w : World) (a : Option Addr) (c X : Nat) : Prop where
  reg : Reg w a c
  len : nlen X ≤ c
  words : WordsA w a (nlen X) X
/-- Where a result lies: in the place that was given, or in a new one. -/
def Out (w : World) (a : Option Addr) (c : Nat) (a' : Option Addr) (c' : Nat) : Prop := (a' = a ∧ c' = c) ∨ ∃ b o, a' = some ⟨b, o, none⟩ ∧ w.heap.size ≤ b

theorem Nt.zero {w : World} {a : Option Addr} {c : Nat} (h : Reg w a c) : Nt w a c 0 := ⟨h, by rw [nlen_zero]; omega, ⟨by simp [nlen_zero], .inl rfl⟩⟩
theorem Nt.mk' {w : World} {b o c X n : Nat} (hc : c < 1000000) (hn : n ≤ c) (ho : Own w b o c) (hw : Words w b o n X) : Nt w (some ⟨b, o, none⟩) c X := by
  have := nlen_le hw.lt
  refine ⟨⟨hc, .inr ⟨b, o, rfl, ho⟩⟩, by omega, nlen_lt X, .inr ⟨b, o, rfl, nlen_lt X, fun i hi => hw.cell i (by omega)⟩⟩
/-- A number above 0 lies somewhere. -/
theorem Nt.pos {w : World} {a : Option Addr} {c X : Nat} (h : Nt w a c X) (hx : X ≠ 0) : ∃ b o, a = some ⟨b, o, none⟩ ∧ Own w b o c ∧ Words w b o (nlen X) X := by
  have hp := nlen_pos hx
  rcases h.words.2 with h0 | ⟨b, o, rfl, hw⟩
  · omega
  · rcases h.reg.2 with ⟨k, _⟩ | ⟨b', o', e, ho⟩
    · cases k
    · cases e; exact ⟨b, o, rfl, ho, hw⟩
theorem Fr.reg {S : Nat → Nat → Prop} {w w' : World} {a : Option Addr} {c : Nat} (h : Fr S w w') (hr : Reg w a c) (hs : ∀ b o, foot a c b o → ¬ S b o) : Reg w' a c := by
  refine ⟨hr.1, ?_⟩
  rcases hr.2 with k | ⟨b, o, rfl, ho⟩
  · exact .inl k
  · exact .inr ⟨b, o, rfl, h.own ho fun i hi => hs b (o + i) ⟨b, o, rfl, rfl, by omega, by omega⟩⟩
theorem Fr.nt {S : Nat → Nat → Prop} {w w' : World} {a : Option Addr} {c X : Nat} (h : Fr S w w') (hn : Nt w a c X) (hs : ∀ b o, foot a c b o → ¬ S b o) : Nt w' a c X := by
  refine ⟨h.reg hn.reg hs, hn.len, hn.words.1, ?_⟩
  rcases hn.words.2 with k | ⟨b, o, rfl, hw⟩
  · exact .inl k
  · exact .inr ⟨b, o, rfl, h.words hw fun i hi => hs b (o + i) ⟨b, o, rfl, rfl, by omega, by have := hn.len; omega⟩⟩
theorem nlen_word {x : Nat} (h0 : x ≠ 0) (hx : x < B) : nlen x = 1 := nlen_uniq (by simpa using hx) (.inr (by simp; omega))
theorem wd_word {x : Nat} (hx : x < B) : wd x 0 = x := by simp [wd, Nat.mod_eq_of_lt hx]

theorem setWord_any (a : Option Addr) (zl zc x : Nat) (w : World) (hG : NG ≤ w.heap.size) (hz : Reg w a zc) (hx : x < B) :
    Calls Tryz.prog 204 #[.slice a zl zc, .int .u64 x] w fun e w' => ∃ a' c', e = .returned (.slice a' (nlen x) c') ∧ Nt w' a' c' x ∧
      Fr (foot a zc) w w' ∧ Out w a zc a' c' := by
  by_cases h0 : x = 0
  · subst h0
    have hz1 := hz.1
    go_enter Tryz.func204, Tryz.ntmps204
    go_wp2
    go_ret
    exact ⟨a, zc, rfl, Nt.zero hz, Fr.refl _ _, .inl ⟨rfl, rfl⟩⟩
  · have h0' : ((x : Int) == 0) = false := by simp [h0]
    go_enter Tryz.func204, Tryz.ntmps204
    go_wp2_with fail
    refine (make_any a zl zc 1 _ hG hz (by omega) (by omega)).mono ?_
    rintro e w1 ⟨b, o, c, rfl, hnc, hc, hown, hfr, hout⟩
    obtain ⟨y, _, hcell⟩ := hown.cell 0 (by omega)
    have hfree := hown.free 0 (by omega)
    simp only [Nat.add_zero] at hcell hfree
    go_wp2_with fail
    go_ret
    refine ⟨some ⟨b, o, none⟩, c, by rw [nlen_word h0 hx]; rfl, ?_, ?_, ?_⟩
    · have e : w1.setCell ⟨b, o, none⟩ (.int .u64 (x : Nat)) = putW w1 b o 1 x := by simp [putW, wd_word hx]
      rw [e]
      exact Nt.mk' hc hnc (hown.put _ _ _ _) (Words_putW _ _ _ _ _ (by simpa using hx) (hown.le (by omega)))
    · rcases hout with ⟨rfl, rfl⟩ | hnew
      · exact (hfr.mono (fun _ _ _ k => k.elim)).setCell b o _ fun _ => ⟨b, o, rfl, rfl, by omega, by omega⟩
      · exact (hfr.mono (fun _ _ _ k => k.elim)).setCell b o _ fun k => by omega
    · rcases hout with ⟨rfl, rfl⟩ | hnew
      · exact .inl ⟨rfl, rfl⟩
      · exact .inr ⟨b, o, rfl, hnew⟩

theorem run_storeW (b o v : Nat) (w : World) : ∀ (n i : Nat), Own w b o (i + n) →
    (storeCells ⟨b, o, none⟩ ((List.range' i n).map fun j => Value.int .u64 (wd v j : Nat)) i).run Tryz.prog (putW w b o i v) = .ok () (putW w b o (i + n) v) := by
  intro n
  induction n with
  | zero => intro i _; rfl
  | succ n ih =>
    intro i hown
    rw [List.range'_succ, List.map_cons]
    have hadd : (⟨b, o, none⟩ : Addr).add i = ⟨b, o + i, none⟩ := by unfold Addr.add; split <;> simp_all
    obtain ⟨x, _, hx⟩ := (hown.put b o i v).cell i (by omega)
    have hf := (hown.put b o i v).free i (by omega)
    have := ih (i + 1) (by rwa [show i + 1 + n = i + (n + 1) from by omega])
    simp only [storeCells, hadd, Go.store, Sem.run_bind, Sem.run, hx, hf, Result.andThen]
    simpa [putW, show i + 1 + n = i + (n + 1) from by omega] using this
end Go.Proofs.YtgilnnipephfjaaGreatDoor
