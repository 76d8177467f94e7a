/- divLarge: plain laws of the scaling. -/
import Derived.Test.YtgilnnipephfjaaGreatDoorM19DivB2
set_option linter.unusedSimpArgs false
set_option linter.unusedVariables false
namespace Go.Proofs.YtgilnnipephfjaaGreatDoor
open Go.RowKit

/-- How far a divisor is moved up. -/
def shf (Y : Nat) : Nat := 64 - bl (wd Y (nlen Y - 1))
theorem shf_ok {Y : Nat} (h0 : Y ≠ 0) : wd Y (nlen Y - 1) ≠ 0 ∧ shf Y < 64 ∧ Y * 2 ^ shf Y < B ^ nlen Y ∧ B ≤ 2 * wd (Y * 2 ^ shf Y) (nlen Y - 1) := by
  have hn := nlen_pos h0
  have hlt := nlen_lt Y
  have hle : B ^ (nlen Y - 1) ≤ Y := Bpow_le (by omega)
  unfold shf
  obtain ⟨m, hm⟩ : ∃ m, nlen Y = m + 1 := ⟨nlen Y - 1, by omega⟩
  rw [hm] at hlt hle hn ⊢
  simp only [Nat.add_sub_cancel] at hle ⊢
  have hd : Y / B ^ m = wd Y m := div_word hlt
  have hp := Bpow_pos m
  have hy0 : wd Y m ≠ 0 := by rw [← hd]; have := Nat.div_pos hle hp; omega
  have hyl := wd_lt Y m
  have e1 : wd Y m * B ^ m ≤ Y := by rw [← hd]; exact Nat.div_mul_le_self _ _
  have e2 : Y < (wd Y m + 1) * B ^ m := by rw [← hd, Nat.mul_comm]; exact Nat.lt_mul_div_succ Y hp
  have hg := up_ge hyl hy0
  unfold up at hg
  have hb := bl_le hyl
  have hbp := bl_pos hy0
  have h2 := (lt_two_iff (wd Y m) (bl (wd Y m))).2 (Nat.le_refl _)
  obtain ⟨s, hs⟩ : ∃ s, 64 - bl (wd Y m) = s := ⟨_, rfl⟩
  have hB : B = 2 ^ bl (wd Y m) * 2 ^ s := by rw [← Nat.pow_add, B_two]; congr 1; omega
  simp only [hs] at hg ⊢
  have h3 : (wd Y m + 1) * 2 ^ s ≤ B := by rw [hB]; exact Nat.mul_le_mul_right _ h2
  have hN : Y * 2 ^ s < B ^ (m + 1) := by
    have g1 : Y * 2 ^ s < (wd Y m + 1) * B ^ m * 2 ^ s := Nat.mul_lt_mul_of_pos_right e2 (Nat.pow_pos (by decide))
    have g2 : (wd Y m + 1) * 2 ^ s * B ^ m ≤ B * B ^ m := Nat.mul_le_mul_right _ h3
    rw [Nat.pow_succ]
    have g3 : (wd Y m + 1) * B ^ m * 2 ^ s = (wd Y m + 1) * 2 ^ s * B ^ m := by grind
    rw [Nat.mul_comm (B ^ m) B]
    omega
  refine ⟨hy0, by omega, hN, ?_⟩
  rw [← div_word hN]
  have : wd Y m * 2 ^ s ≤ Y * 2 ^ s / B ^ m := by
    rw [Nat.le_div_iff_mul_le hp]
    have := Nat.mul_le_mul_right (2 ^ s) e1
    have e : wd Y m * 2 ^ s * B ^ m = wd Y m * B ^ m * 2 ^ s := by grind
    omega
  omega
theorem shf_top {X Y m : Nat} (hX : X < B ^ (nlen Y - 1 + m)) (h0 : Y ≠ 0) (s : Nat) : X * 2 ^ s < Y * 2 ^ s * B ^ m := by
  have hn := nlen_pos h0
  have hle : B ^ (nlen Y - 1) ≤ Y := Bpow_le (by omega)
  rw [Nat.pow_add] at hX
  have h1 : B ^ (nlen Y - 1) * B ^ m ≤ Y * B ^ m := Nat.mul_le_mul_right _ hle
  have h2 : X * 2 ^ s < Y * B ^ m * 2 ^ s := Nat.mul_lt_mul_of_pos_right (by omega) (Nat.pow_pos (by decide))
  have h3 : Y * 2 ^ s * B ^ m = Y * B ^ m * 2 ^ s := by grind
  omega
theorem shf_quo (X Y s : Nat) : X * 2 ^ s / (Y * 2 ^ s) = X / Y := Nat.mul_div_mul_right _ _ (Nat.pow_pos (by decide))
theorem shf_rem (X Y s : Nat) : X * 2 ^ s % (Y * 2 ^ s) = X % Y * 2 ^ s := Nat.mul_mod_mul_right _ _ _
theorem shf_fit {X n s : Nat} (hX : X < B ^ n) (hs : s < 64) : X * 2 ^ s < B ^ (n + 1) := by
  rw [Nat.pow_succ]
  have : 2 ^ s ≤ B := by rw [B_two]; exact Nat.pow_le_pow_right (by decide) (by omega)
  exact Nat.lt_of_lt_of_le (Nat.mul_lt_mul_of_pos_right hX (Nat.pow_pos (by decide))) (Nat.mul_le_mul_left _ this)

/-- No cell of n at (b, o) is free in the stack. -/
def NF (w : World) (sb so k b o n : Nat) : Prop := ∀ i, i < n → ¬ sfree w sb so k b (o + i)
/-- What is made by make: the place that was given, or a new block. -/
def Loc (w : World) (a : Option Addr) (c b o c' : Nat) : Prop := (a = some ⟨b, o, none⟩ ∧ c' = c) ∨ w.heap.size ≤ b
theorem Loc.nf {w : World} {sb so k : Nat} {a : Option Addr} {c b o c' : Nat} (h : Loc w a c b o c') (hs : Stk w sb so k) (j : Nat) (ha : ∀ x y, foot a c x y → ¬ sfree w sb so j x y) : NF w sb so j b o c' := by
  intro i hi q
  rcases h with ⟨rfl, rfl⟩ | h
  · exact ha b (o + i) ((foot_some _ _ _ _ _).2 ⟨rfl, by omega, by omega⟩) q
  · have := hs.free_lt q; omega
theorem Loc.out {w w' : World} {a : Option Addr} {c b o c' : Nat} (h : Loc w' a c b o c') (hs : w.heap.size ≤ w'.heap.size) : Out w a c (some ⟨b, o, none⟩) c' := by
  rcases h with ⟨rfl, rfl⟩ | h
  · exact .inl ⟨rfl, rfl⟩
  · exact .inr ⟨b, o, rfl, by omega⟩
theorem Loc.foot {w w' : World} {a : Option Addr} {c b o c' : Nat} (h : Loc w' a c b o c') (hs : w.heap.size ≤ w'.heap.size) (x y : Nat) (hx : x < w.heap.size) (hf : x = b ∧ o ≤ y ∧ y < o + c') : foot a c x y := by
  rcases h with ⟨rfl, rfl⟩ | h
  · exact (foot_some _ _ _ _ _).2 hf
  · omega
theorem nf_iff {w w' : World} {sb so k b o n : Nat} (h : NF w sb so k b o n) (hi : ∀ j x y, sfree w' sb so j x y ↔ sfree w sb so j x y) : NF w' sb so k b o n := fun i hi' q => h i hi' ((hi _ _ _).1 q)
theorem NF.le {w : World} {sb so k j b o n : Nat} (h : NF w sb so k b o n) (hj : k ≤ j) : NF w sb so j b o n := fun i hi q => h i hi (q.le hj)
/-- What was not free before, and is no newer, is not free later. -/
theorem NF.sub {w w' : World} {sb so k j b o n : Nat} (h : NF w sb so j b o n) (hj : j ≤ k) (hs : SSub w w' sb so k) (hb : b < w.heap.size) : NF w' sb so j b o n := fun i hi q => by
  rcases hs j b (o + i) hj q with q | q
  · exact h i hi q
  · omega
end Go.Proofs.YtgilnnipephfjaaGreatDoor
