/- Plain laws of the comparison of two finite decimals. A number scaled by a power of ten, as Decimal.Cmp does it. Decimal.Cmp of two finite decimals. Decimal.Cmp of two finite decimals of different exponents. Decimal.Cmp of two finite decimals of as many places. -/
import Derived.Test.YtgilnnipephfjaaGreatDoorM26Dec3
import Derived.Test.YtgilnnipephfjaaGreatDoorW42Im1
import Derived.Test.YtgilnnipephfjaaGreatDoorW38Md1
set_option linter.unusedSimpArgs false
set_option linter.unusedVariables false
namespace Go.Proofs.YtgilnnipephfjaaGreatDoor

def zv (n : Bool) (X : Nat) : Int := if n then -(X : Int) else X
def zc (a b : Int) : Int := if a < b then -1 else if a = b then 0 else 1
/-- Which of two finite decimals is the greater one. -/
def dcm (n : Bool) (e : Int) (X : Nat) (n' : Bool) (e' : Int) (X' : Nat) : Int :=
  zc (zv n (X * 10 ^ (e - min e e').toNat)) (zv n' (X' * 10 ^ (e' - min e e').toNat))
/-- The sign of a comparison turned round below 0. -/
def flip (n : Bool) (z : Int) : Int := if n then -z else z
theorem zc_same (n : Bool) (A C : Nat) : zc (zv n A) (zv n C) = flip n (sg A C) := by
  unfold zc zv flip sg
  cases n <;> simp <;> (repeat' split) <;> omega
theorem dsgn_fin (n : Bool) (X : Nat) : dsgn 0 n X = if X = 0 then 0 else if n then -1 else 1 := by unfold dsgn; simp
theorem zv_sign (n : Bool) (X k : Nat) : (dsgn 0 n X = 0 ∧ zv n (X * 10 ^ k) = 0) ∨ (dsgn 0 n X = -1 ∧ zv n (X * 10 ^ k) < 0) ∨ (dsgn 0 n X = 1 ∧ 0 < zv n (X * 10 ^ k)) := by
  rw [dsgn_fin]
  by_cases h : X = 0
  · subst h; left; simp [zv]
  · have : 0 < X * 10 ^ k := Nat.mul_pos (Nat.pos_of_ne_zero h) (Nat.pow_pos (by omega))
    rw [if_neg h]
    generalize X * 10 ^ k = L at *
    unfold zv
    cases n
    · right; right; simp; omega
    · right; left; simp; omega
theorem dcm_lt {n n' : Bool} {e e' : Int} {X X' : Nat} (h : dsgn 0 n X < dsgn 0 n' X') : dcm n e X n' e' X' = -1 := by
  unfold dcm zc
  rcases zv_sign n X (e - min e e').toNat with ⟨a, b⟩ | ⟨a, b⟩ | ⟨a, b⟩ <;> rcases zv_sign n' X' (e' - min e e').toNat with ⟨c, d⟩ | ⟨c, d⟩ | ⟨c, d⟩ <;> rw [a, c] at h <;> first | omega | (rw [if_pos (by omega)])
theorem dcm_gt {n n' : Bool} {e e' : Int} {X X' : Nat} (h : dsgn 0 n' X' < dsgn 0 n X) : dcm n e X n' e' X' = 1 := by
  unfold dcm zc
  rcases zv_sign n X (e - min e e').toNat with ⟨a, b⟩ | ⟨a, b⟩ | ⟨a, b⟩ <;> rcases zv_sign n' X' (e' - min e e').toNat with ⟨c, d⟩ | ⟨c, d⟩ | ⟨c, d⟩ <;> rw [a, c] at h <;> first | omega | (rw [if_neg (by omega), if_neg (by omega)])
theorem dcm_00 {n n' : Bool} {e e' : Int} : dcm n e 0 n' e' 0 = 0 := by
  unfold dcm zc zv
  simp
theorem dcm_same {n : Bool} {e : Int} {X X' : Nat} : dcm n e X n e X' = flip n (sg X X') := by
  unfold dcm
  rw [zc_same]
  simp
theorem dcm_up {n : Bool} {e e' : Int} {X X' k : Nat} (h : e' - e = (k : Int)) : dcm n e X n e' X' = flip n (sg X (X' * 10 ^ k)) := by
  unfold dcm
  rw [zc_same, show (e - min e e').toNat = 0 by omega, show (e' - min e e').toNat = k by omega]
  simp
theorem dcm_dn {n : Bool} {e e' : Int} {X X' k : Nat} (h : e - e' = (k : Int)) : dcm n e X n e' X' = flip n (sg (X * 10 ^ k) X') := by
  unfold dcm
  rw [zc_same, show (e - min e e').toNat = k by omega, show (e' - min e e').toNat = 0 by omega]
  simp
theorem pow_dig {X k d : Nat} (h0 : X ≠ 0) (hd : ndig X + k = d) : 10 ^ (d - 1) ≤ X * 10 ^ k ∧ X * 10 ^ k < 10 ^ d := by
  have h1 := ndig_le h0
  have h2 := lt_ndig X
  have hp : 1 ≤ ndig X := ndig_pos X
  have hk : 0 < 10 ^ k := Nat.pow_pos (by omega)
  constructor
  · rw [show d - 1 = (ndig X - 1) + k by omega, Nat.pow_add]
    exact Nat.mul_le_mul_right _ h1
  · rw [← hd, Nat.pow_add]
    exact Nat.mul_lt_mul_of_pos_right h2 hk
theorem dig_lt {X Y k l d : Nat} (hX : X ≠ 0) (hY : Y ≠ 0) (h : ndig X + k < ndig Y + l) : X * 10 ^ k < Y * 10 ^ l := by
  have h1 := (pow_dig hX rfl (k := k)).2
  have h2 := (pow_dig hY rfl (k := l)).1
  have h3 : 10 ^ (ndig X + k) ≤ 10 ^ (ndig Y + l - 1) := Nat.pow_le_pow_right (by omega) (by omega)
  omega
theorem sg_lt0 {X Y : Nat} (h : X < Y) : sg X Y = -1 := by unfold sg; rw [if_pos h]
theorem sg_gt0 {X Y : Nat} (h : Y < X) : sg X Y = 1 := by unfold sg; rw [if_neg (by omega), if_neg (by omega)]
theorem dcm_few {n : Bool} {e e' : Int} {X X' : Nat} (hX : X ≠ 0) (hX' : X' ≠ 0) (h : (ndig X : Int) + e < (ndig X' : Int) + e') : dcm n e X n e' X' = flip n (-1) := by
  unfold dcm
  rw [zc_same, sg_lt0 (dig_lt (d := 0) hX hX' (by omega))]
theorem dcm_many {n : Bool} {e e' : Int} {X X' : Nat} (hX : X ≠ 0) (hX' : X' ≠ 0) (h : (ndig X' : Int) + e' < (ndig X : Int) + e) : dcm n e X n e' X' = flip n 1 := by
  unfold dcm
  rw [zc_same, sg_gt0 (dig_lt (d := 0) hX' hX (by omega))]
theorem dsgn_same {n n' : Bool} {X X' : Nat} (h : dsgn 0 n X = dsgn 0 n' X') : (X = 0 ∧ X' = 0) ∨ (X ≠ 0 ∧ X' ≠ 0 ∧ n = n') := by
  rw [dsgn_fin, dsgn_fin] at h
  by_cases h0 : X = 0 <;> by_cases h1 : X' = 0 <;> simp [h0, h1] at h ⊢ <;> cases n <;> cases n' <;> simp at h ⊢
end Go.Proofs.YtgilnnipephfjaaGreatDoor
namespace Go.Proofs.YtgilnnipephfjaaGreatDoor
open Go.RowKit

theorem ndig_mul_pow {X k : Nat} (h0 : X ≠ 0) : ndig (X * 10 ^ k) = ndig X + k := by
  have h := pow_dig (k := k) h0 rfl
  have h1 := ndig_pos X
  have := ndig_eq_of (X := X * 10 ^ k) (n := ndig X + k - 1) h.1 (by rw [show ndig X + k - 1 + 1 = ndig X + k by omega]; exact h.2)
  omega
theorem scale_chain {w : World} (g : Gl w) {b o : Nat} {a : Option Addr} {c X k : Nat} (h : IA w b o false a c X) (hk : k ≤ 420) (hn : nlen X < 1000) :
    Calls Tryz.prog 101 #[.pointer (some ⟨w.heap.size, 0, none⟩), .pointer (some ⟨b, o, none⟩)] ((w.alloc (.cells #[.bool false, .slice none 0 0] 69)).alloc (.cells #[.bool false, .slice none 0 0] 69)) fun ex w4 => ∃ v, ex = .returned v ∧ Aside (Fr (fun _ _ => False) w w4) ∧
      Hid (∀ wy, Fr (fun _ _ => False) w4 wy → Calls Tryz.prog 96 #[.int .i64 (k : Nat), .pointer (some ⟨w.heap.size + 1, 0, none⟩)] wy fun ex w5 => ex = .returned (.pointer (some ⟨w.heap.size + 1, 0, none⟩)) ∧ Aside (Fr (fun _ _ => False) w w5) ∧
      Hid (∀ wz, Fr (fun _ _ => False) w5 wz → Calls Tryz.prog 102 #[.pointer (some ⟨w.heap.size, 0, none⟩), .pointer (some ⟨w.heap.size, 0, none⟩), .pointer (some ⟨w.heap.size + 1, 0, none⟩)] wz fun ex w6 => ∃ v, ex = .returned v ∧
        Aside (∃ a6 c6, IA w6 w.heap.size 0 false a6 c6 (X * 10 ^ k) ∧ Fr (fun _ _ => False) w w6))) := by
  have hG := g.size
  obtain ⟨w1, hw1⟩ : ∃ x, w.alloc (.cells #[.bool false, .slice none 0 0] 69) = x := ⟨_, rfl⟩
  obtain ⟨w2, hw2⟩ : ∃ x, w1.alloc (.cells #[.bool false, .slice none 0 0] 69) = x := ⟨_, rfl⟩
  have f1 : Fr (fun _ _ => False) w w1 := by rw [← hw1]; exact (Fr.refl _ w).alloc _
  have f2 : Fr (fun _ _ => False) w1 w2 := by rw [← hw2]; exact (Fr.refl _ w1).alloc _
  have s1 : w1.heap.size = w.heap.size + 1 := by rw [← hw1]; simp
  have s2 : w2.heap.size = w.heap.size + 2 := by rw [← hw2]; simp; omega
  have hz := IA.new (w := w) hG 69
  have ht := IA.new (w := w1) (by omega) 69
  rw [hw1] at hz
  rw [hw2, s1] at ht
  have hz2 := hz.fr f2 (fun _ _ _ q => q)
  have hx2 := h.fr (f1.trans f2) (fun _ _ _ q => q)
  have hbl := h.blk.lt
  rw [hw1, hw2]
  have only : ∀ {p x y : Nat}, ifoot p 0 none 0 x y → x = p := fun q => by
    rcases q with ⟨q, _⟩ | q
    · exact q
    · exact absurd q (foot_none _ _ _)
  refine (bSet_other (w := w2) (by omega) hz2 hx2 (.inl (by omega)) (by omega)).mono ?_
  rintro ex w4 ⟨a4, c4, rfl, k1, k2, k3⟩
  have F4 : Fr (fun _ _ => False) w w4 := (f1.trans f2).trans' k2 (fun _ _ _ q => q) (fun x y hx q => by have := only q; omega)
  have s4 := k2.size
  refine ⟨_, rfl, ⟨F4⟩, Lib.hid (fun wy fy => ?_)⟩
  have ht4 := (ht.fr k2 (fun x y q1 q2 => by have := only q1; have := only q2; omega)).fr fy (fun _ _ _ q => q)
  have g4 := g.fr (F4.trans fy) (fun _ _ q => q.elim)
  refine (tableExp10_any k hk g4 ht4).mono ?_
  rintro ex w5 ⟨a5, c5, rfl, t1, t2, t3⟩
  have F5 : Fr (fun _ _ => False) w w5 := (F4.trans fy).trans' t2 (fun _ _ _ q => q) (fun x y hx q => by have := only q; omega)
  have sy := fy.size
  have far4 : ∀ x y, foot a4 c4 x y → w2.heap.size ≤ x := k3.above (N := w2.heap.size) (Nat.le_refl _) (fun x y q => absurd q (foot_none _ _ _))
  have hz5 := (k1.fr fy (fun _ _ _ q => q)).fr t2 (fun x y q1 q2 => by
    have e2 := only q2
    rcases q1 with ⟨q1, _⟩ | q1
    · omega
    · have := far4 x y q1; omega)
  refine ⟨rfl, ⟨F5⟩, Lib.hid (fun wz fz => ?_)⟩
  have hz6 := hz5.fr fz (fun _ _ _ q => q)
  have ht6 := t1.fr fz (fun _ _ _ q => q)
  have far5 : ∀ x y, foot a5 c5 x y → wy.heap.size ≤ x := t3.above (N := wy.heap.size) (Nat.le_refl _) (fun x y q => absurd q (foot_none _ _ _))
  have lo4 : ∀ x y, foot a4 c4 x y → x < w4.heap.size := k1.nt.reg.lt
  refine (bMul_any (g.fr (F5.trans fz) (fun _ _ q => q.elim)) hz6 hz6 ht6 (.inl (by omega)) (.inr (by omega)) (.inl (by omega)) (.inl ⟨rfl, rfl⟩) (.inr (fun x y q1 q2 => by have := far5 x y q2; have := lo4 x y q1; omega)) hn (by have := nlen_ten40 hk; omega) (.inr (nlen_ten40 hk))).mono ?_
  rintro ex w6 ⟨a6, c6, rfl, K⟩
  refine ⟨_, rfl, ⟨a6, c6, K.out.1, (F5.trans fz).trans' K.out.2.1 (fun _ _ _ q => q) (fun x y hx q => ?_)⟩⟩
  rcases q with ⟨q, _⟩ | q
  · omega
  · have := far4 x y q; omega
end Go.Proofs.YtgilnnipephfjaaGreatDoor
namespace Go.Proofs.YtgilnnipephfjaaGreatDoor
open Go.RowKit

theorem dsgn_nz' {n : Bool} {X : Nat} (h : X ≠ 0) : dsgn 0 n X = if n then -1 else 1 := by rw [dsgn_fin, if_neg h]
/-- What the walk knows of a decimal: its form and exponent. -/
def DE (w : World) (b : Nat) (e : Int) : Prop := w.cell? ⟨b, 0, none⟩ = some (.int .i8 0) ∧ w.cell? ⟨b, 2, none⟩ = some (.int .i32 e)
theorem DE.of {w : World} {b : Nat} {n : Bool} {e : Int} {a : Option Addr} {c X : Nat} (h : DA w b 0 n e a c X) : DE w b e := ⟨h.form, h.exp⟩
theorem sg_w64 (X Y : Nat) : wrap64 (-(sg X Y)) = -(sg X Y) := by unfold sg wrap64; (repeat' split) <;> simp
set_option maxRecDepth 100000 in
set_option maxHeartbeats 1000000 in
theorem dCmp_sign {w : World} {b b' : Nat} {n n' : Bool} {e e' : Int} {a a' : Option Addr} {c c' X X' : Nat} (h : DA w b 0 n e a c X) (h' : DA w b' 0 n' e' a' c' X') (hs : dsgn 0 n X ≠ dsgn 0 n' X' ∨ X = 0) :
    Calls Tryz.prog 66 #[.pointer (some ⟨b, 0, none⟩), .pointer (some ⟨b', 0, none⟩)] w fun ex w' => ex = .returned (.int .i64 (dcm n e X n' e' X')) ∧ w' = w := by
  have H1 := Lib.hid (dSign_any h)
  have H2 := Lib.hid (dSign_any h')
  obtain ⟨r, hr⟩ : ∃ r, dcm n e X n' e' X' = r := ⟨_, rfl⟩
  have HC : (dsgn 0 n X < dsgn 0 n' X' ∧ r = -1) ∨ (dsgn 0 n' X' < dsgn 0 n X ∧ r = 1) ∨ (dsgn 0 n X = 0 ∧ dsgn 0 n' X' = 0 ∧ r = 0) := by
    rcases Int.lt_trichotomy (dsgn 0 n X) (dsgn 0 n' X') with q | q | q
    · exact .inl ⟨q, by rw [← hr]; exact dcm_lt q⟩
    · rcases dsgn_same q with ⟨q1, q2⟩ | ⟨q1, q2, q3⟩
      · subst q1; subst q2
        exact .inr (.inr ⟨by rw [dsgn_fin]; rfl, by rw [dsgn_fin]; rfl, by rw [← hr]; exact dcm_00⟩)
      · rcases hs with k | k
        · exact absurd q k
        · exact absurd k q1
    · exact .inr (.inl ⟨q, by rw [← hr]; exact dcm_gt q⟩)
  rw [hr]
  obtain ⟨ds, hds⟩ : ∃ r, dsgn 0 n X = r := ⟨_, rfl⟩
  obtain ⟨xs, hxs⟩ : ∃ r, dsgn 0 n' X' = r := ⟨_, rfl⟩
  rw [hds] at H1 HC
  rw [hxs] at H2 HC
  clear h h' hs hr hds hxs
  rcases HC with ⟨q, rfl⟩ | ⟨q, rfl⟩ | ⟨rfl, rfl, rfl⟩
  · have q1 : decide (ds < xs) = true := by simpa using q
    clear q
    go_enter Tryz.func66, Tryz.ntmps66
    go_wp2_with fail
    refine H1.out.mono ?_
    rintro ex w1 ⟨rfl, rfl⟩
    go_wp2_with fail
    refine H2.out.mono ?_
    rintro ex w1 ⟨rfl, rfl⟩
    go_wp2_with fail
    go_ret
    exact ⟨rfl, rfl⟩
  · have q1 : decide (ds < xs) = false := by simp; omega
    have q2 : decide (xs < ds) = true := by simpa using q
    clear q
    go_enter Tryz.func66, Tryz.ntmps66
    go_wp2_with fail
    refine H1.out.mono ?_
    rintro ex w1 ⟨rfl, rfl⟩
    go_wp2_with fail
    refine H2.out.mono ?_
    rintro ex w1 ⟨rfl, rfl⟩
    go_wp2_with fail
    go_ret
    exact ⟨rfl, rfl⟩
  · go_enter Tryz.func66, Tryz.ntmps66
    go_wp2_with fail
    refine H1.out.mono ?_
    rintro ex w1 ⟨rfl, rfl⟩
    go_wp2_with fail
    refine H2.out.mono ?_
    rintro ex w1 ⟨rfl, rfl⟩
    go_wp2_with fail
    go_ret
    exact ⟨rfl, rfl⟩
set_option maxRecDepth 100000 in
set_option maxHeartbeats 1000000 in
theorem dCmp_eqe {w : World} {b b' : Nat} {n : Bool} {e : Int} {a a' : Option Addr} {c c' X X' : Nat} (h : DA w b 0 n e a c X) (h' : DA w b' 0 n e a' c' X') (hX : X ≠ 0) (hX' : X' ≠ 0) (hbb : b ≠ b') :
    Calls Tryz.prog 66 #[.pointer (some ⟨b, 0, none⟩), .pointer (some ⟨b', 0, none⟩)] w fun ex w' => ex = .returned (.int .i64 (dcm n e X n e X')) ∧ Fr (fun _ _ => False) w w' := by
  have H1 := Lib.hid (dSign_any h)
  have H2 := Lib.hid (dSign_any h')
  rw [dsgn_nz' hX] at H1
  rw [dsgn_nz' hX'] at H2
  rw [dcm_same]
  have HC : Hid (∀ wy, Fr (fun _ _ => False) w wy → Calls Tryz.prog 100 #[.pointer (some ⟨b, 3, none⟩), .pointer (some ⟨b', 3, none⟩)] wy fun e w' => e = .returned (.int .i64 (sg X X')) ∧ Aside (Fr (fun _ _ => False) w w')) := Lib.hid (fun wy f => by
    refine (bCmp_pos (h.num.fr f (fun _ _ _ q => q)) (h'.num.fr f (fun _ _ _ q => q)) (.inl hbb)).mono ?_
    rintro ex w1 ⟨rfl, d2, rfl⟩
    exact ⟨rfl, ⟨f.drewN d2⟩⟩)
  obtain ⟨p0, p2⟩ := DE.of h
  obtain ⟨x0, x2⟩ := DE.of h'
  have h3 := sg_w64 X X'
  obtain ⟨z, hz⟩ : ∃ z, sg X X' = z := ⟨_, rfl⟩
  rw [hz] at HC h3 ⊢
  clear h h' hX hX' hbb hz
  cases n
  all_goals
    go_enter Tryz.func66, Tryz.ntmps66
    go_wp2_with fail
    refine H1.out.mono ?_
    rintro ex w1 ⟨rfl, rfl⟩
    go_wp2_with fail
    refine H2.out.mono ?_
    rintro ex w1 ⟨rfl, rfl⟩
    go_wp2_with fail
    go_quiet (fail)
    all_goals
      go_wp2_with fail
      go_region_with (go_at_call 100; go_must (refine (HC.out _ (by repeat first | exact Fr.refl _ _ | refine Fr.drewN ?_ _ | refine Fr.drew ?_)).mono ?_; rintro ex w1 ⟨rfl, F⟩))
      all_goals
        go_wp2_with fail
        go_ret
        first | exact ⟨rfl, F.out⟩ | exact ⟨by rw [h3]; rfl, F.out⟩
end Go.Proofs.YtgilnnipephfjaaGreatDoor
namespace Go.Proofs.YtgilnnipephfjaaGreatDoor
open Go.RowKit

/-- The number of digits, in any later world, with what the walk needs behind it. -/
theorem nd_chain {w : World} {b b' : Nat} {n n' : Bool} {e e' : Int} {a a' : Option Addr} {c c' X X' : Nat} (g : Gl w) (h : DA w b 0 n e a c X) (h' : DA w b' 0 n' e' a' c' X') (hb : bl X ≤ 1100) :
    ∀ wy, Fr (fun _ _ => False) w wy → Calls Tryz.prog 95 #[.pointer (some ⟨b, 0, none⟩)] wy fun ex w1 => ex = .returned (.int .i64 (ndig X : Nat)) ∧ w1.cell? ⟨b, 2, none⟩ = some (.int .i32 e) ∧ w1.cell? ⟨b', 2, none⟩ = some (.int .i32 e') ∧ Aside (Fr (fun _ _ => False) w w1) := fun wy f => by
  refine (dNumDigits_any (g.fr f (fun _ _ q => q.elim)) (h.fr f (fun _ _ _ q => q)) hb).mono ?_
  rintro ex w1 ⟨rfl, k⟩
  exact ⟨rfl, (h.fr (f.trans k) (fun _ _ _ q => q)).exp, (h'.fr (f.trans k) (fun _ _ _ q => q)).exp, ⟨f.trans k⟩⟩
set_option maxRecDepth 100000 in
set_option maxHeartbeats 2000000 in
theorem dCmp_far {w : World} {b b' : Nat} {n : Bool} {e e' : Int} {a a' : Option Addr} {c c' X X' : Nat} (g : Gl w) (h : DA w b 0 n e a c X) (h' : DA w b' 0 n e' a' c' X') (hX : X ≠ 0) (hX' : X' ≠ 0) (hbb : b ≠ b') (hb : bl X ≤ 1100) (hb' : bl X' ≤ 1100)
    (hd : ndig X ≤ 400) (hd' : ndig X' ≤ 400) (he : -100000 ≤ e ∧ e ≤ 100000) (he' : -100000 ≤ e' ∧ e' ≤ 100000) (hne : e ≠ e') (hf : (ndig X : Int) + e ≠ (ndig X' : Int) + e') :
    Calls Tryz.prog 66 #[.pointer (some ⟨b, 0, none⟩), .pointer (some ⟨b', 0, none⟩)] w fun ex w' => ex = .returned (.int .i64 (dcm n e X n e' X')) ∧ Fr (fun _ _ => False) w w' := by
  have H1 := Lib.hid (dSign_any h)
  have H2 := Lib.hid (dSign_any h')
  rw [dsgn_nz' hX] at H1
  rw [dsgn_nz' hX'] at H2
  have N1 := Lib.hid (nd_chain g h h' hb)
  have N2 := Lib.hid (nd_chain g h' h hb')
  obtain ⟨p0, p2⟩ := DE.of h
  obtain ⟨x0, x2⟩ := DE.of h'
  have hw1 : IntKind.i64.wrap e = e := by rw [IntKind.wrap_i64]; omega
  have hw2 : IntKind.i64.wrap e' = e' := by rw [IntKind.wrap_i64]; omega
  have hw3 : IntKind.i64.wrap ((ndig X : Int) + e) = (ndig X : Int) + e := by rw [IntKind.wrap_i64]; omega
  have hw4 : IntKind.i64.wrap ((ndig X' : Int) + e') = (ndig X' : Int) + e' := by rw [IntKind.wrap_i64]; omega
  have hn1 : (e == e') = false := by simpa using hne
  have HR : (decide ((ndig X : Int) + e < (ndig X' : Int) + e') = true ∧ dcm n e X n e' X' = flip n (-1)) ∨ (decide ((ndig X : Int) + e < (ndig X' : Int) + e') = false ∧ decide ((ndig X' : Int) + e' < (ndig X : Int) + e) = true ∧ dcm n e X n e' X' = flip n 1) := by
    by_cases q : (ndig X : Int) + e < (ndig X' : Int) + e'
    · exact .inl ⟨by simpa using q, dcm_few hX hX' q⟩
    · exact .inr ⟨by simpa using q, by simp; omega, dcm_many hX hX' (by omega)⟩
  obtain ⟨N, hN⟩ : ∃ x, ndig X = x := ⟨_, rfl⟩
  obtain ⟨M, hM⟩ : ∃ x, ndig X' = x := ⟨_, rfl⟩
  obtain ⟨r, hr⟩ : ∃ x, dcm n e X n e' X' = x := ⟨_, rfl⟩
  rw [hN] at hw3 N1 HR
  rw [hM] at hw4 N2 HR
  rw [hr] at HR ⊢
  clear h h' g hX hX' hbb hb hb' hd hd' he he' hne hf hN hM hr
  rcases HR with ⟨q1, rfl⟩ | ⟨q1, q2, rfl⟩ <;> cases n
  all_goals
    go_enter Tryz.func66, Tryz.ntmps66
    go_wp2_with fail
    refine H1.out.mono ?_
    rintro ex w1 ⟨rfl, rfl⟩
    go_wp2_with fail
    refine H2.out.mono ?_
    rintro ex w1 ⟨rfl, rfl⟩
    clear H1 H2
    go_upto_region 20 with fail
    go_quiet (fail)
    all_goals
      go_wp2_with fail
      go_region_held3 (fun w' => w'.cell? ⟨b, 2, none⟩ = some (.int .i32 e)) (first | (with_reducible exact p2) | go_keep) ((go_at_call 95; go_must (refine (N1.out _ (by repeat first | exact Fr.refl _ _ | refine Fr.drewN ?_ _ | refine Fr.drew ?_)).mono ?_; rintro ex w2 ⟨rfl, p2, x2, F⟩)))
      all_goals
        clear N1
        go_wp2_with fail
        go_region_held3 (fun w' => w'.cell? ⟨b', 2, none⟩ = some (.int .i32 e')) (first | (with_reducible exact x2) | go_keep) ((go_at_call 95; go_must (refine (N2.out _ (by repeat first | exact F.out | refine Fr.drewN ?_ _ | refine Fr.drew ?_)).mono ?_; rintro ex w3 ⟨rfl, x2, p2, F3⟩)))
        all_goals
          clear N2 F
          go_wp2_with fail
          go_ret
          exact ⟨rfl, F3.out⟩
end Go.Proofs.YtgilnnipephfjaaGreatDoor
namespace Go.Proofs.YtgilnnipephfjaaGreatDoor
open Go.RowKit

set_option maxRecDepth 100000 in
set_option maxHeartbeats 2000000 in
theorem dCmp_up {w : World} {b b' : Nat} {n : Bool} {e e' : Int} {a a' : Option Addr} {c c' X X' : Nat} (g : Gl w) (h : DA w b 0 n e a c X) (h' : DA w b' 0 n e' a' c' X') (hX : X ≠ 0) (hX' : X' ≠ 0) (hbb : b ≠ b') (hb : bl X ≤ 1100) (hb' : bl X' ≤ 1100)
    (hd : ndig X ≤ 400) (hd' : ndig X' ≤ 400) (he : -100000 ≤ e ∧ e ≤ 100000) (he' : -100000 ≤ e' ∧ e' ≤ 100000) {k : Nat} (hk : e' - e = (k : Int)) (h0 : 0 < k) (hf : (ndig X : Int) + e = (ndig X' : Int) + e') :
    Calls Tryz.prog 66 #[.pointer (some ⟨b, 0, none⟩), .pointer (some ⟨b', 0, none⟩)] w fun ex w' => ex = .returned (.int .i64 (dcm n e X n e' X')) ∧ Fr (fun _ _ => False) w w' := by
  have H1 := Lib.hid (dSign_any h)
  have H2 := Lib.hid (dSign_any h')
  rw [dsgn_nz' hX] at H1
  rw [dsgn_nz' hX'] at H2
  have N1 := Lib.hid (nd_chain g h h' hb)
  have N2 := Lib.hid (nd_chain g h' h hb')
  obtain ⟨p0, p2⟩ := DE.of h
  obtain ⟨x0, x2⟩ := DE.of h'
  have hw1 : IntKind.i64.wrap e = e := by rw [IntKind.wrap_i64]; omega
  have hw2 : IntKind.i64.wrap e' = e' := by rw [IntKind.wrap_i64]; omega
  have hw3 : IntKind.i64.wrap ((ndig X : Int) + e) = (ndig X : Int) + e := by rw [IntKind.wrap_i64]; omega
  have hw4 : IntKind.i64.wrap ((ndig X' : Int) + e') = (ndig X' : Int) + e' := by rw [IntKind.wrap_i64]; omega
  have hn1 : (e == e') = false := by rw [beq_eq_false_iff_ne]; omega
  have hlt : decide (e < e') = true := by simp; omega
  have hw5 : IntKind.i64.wrap (e' - e) = ((k : Nat) : Int) := by rw [IntKind.wrap_i64]; omega
  have hk420 : k ≤ 420 := by omega
  have hrr : dcm n e X n e' X' = flip n (sg X (X' * 10 ^ k)) := dcm_up hk
  obtain ⟨N, hN⟩ : ∃ x, ndig X = x := ⟨_, rfl⟩
  obtain ⟨M, hM⟩ : ∃ x, ndig X' = x := ⟨_, rfl⟩
  have q1 : decide ((N : Int) + e < (M : Int) + e') = false := by rw [← hN, ← hM]; simp; omega
  have q2 : decide ((M : Int) + e' < (N : Int) + e) = false := by rw [← hN, ← hM]; simp; omega
  rw [hN] at hw3 N1
  rw [hM] at hw4 N2
  have HS : Hid (∀ w3, Fr (fun _ _ => False) w w3 → Calls Tryz.prog 101 #[.pointer (some ⟨w3.heap.size, 0, none⟩), .pointer (some ⟨b', 3, none⟩)] ((w3.alloc (.cells #[.bool false, .slice none 0 0] 69)).alloc (.cells #[.bool false, .slice none 0 0] 69)) fun ex w4 => ∃ v, ex = .returned v ∧ w4.cell? ⟨b, 2, none⟩ = some (.int .i32 e) ∧ w4.cell? ⟨b', 2, none⟩ = some (.int .i32 e') ∧
      Hid (∀ wy, Fr (fun _ _ => False) w4 wy → Calls Tryz.prog 96 #[.int .i64 ((k : Nat) : Int), .pointer (some ⟨w3.heap.size + 1, 0, none⟩)] wy fun ex w5 => ex = .returned (.pointer (some ⟨w3.heap.size + 1, 0, none⟩)) ∧
      Hid (∀ wz, Fr (fun _ _ => False) w5 wz → Calls Tryz.prog 102 #[.pointer (some ⟨w3.heap.size, 0, none⟩), .pointer (some ⟨w3.heap.size, 0, none⟩), .pointer (some ⟨w3.heap.size + 1, 0, none⟩)] wz fun ex w6 => ∃ v, ex = .returned v ∧
      Hid (Calls Tryz.prog 100 #[.pointer (some ⟨b, 3, none⟩), .pointer (some ⟨w3.heap.size, 0, none⟩)] w6 fun ex w7 => ex = .returned (.int .i64 (sg X (X' * 10 ^ k))) ∧ Aside (Fr (fun _ _ => False) w w7))))) := Lib.hid (fun w3 f3 => by
    refine (scale_chain (g.fr f3 (fun _ _ q => q.elim)) (h'.num.fr f3 (fun _ _ _ q => q)) hk420 (by have := nlen_bl (X := X') (m := 18) (by omega); omega)).mono ?_
    rintro ex w4 ⟨v, rfl, f4, hT⟩
    have F4 := f3.trans f4.out
    refine ⟨v, rfl, (h.fr F4 (fun _ _ _ q => q)).exp, (h'.fr F4 (fun _ _ _ q => q)).exp, Lib.hid (fun wy fy => ?_)⟩
    refine (hT.out wy fy).mono ?_
    rintro ex w5 ⟨rfl, f5, hM⟩
    refine ⟨rfl, Lib.hid (fun wz fz => ?_)⟩
    refine (hM.out wz fz).mono ?_
    rintro ex w6 ⟨v, rfl, ⟨⟨a6, c6, k1, k2⟩⟩⟩
    have hl := h.lt
    have hl' := h'.lt
    have hs := f3.size
    refine ⟨v, rfl, Lib.hid ?_⟩
    refine (bCmp_pos (h.num.fr (f3.trans k2) (fun _ _ _ q => q)) k1 (.inl (by omega))).mono ?_
    rintro ex w7 ⟨rfl, d, rfl⟩
    exact ⟨rfl, ⟨(f3.trans k2).drewN d⟩⟩)
  have h3 := sg_w64 X (X' * 10 ^ k)
  obtain ⟨z, hz⟩ : ∃ z, sg X (X' * 10 ^ k) = z := ⟨_, rfl⟩
  rw [hrr]
  rw [hz] at HS h3 ⊢
  clear h h' g hX hX' hbb hb hb' hd hd' he he' hk h0 hf hN hM hrr hz hk420
  cases n
  all_goals
    go_enter Tryz.func66, Tryz.ntmps66
    go_wp2_with fail
    refine H1.out.mono ?_
    rintro ex w1 ⟨rfl, rfl⟩
    go_wp2_with fail
    refine H2.out.mono ?_
    rintro ex w1 ⟨rfl, rfl⟩
    clear H1 H2
    go_upto_region 20 with fail
    go_quiet (fail)
    all_goals
      go_wp2_with fail
      go_region_held3 (fun w' => w'.cell? ⟨b, 2, none⟩ = some (.int .i32 e)) (first | (with_reducible exact p2) | go_keep) ((go_at_call 95; go_must (refine (N1.out _ (by repeat first | exact Fr.refl _ _ | refine Fr.drewN ?_ _ | refine Fr.drew ?_)).mono ?_; rintro ex w2 ⟨rfl, p2, x2, F⟩)))
      all_goals
        clear N1
        go_wp2_with fail
        go_region_held3 (fun w' => w'.cell? ⟨b', 2, none⟩ = some (.int .i32 e')) (first | (with_reducible exact x2) | go_keep) ((go_at_call 95; go_must (refine (N2.out _ (by repeat first | exact F.out | refine Fr.drewN ?_ _ | refine Fr.drew ?_)).mono ?_; rintro ex w3 ⟨rfl, x2, p2, F3⟩)))
        all_goals
          clear N2 F
          go_wp2_with fail
          go_quiet (fail)
          all_goals
            go_wp2_with fail
            refine (HS.out _ (by repeat first | exact F3.out | refine Fr.drewN ?_ _ | refine Fr.drew ?_)).mono ?_
            rintro ex w4 ⟨v, rfl, p2, x2, HT⟩
            clear HS
            go_wp2_with fail
            go_region_with (first
              | (go_at_call 96; go_must (refine (HT.out _ (by repeat first | exact Fr.refl _ _ | refine Fr.drewN ?_ _ | refine Fr.drew ?_)).mono ?_; rintro ex w5 ⟨rfl, HM⟩))
              | (go_at_call 102; go_must (refine (HM.out _ (by repeat first | exact Fr.refl _ _ | refine Fr.drewN ?_ _ | refine Fr.drew ?_)).mono ?_; rintro ex w6 ⟨v, rfl, HC⟩)))
            all_goals
              clear HT HM
              go_wp2_with fail
              refine HC.out.mono ?_
              rintro ex w7 ⟨rfl, F7⟩
              clear HC
              go_wp2_with fail
              go_ret
              first | exact ⟨rfl, F7.out⟩ | exact ⟨by rw [h3]; rfl, F7.out⟩
set_option maxRecDepth 100000 in
set_option maxHeartbeats 2000000 in
theorem dCmp_dn {w : World} {b b' : Nat} {n : Bool} {e e' : Int} {a a' : Option Addr} {c c' X X' : Nat} (g : Gl w) (h : DA w b 0 n e a c X) (h' : DA w b' 0 n e' a' c' X') (hX : X ≠ 0) (hX' : X' ≠ 0) (hbb : b ≠ b') (hb : bl X ≤ 1100) (hb' : bl X' ≤ 1100)
    (hd : ndig X ≤ 400) (hd' : ndig X' ≤ 400) (he : -100000 ≤ e ∧ e ≤ 100000) (he' : -100000 ≤ e' ∧ e' ≤ 100000) {k : Nat} (hk : e - e' = (k : Int)) (h0 : 0 < k) (hf : (ndig X : Int) + e = (ndig X' : Int) + e') :
    Calls Tryz.prog 66 #[.pointer (some ⟨b, 0, none⟩), .pointer (some ⟨b', 0, none⟩)] w fun ex w' => ex = .returned (.int .i64 (dcm n e X n e' X')) ∧ Fr (fun _ _ => False) w w' := by
  have H1 := Lib.hid (dSign_any h)
  have H2 := Lib.hid (dSign_any h')
  rw [dsgn_nz' hX] at H1
  rw [dsgn_nz' hX'] at H2
  have N1 := Lib.hid (nd_chain g h h' hb)
  have N2 := Lib.hid (nd_chain g h' h hb')
  obtain ⟨p0, p2⟩ := DE.of h
  obtain ⟨x0, x2⟩ := DE.of h'
  have hw1 : IntKind.i64.wrap e = e := by rw [IntKind.wrap_i64]; omega
  have hw2 : IntKind.i64.wrap e' = e' := by rw [IntKind.wrap_i64]; omega
  have hw3 : IntKind.i64.wrap ((ndig X : Int) + e) = (ndig X : Int) + e := by rw [IntKind.wrap_i64]; omega
  have hw4 : IntKind.i64.wrap ((ndig X' : Int) + e') = (ndig X' : Int) + e' := by rw [IntKind.wrap_i64]; omega
  have hn1 : (e == e') = false := by rw [beq_eq_false_iff_ne]; omega
  have hlt : decide (e < e') = false := by simp; omega
  have hw5 : IntKind.i64.wrap (e - e') = ((k : Nat) : Int) := by rw [IntKind.wrap_i64]; omega
  have hk420 : k ≤ 420 := by omega
  have hrr : dcm n e X n e' X' = flip n (sg (X * 10 ^ k) X') := dcm_dn hk
  obtain ⟨N, hN⟩ : ∃ x, ndig X = x := ⟨_, rfl⟩
  obtain ⟨M, hM⟩ : ∃ x, ndig X' = x := ⟨_, rfl⟩
  have q1 : decide ((N : Int) + e < (M : Int) + e') = false := by rw [← hN, ← hM]; simp; omega
  have q2 : decide ((M : Int) + e' < (N : Int) + e) = false := by rw [← hN, ← hM]; simp; omega
  rw [hN] at hw3 N1
  rw [hM] at hw4 N2
  have HS : Hid (∀ w3, Fr (fun _ _ => False) w w3 → Calls Tryz.prog 101 #[.pointer (some ⟨w3.heap.size, 0, none⟩), .pointer (some ⟨b, 3, none⟩)] ((w3.alloc (.cells #[.bool false, .slice none 0 0] 69)).alloc (.cells #[.bool false, .slice none 0 0] 69)) fun ex w4 => ∃ v, ex = .returned v ∧ w4.cell? ⟨b, 2, none⟩ = some (.int .i32 e) ∧ w4.cell? ⟨b', 2, none⟩ = some (.int .i32 e') ∧
      Hid (∀ wy, Fr (fun _ _ => False) w4 wy → Calls Tryz.prog 96 #[.int .i64 ((k : Nat) : Int), .pointer (some ⟨w3.heap.size + 1, 0, none⟩)] wy fun ex w5 => ex = .returned (.pointer (some ⟨w3.heap.size + 1, 0, none⟩)) ∧
      Hid (∀ wz, Fr (fun _ _ => False) w5 wz → Calls Tryz.prog 102 #[.pointer (some ⟨w3.heap.size, 0, none⟩), .pointer (some ⟨w3.heap.size, 0, none⟩), .pointer (some ⟨w3.heap.size + 1, 0, none⟩)] wz fun ex w6 => ∃ v, ex = .returned v ∧
      Hid (Calls Tryz.prog 100 #[.pointer (some ⟨w3.heap.size, 0, none⟩), .pointer (some ⟨b', 3, none⟩)] w6 fun ex w7 => ex = .returned (.int .i64 (sg (X * 10 ^ k) X')) ∧ Aside (Fr (fun _ _ => False) w w7))))) := Lib.hid (fun w3 f3 => by
    refine (scale_chain (g.fr f3 (fun _ _ q => q.elim)) (h.num.fr f3 (fun _ _ _ q => q)) hk420 (by have := nlen_bl (X := X) (m := 18) (by omega); omega)).mono ?_
    rintro ex w4 ⟨v, rfl, f4, hT⟩
    have F4 := f3.trans f4.out
    refine ⟨v, rfl, (h.fr F4 (fun _ _ _ q => q)).exp, (h'.fr F4 (fun _ _ _ q => q)).exp, Lib.hid (fun wy fy => ?_)⟩
    refine (hT.out wy fy).mono ?_
    rintro ex w5 ⟨rfl, f5, hM⟩
    refine ⟨rfl, Lib.hid (fun wz fz => ?_)⟩
    refine (hM.out wz fz).mono ?_
    rintro ex w6 ⟨v, rfl, ⟨⟨a6, c6, k1, k2⟩⟩⟩
    have hl := h.lt
    have hl' := h'.lt
    have hs := f3.size
    refine ⟨v, rfl, Lib.hid ?_⟩
    refine (bCmp_pos k1 (h'.num.fr (f3.trans k2) (fun _ _ _ q => q)) (.inl (by omega))).mono ?_
    rintro ex w7 ⟨rfl, d, rfl⟩
    exact ⟨rfl, ⟨(f3.trans k2).drewN d⟩⟩)
  have h3 := sg_w64 (X * 10 ^ k) X'
  obtain ⟨z, hz⟩ : ∃ z, sg (X * 10 ^ k) X' = z := ⟨_, rfl⟩
  rw [hrr]
  rw [hz] at HS h3 ⊢
  clear h h' g hX hX' hbb hb hb' hd hd' he he' hk h0 hf hN hM hrr hz hk420
  cases n
  all_goals
    go_enter Tryz.func66, Tryz.ntmps66
    go_wp2_with fail
    refine H1.out.mono ?_
    rintro ex w1 ⟨rfl, rfl⟩
    go_wp2_with fail
    refine H2.out.mono ?_
    rintro ex w1 ⟨rfl, rfl⟩
    clear H1 H2
    go_upto_region 20 with fail
    go_quiet (fail)
    all_goals
      go_wp2_with fail
      go_region_held3 (fun w' => w'.cell? ⟨b, 2, none⟩ = some (.int .i32 e)) (first | (with_reducible exact p2) | go_keep) ((go_at_call 95; go_must (refine (N1.out _ (by repeat first | exact Fr.refl _ _ | refine Fr.drewN ?_ _ | refine Fr.drew ?_)).mono ?_; rintro ex w2 ⟨rfl, p2, x2, F⟩)))
      all_goals
        clear N1
        go_wp2_with fail
        go_region_held3 (fun w' => w'.cell? ⟨b', 2, none⟩ = some (.int .i32 e')) (first | (with_reducible exact x2) | go_keep) ((go_at_call 95; go_must (refine (N2.out _ (by repeat first | exact F.out | refine Fr.drewN ?_ _ | refine Fr.drew ?_)).mono ?_; rintro ex w3 ⟨rfl, x2, p2, F3⟩)))
        all_goals
          clear N2 F
          go_wp2_with fail
          go_quiet (fail)
          all_goals
            go_wp2_with fail
            refine (HS.out _ (by repeat first | exact F3.out | refine Fr.drewN ?_ _ | refine Fr.drew ?_)).mono ?_
            rintro ex w4 ⟨v, rfl, p2, x2, HT⟩
            clear HS
            go_wp2_with fail
            go_region_with (first
              | (go_at_call 96; go_must (refine (HT.out _ (by repeat first | exact Fr.refl _ _ | refine Fr.drewN ?_ _ | refine Fr.drew ?_)).mono ?_; rintro ex w5 ⟨rfl, HM⟩))
              | (go_at_call 102; go_must (refine (HM.out _ (by repeat first | exact Fr.refl _ _ | refine Fr.drewN ?_ _ | refine Fr.drew ?_)).mono ?_; rintro ex w6 ⟨v, rfl, HC⟩)))
            all_goals
              clear HT HM
              go_wp2_with fail
              refine HC.out.mono ?_
              rintro ex w7 ⟨rfl, F7⟩
              clear HC
              go_wp2_with fail
              go_ret
              first | exact ⟨rfl, F7.out⟩ | exact ⟨by rw [h3]; rfl, F7.out⟩
/-- Decimal.Cmp of finite decimals. -/
theorem dCmp_any {w : World} {b b' : Nat} {n n' : Bool} {e e' : Int} {a a' : Option Addr} {c c' X X' : Nat} (g : Gl w) (h : DA w b 0 n e a c X) (h' : DA w b' 0 n' e' a' c' X') (hbb : b ≠ b') (hb : bl X ≤ 1100) (hb' : bl X' ≤ 1100)
    (hd : ndig X ≤ 400) (hd' : ndig X' ≤ 400) (he : -100000 ≤ e ∧ e ≤ 100000) (he' : -100000 ≤ e' ∧ e' ≤ 100000) :
    Calls Tryz.prog 66 #[.pointer (some ⟨b, 0, none⟩), .pointer (some ⟨b', 0, none⟩)] w fun ex w' => ex = .returned (.int .i64 (dcm n e X n' e' X')) ∧ Fr (fun _ _ => False) w w' := by
  by_cases hs : dsgn 0 n X ≠ dsgn 0 n' X' ∨ X = 0
  · refine (dCmp_sign h h' hs).mono ?_
    rintro ex w1 ⟨rfl, rfl⟩
    exact ⟨rfl, Fr.refl _ _⟩
  · have hs1 : dsgn 0 n X = dsgn 0 n' X' := Classical.byContradiction (fun q => hs (.inl q))
    have hX : X ≠ 0 := fun q => hs (.inr q)
    rcases dsgn_same hs1 with ⟨q, _⟩ | ⟨_, hX', rfl⟩
    · exact absurd q hX
    · by_cases hee : e = e'
      · subst hee
        exact dCmp_eqe h h' hX hX' hbb
      · by_cases hf : (ndig X : Int) + e = (ndig X' : Int) + e'
        · by_cases hl : e < e'
          · exact dCmp_up g h h' hX hX' hbb hb hb' hd hd' he he' (k := (e' - e).toNat) (by omega) (by omega) hf
          · exact dCmp_dn g h h' hX hX' hbb hb hb' hd hd' he he' (k := (e - e').toNat) (by omega) (by omega) hf
        · exact dCmp_far g h h' hX hX' hbb hb hb' hd hd' he he' hee hf
end Go.Proofs.YtgilnnipephfjaaGreatDoor
