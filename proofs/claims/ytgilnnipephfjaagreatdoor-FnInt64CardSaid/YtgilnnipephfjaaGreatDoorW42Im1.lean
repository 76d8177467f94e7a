/- Methods of Int on one word: IsUint64, Uint64, SetUint64, Neg in place; apd's BigInt over them. The noughts at the end of a number; plain laws (for FnShorten). Decimal.Reduce of a decimal whose coefficient is one word; setBig. The last drawn region of Int.mul. Int.Mul, BigInt.Mul: numbers not below 0, the factors not one object; the product may take the place of a factor. -/
import Derived.Test.YtgilnnipephfjaaGreatDoorM25Dig
import Derived.Test.YtgilnnipephfjaaGreatDoorM10Txt
import Derived.Test.YtgilnnipephfjaaGreatDoorM26Dec3
import Derived.Test.YtgilnnipephfjaaGreatDoorW36Quo5
import Derived.Test.YtgilnnipephfjaaGreatDoorM05Mul3
set_option linter.unusedSimpArgs false
set_option linter.unusedVariables false
namespace Go.Proofs.YtgilnnipephfjaaGreatDoor
open Go.RowKit

theorem nlen_le_one {X : Nat} : nlen X ≤ 1 ↔ X < B := by
  constructor
  · intro h
    have h1 := nlen_lt X
    have h2 : B ^ nlen X ≤ B ^ 1 := Nat.pow_le_pow_right B_pos h
    rw [Nat.pow_one] at h2
    omega
  · intro h
    by_cases h0 : X = 0
    · subst h0; rw [nlen_zero]; omega
    · have := nlen_le (v := X) (m := 1) (by rw [Nat.pow_one]; exact h)
      omega
set_option maxRecDepth 100000 in
theorem low64_any {a : Option Addr} {c X : Nat} {w : World} (h : Nt w a c X) :
    Calls Tryz.prog 145 #[.slice a (nlen X) c] w fun e w' => e = .returned (.int .u64 (wd X 0 : Nat)) ∧ w' = w := by
  have e := nlen_beq X
  by_cases h0 : X = 0
  · have hd : decide (X = 0) = true := by simpa using h0
    have hs : wd X 0 = 0 := by rw [h0]; exact wd_zero 0
    clear h h0
    go_enter Tryz.func145, Tryz.ntmps145
    go_wp2_with fail
    go_ret
    exact ⟨by rw [hs]; rfl, rfl⟩
  · obtain ⟨b, o, rfl, _, hw⟩ := h.pos h0
    have hd : decide (X = 0) = false := by simpa using h0
    have hc := hw.cell 0 (nlen_pos h0)
    rw [Nat.add_zero] at hc
    have hp := nlen_pos h0
    clear h h0 hw
    go_enter Tryz.func145, Tryz.ntmps145
    go_wp2_with fail
    go_ret
    exact ⟨rfl, rfl⟩
set_option maxRecDepth 100000 in
theorem iSetUint64_any {b o : Nat} {neg : Bool} {a : Option Addr} {c X : Nat} {w : World} (x : Nat) (hG : NG ≤ w.heap.size) (h : IA w b o neg a c X) (hx : x < B) :
    Calls Tryz.prog 333 #[.pointer (some ⟨b, o, none⟩), .int .u64 (x : Nat)] w fun e w' => ∃ a' c', e = .returned (.pointer (some ⟨b, o, none⟩)) ∧ IA w' b o false a' c' x ∧ Fr (ifoot b o a c) w w' ∧ Out w a c a' c' := by
  have hS := Lib.hid (setUint64_any (zl := nlen X) hG h.nt.reg hx)
  have hn := h.neg
  have ha := h.abs
  have HI := Aside.mk h
  have hlt := h.blk.lt
  clear h hx
  go_enter Tryz.func333, Tryz.ntmps333
  go_wp2_with fail
  refine hS.out.mono ?_
  rintro e w1 ⟨a', c', rfl, s1, s2, s3⟩
  have M := Aside.mk (HI.out.made false s1 s2 s3)
  have HO := Aside.mk s3
  obtain ⟨k1, k2, k3, k4⟩ := HI.out.open HI.out.nt.reg s2
  clear s1 s2 s3 hn ha
  go_wp2_with fail
  go_ret
  exact ⟨a', c', rfl, M.out.1, M.out.2, HO.out⟩
set_option maxRecDepth 100000 in
theorem iNeg_self {b o : Nat} {neg : Bool} {a : Option Addr} {c X : Nat} {w : World} (h : IA w b o neg a c X) :
    Calls Tryz.prog 311 #[.pointer (some ⟨b, o, none⟩), .pointer (some ⟨b, o, none⟩)] w fun e w' => e = .returned (.pointer (some ⟨b, o, none⟩)) ∧ IA w' b o (decide (0 < X) && !neg) a c X ∧ Fr (fun b' o' => b' = b ∧ o' = o) w w' := by
  have hn := h.neg
  have ha := h.abs
  have hf := h.blk.free o
  have HH := Aside.mk h
  clear h
  have H := Lib.hid (setI_self (b := b) (o := o) (w := w))
  have key : ∀ v : Bool, IA (w.setCell ⟨b, o, none⟩ (.bool v)) b o v a c X ∧ Fr (fun b' o' => b' = b ∧ o' = o) w (w.setCell ⟨b, o, none⟩ (.bool v)) := fun v => by
    have h := HH.out
    have g := (Fr.refl (fun b' o' => b' = b ∧ o' = o) w).setCell b o (.bool v) (fun _ => ⟨rfl, rfl⟩)
    refine ⟨⟨World.cell?_setCell_same _ _ _ hn, (World.cell?_setCell_other _ _ _ _ (by simp)).trans h.abs, g.nt h.nt ?_, g.blk h.blk⟩, g⟩
    rintro b' o' k ⟨rfl, rfl⟩
    exact (h.apart h.nt.reg).1 k
  have KEY := Aside.mk key
  clear key
  by_cases h0 : 0 < X
  · have hd : decide (0 < X) = true := by simpa using h0
    have hp1 : 0 < nlen X := nlen_pos (by omega)
    have hp2 : (0 : Int) < (nlen X : Int) := by omega
    rw [hd]
    clear h0 hd
    go_enter Tryz.func311, Tryz.ntmps311
    go_wp2_with fail
    refine H.out.mono ?_
    rintro e1 w1 ⟨rfl, rfl⟩
    clear H
    cases neg <;>
    · go_wp2_with fail
      go_ret
      exact ⟨rfl, KEY.out _⟩
  · have hd : decide (0 < X) = false := by simpa using h0
    rw [hd]
    obtain rfl : X = 0 := by omega
    rw [nlen_zero] at ha
    clear h0 hd
    go_enter Tryz.func311, Tryz.ntmps311
    go_wp2_with fail
    refine H.out.mono ?_
    rintro e1 w1 ⟨rfl, rfl⟩
    clear H
    go_wp2_with fail
    go_ret
    exact ⟨rfl, KEY.out _⟩
end Go.Proofs.YtgilnnipephfjaaGreatDoor
namespace Go.Proofs.YtgilnnipephfjaaGreatDoor
open Go.RowKit

/-- How many noughts a number ends with; 0 of 0. -/
def tz (X : Nat) : Nat := if h : X ≠ 0 ∧ X % 10 = 0 then tz (X / 10) + 1 else 0
termination_by X
theorem tz_step {X : Nat} (h0 : X ≠ 0) (h : X % 10 = 0) : tz X = tz (X / 10) + 1 := by
  rw [tz.eq_def, dif_pos ⟨h0, h⟩]
theorem tz_stop {X : Nat} (h : X % 10 ≠ 0) : tz X = 0 := by
  rw [tz.eq_def, dif_neg (fun k => h k.2)]
/-- A number without its noughts: what the loops of Reduce leave. -/
theorem tz_of {i : Nat} (k : Nat) (h : i % 10 ≠ 0) : tz (i * 10 ^ k) = k ∧ i * 10 ^ k / 10 ^ k = i := by
  refine ⟨?_, Nat.mul_div_cancel _ (Nat.pow_pos (by omega))⟩
  induction k with
  | zero => rw [Nat.pow_zero, Nat.mul_one]; exact tz_stop h
  | succ k ih =>
    have e : i * 10 ^ (k + 1) = i * 10 ^ k * 10 := by rw [Nat.pow_succ, Nat.mul_assoc]
    have hp : 0 < i * 10 ^ k := Nat.mul_pos (by omega) (Nat.pow_pos (by omega))
    rw [e, tz_step (by omega) (by omega), Nat.mul_div_cancel _ (by omega), ih]
theorem dg_div (X j i : Nat) : dg (X / 10 ^ j) i = dg X (i + j) := by
  unfold dg
  rw [Nat.div_div_eq_div_mul, ← Nat.pow_add, Nat.add_comm]
theorem tz_below {X : Nat} : ∀ k, k < tz X → dg X k = 0 := by
  induction X using Nat.strongRecOn with
  | ind X ih =>
    intro k hk
    by_cases h : X ≠ 0 ∧ X % 10 = 0
    · rw [tz_step h.1 h.2] at hk
      rcases k with _ | k
      · unfold dg; rw [Nat.pow_zero, Nat.div_one]; exact h.2
      · have := ih (X / 10) (by omega) k (by omega)
        have e := dg_div X 1 k
        rw [Nat.pow_one] at e
        rw [← e]; exact this
    · rw [tz.eq_def, dif_neg h] at hk
      omega
theorem tz_at {X : Nat} (h0 : X ≠ 0) : dg X (tz X) ≠ 0 := by
  induction X using Nat.strongRecOn with
  | ind X ih =>
    by_cases h : X % 10 = 0
    · rw [tz_step h0 h]
      have := ih (X / 10) (by omega) (by omega)
      have e := dg_div X 1 (tz (X / 10))
      rw [Nat.pow_one] at e
      rw [← e]; exact this
    · rw [tz_stop h]; unfold dg; rw [Nat.pow_zero, Nat.div_one]; exact h
theorem tz_lt {X : Nat} (h0 : X ≠ 0) : tz X < ndig X := by
  apply Nat.lt_of_not_le
  intro k
  exact tz_at h0 (dg_high k)
theorem ndig_div {X j : Nat} (h : j < ndig X) : ndig (X / 10 ^ j) = ndig X - j := by
  by_cases h0 : X = 0
  · subst h0
    have : ndig 0 = 1 := by unfold ndig; rw [dif_pos (by omega)]
    have hj : j = 0 := by omega
    subst hj; rw [Nat.pow_zero, Nat.div_one, Nat.sub_zero]
  · obtain ⟨m, hm⟩ : ∃ m, ndig X = j + m + 1 := ⟨ndig X - j - 1, by omega⟩
    have h1 := ndig_le h0
    have h2 := lt_ndig X
    rw [hm] at h1 h2 ⊢
    have e1 : j + m + 1 - 1 = m + j := by omega
    have e2 : j + m + 1 - j = m + 1 := by omega
    have e3 : j + m + 1 = j + (m + 1) := by omega
    rw [e1, Nat.pow_add] at h1
    rw [e3, Nat.pow_add] at h2
    rw [e2]
    exact ndig_eq_of ((Nat.le_div_iff_mul_le (Nat.pow_pos (by omega))).2 h1) (Nat.div_lt_of_lt_mul h2)
/-- The text without its last j digits. -/
theorem natText_div {X j : Nat} (h : j < ndig X) : natText (X / 10 ^ j) = (natText X).take (ndig X - j) := by
  apply List.ext_getElem
  · rw [List.length_take, natText_length, natText_length, ndig_div h]; omega
  · intro i h1 h2
    rw [List.getElem_take]
    simp only [natText, List.getElem_map, List.getElem_range]
    rw [natText_length, ndig_div h] at h1
    rw [ndig_div h, dg_div]
    congr 3
    omega
end Go.Proofs.YtgilnnipephfjaaGreatDoor
namespace Go.Proofs.YtgilnnipephfjaaGreatDoor
open Go.RowKit

theorem Out.tr {w w2 : World} {a a2 a3 : Option Addr} {c c2 c3 : Nat} (h : Out w a c a2 c2) (k : Out w2 a2 c2 a3 c3) (hs : w.heap.size ≤ w2.heap.size) : Out w a c a3 c3 := by
  rcases k with ⟨rfl, rfl⟩ | ⟨b, o, rfl, hb⟩
  · exact h
  · exact .inr ⟨b, o, rfl, Nat.le_trans hs hb⟩
theorem dfoot_out {w : World} {b : Nat} {a a2 : Option Addr} {c c2 : Nat} (h : Out w a c a2 c2) : ∀ x y, x < w.heap.size → dfoot b a2 c2 x y → dfoot b a c x y := fun x y hx q => by
  rcases h with ⟨rfl, rfl⟩ | ⟨b', o', rfl, hb⟩
  · exact q
  · rcases q with q | q
    · exact .inl q
    · rw [foot_some] at q; omega
theorem Out.apart' {w : World} {a a' : Option Addr} {c c' : Nat} {P : Nat → Nat → Prop} (h : Out w a c a' c') (hx : ∀ x y, P x y → x < w.heap.size) (hap : ∀ x y, foot a c x y → ¬ P x y) : ∀ x y, foot a' c' x y → ¬ P x y := fun x y q1 q2 => by
  rcases h with ⟨rfl, rfl⟩ | ⟨b', o', rfl, hb⟩
  · exact hap x y q1 q2
  · have := hx x y q2; rw [foot_some] at q1; omega
theorem Out.above {w : World} {a a' : Option Addr} {c c' N : Nat} (h : Out w a c a' c') (hN : N ≤ w.heap.size) (ha : ∀ x y, foot a c x y → N ≤ x) : ∀ x y, foot a' c' x y → N ≤ x := fun x y q => by
  rcases h with ⟨rfl, rfl⟩ | ⟨b', o', rfl, hb⟩
  · exact ha x y q
  · rw [foot_some] at q; omega
theorem dsgn_nz {n : Bool} {X : Nat} (h : X ≠ 0) : dsgn 0 n X = if n then -1 else 1 := by unfold dsgn; rw [if_neg (fun k => h k.2)]
theorem pow_lt_small {i k X : Nat} (hi : 0 < i) (h : X = i * 10 ^ k) (hX : X < B) : k < 20 := by
  apply Nat.lt_of_not_le
  intro hk
  have h1 : 10 ^ 20 ≤ 10 ^ k := Nat.pow_le_pow_right (by omega) hk
  have h2 : 1 * 10 ^ k ≤ i * 10 ^ k := Nat.mul_le_mul_right _ hi
  have h3 : B < 10 ^ 20 := by decide
  omega
theorem mul_pow4 {i k X : Nat} (h : X = i * 10 ^ k) (hm : i % 10000 = 0) : X = (i / 10000) * 10 ^ (k + 4) := by
  rw [h, Nat.pow_add, show (10 : Nat) ^ 4 = 10000 from rfl, Nat.mul_comm (10 ^ k) 10000, ← Nat.mul_assoc, Nat.div_mul_cancel (Nat.dvd_of_mod_eq_zero hm)]
theorem mul_pow1 {i k X : Nat} (h : X = i * 10 ^ k) (hm : i % 10 = 0) : X = (i / 10) * 10 ^ (k + 1) := by
  rw [h, Nat.pow_succ, Nat.mul_comm (10 ^ k) 10, ← Nat.mul_assoc, Nat.div_mul_cancel (Nat.dvd_of_mod_eq_zero hm)]
end Go.Proofs.YtgilnnipephfjaaGreatDoor
namespace Go.Proofs.YtgilnnipephfjaaGreatDoor
open Go.RowKit

noncomputable def imc (n : Nat) : Code := ((Tryz.f185.body.bind (rgOf n)).getD .skip)
theorem set_keep {w : World} {p q : Addr} {v : Bool} {u : Value} (h : w.cell? q = some (.bool v)) (hp : w.cell? p = some u) : (w.setCell p (.bool v)).cell? q = some (.bool v) := by
  by_cases e : p = q
  · subst e; exact World.cell?_setCell_same _ _ _ hp
  · exact (World.cell?_setCell_other _ _ _ _ e).trans h
set_option maxRecDepth 100000 in
set_option maxHeartbeats 8000000 in
theorem imq_false {c : Code} (hc : c = imc 4) {zb zo xb xo yb yo nq qc : Nat} {qa : Option Addr} {zn : Bool} {w2 : World} (hp1 : decide ((0 : Int) < (nq : Int)) = false) (hp3 : decide (0 < nq) = false)
    (z1 : w2.cell? ⟨zb, zo + 1, none⟩ = some (.slice qa nq qc)) (x0 : w2.cell? ⟨xb, xo, none⟩ = some (.bool false)) (y0 : w2.cell? ⟨yb, yo, none⟩ = some (.bool false)) (z0 : w2.cell? ⟨zb, zo, none⟩ = some (.bool zn)) (f1 : w2.frozen? ⟨zb, zo, none⟩ = false)
    (u4 u5 u6 u7 u8 u9 u10 u11 u12 u13 u14 u15 u16 u17 u18 u19 u20 u21 u22 u23 u24 u25 u26 u27 u28 u29 u30 u31 u32 u33 u34 u35 u36 u37 u38 u39 u40 u41 u42 u43 u44 u45 u46 u47 u48 u49 u50 u51 u52 u53 u54 u55 u56 u57 u58 u59 u60 u61 u62 u63 : Value) (N : Act → World → Prop)
    (HN : Aside (∀ (v44 v45 v46 v47 v48 v49 v50 v51 v52 v53 v54 v55 v56 v57 v58 v59 v60 v61 v62 v63 : Value), N ⟨#[.pointer (some ⟨zb, zo, none⟩), .pointer none, .pointer (some ⟨xb, xo, none⟩), .pointer (some ⟨yb, yo, none⟩), u4, u5, u6, u7, u8, u9, u10, u11, u12, u13, u14, u15, u16, u17, u18, u19, u20, u21, u22, u23, u24, u25, u26, u27, u28, u29, u30, u31, u32, u33, u34, u35, u36, u37, u38, u39, u40, u41, u42, u43, v44, v45, v46, v47, v48, v49, v50, v51, v52, v53, v54, v55, v56, v57, v58, v59, v60, v61, v62, v63], []⟩ (w2.drew.setCell ⟨zb, zo, none⟩ (.bool false)))) :
    Code.wp Tryz.prog c (QN N) ⟨#[.pointer (some ⟨zb, zo, none⟩), .pointer none, .pointer (some ⟨xb, xo, none⟩), .pointer (some ⟨yb, yo, none⟩), u4, u5, u6, u7, u8, u9, u10, u11, u12, u13, u14, u15, u16, u17, u18, u19, u20, u21, u22, u23, u24, u25, u26, u27, u28, u29, u30, u31, u32, u33, u34, u35, u36, u37, u38, u39, u40, u41, u42, u43, u44, u45, u46, u47, u48, u49, u50, u51, u52, u53, u54, u55, u56, u57, u58, u59, u60, u61, u62, u63], []⟩ w2 := by
  subst hc
  conv => arg 2; whnf
  have hS0 : (fun w' => w'.cell? ⟨zb, zo + 1, none⟩ = some (.slice qa nq qc) ∧ w'.cell? ⟨xb, xo, none⟩ = some (.bool false) ∧ w'.cell? ⟨yb, yo, none⟩ = some (.bool false)) w2.drew := ⟨z1, x0, y0⟩
  refine wp_region_held (S := (fun w' => w'.cell? ⟨zb, zo + 1, none⟩ = some (.slice qa nq qc) ∧ w'.cell? ⟨xb, xo, none⟩ = some (.bool false) ∧ w'.cell? ⟨yb, yo, none⟩ = some (.bool false))) (by kernel_rfl) ?_
  change wpAnyH _ _ _ _ _ _ _ _ (World.drew _)
  refine wpAnyH_take (i := 0) (v := ?_) rfl (by kernel_rfl) (by kernel_rfl) (by kernel_rfl) (fun _ _ _ h => h) (Or.inl ⟨by kernel_rfl, ?_⟩) hS0 ?_
  rotate_left 1
  · rintro w9 ⟨e0, e1, e2⟩
    go_simp
    try with_reducible rfl
  try simp only [Act.put, List.setIfInBounds_toArray, List.set_cons_zero, List.set_cons_succ]
  refine wpAnyH_take (i := 1) (v := ?_) rfl (by kernel_rfl) (by kernel_rfl) (by kernel_rfl) (fun _ _ _ h => h) (Or.inl ⟨by kernel_rfl, ?_⟩) hS0 ?_
  rotate_left 1
  · rintro w9 ⟨e0, e1, e2⟩
    go_simp
    try with_reducible rfl
  try simp only [Act.put, List.setIfInBounds_toArray, List.set_cons_zero, List.set_cons_succ]
  refine wpAnyH_take (i := 2) (v := ?_) rfl (by kernel_rfl) (by kernel_rfl) (by kernel_rfl) (fun _ _ _ h => h) (Or.inl ⟨by kernel_rfl, ?_⟩) hS0 ?_
  rotate_left 1
  · rintro w9 ⟨e0, e1, e2⟩
    go_simp
    try with_reducible rfl
  try simp only [Act.put, List.setIfInBounds_toArray, List.set_cons_zero, List.set_cons_succ]
  refine wpAnyH_take (i := 3) (v := ?_) rfl (by kernel_rfl) (by kernel_rfl) (by kernel_rfl) (fun _ _ _ h => h) (Or.inl ⟨by kernel_rfl, ?_⟩) hS0 ?_
  rotate_left 1
  · rintro w9 ⟨e0, e1, e2⟩
    go_simp
    try with_reducible rfl
  try simp only [Act.put, List.setIfInBounds_toArray, List.set_cons_zero, List.set_cons_succ]
  refine wpAnyH_take (i := 4) (v := ?_) rfl (by kernel_rfl) (by kernel_rfl) (by kernel_rfl) (fun _ _ _ h => h) (Or.inl ⟨by kernel_rfl, ?_⟩) hS0 ?_
  rotate_left 1
  · rintro w9 ⟨e0, e1, e2⟩
    go_simp
    try with_reducible rfl
  try simp only [Act.put, List.setIfInBounds_toArray, List.set_cons_zero, List.set_cons_succ]
  refine wpAnyH_take (i := 5) (v := ?_) rfl (by kernel_rfl) (by kernel_rfl) (by kernel_rfl) (fun _ _ _ h => h) (Or.inl ⟨by kernel_rfl, ?_⟩) hS0 ?_
  rotate_left 1
  · rintro w9 ⟨e0, e1, e2⟩
    go_simp
    try with_reducible rfl
  try simp only [Act.put, List.setIfInBounds_toArray, List.set_cons_zero, List.set_cons_succ]
  refine wpAnyH_take (i := 6) (v := ?_) rfl (by kernel_rfl) (by kernel_rfl) (by kernel_rfl) (fun _ _ _ h => h) (Or.inl ⟨by kernel_rfl, ?_⟩) hS0 ?_
  rotate_left 1
  · rintro w9 ⟨e0, e1, e2⟩
    go_simp
    try with_reducible rfl
  try simp only [Act.put, List.setIfInBounds_toArray, List.set_cons_zero, List.set_cons_succ]
  refine wpAnyH_take (i := 7) (v := ?_) rfl (by kernel_rfl) (by kernel_rfl) (by kernel_rfl) (fun _ _ _ h => h) (Or.inl ⟨by kernel_rfl, ?_⟩) hS0 ?_
  rotate_left 1
  · rintro w9 ⟨e0, e1, e2⟩
    go_simp
    try with_reducible rfl
  try simp only [Act.put, List.setIfInBounds_toArray, List.set_cons_zero, List.set_cons_succ]
  refine wpAnyH_take (i := 8) (v := undef) rfl (by kernel_rfl) (by kernel_rfl) (by kernel_rfl) (fun _ _ _ h => h) (Or.inr ⟨by kernel_rfl, rfl⟩) hS0 ?_
  try simp only [Act.put, List.setIfInBounds_toArray, List.set_cons_zero, List.set_cons_succ]
  refine wpAnyH_take (i := 9) (v := undef) rfl (by kernel_rfl) (by kernel_rfl) (by kernel_rfl) (fun _ _ _ h => h) (Or.inr ⟨by kernel_rfl, rfl⟩) hS0 ?_
  try simp only [Act.put, List.setIfInBounds_toArray, List.set_cons_zero, List.set_cons_succ]
  refine wpAnyH_take (i := 10) (v := undef) rfl (by kernel_rfl) (by kernel_rfl) (by kernel_rfl) (fun _ _ _ h => h) (Or.inr ⟨by kernel_rfl, rfl⟩) hS0 ?_
  try simp only [Act.put, List.setIfInBounds_toArray, List.set_cons_zero, List.set_cons_succ]
  refine wpAnyH_take (i := 11) (v := undef) rfl (by kernel_rfl) (by kernel_rfl) (by kernel_rfl) (fun _ _ _ h => h) (Or.inr ⟨by kernel_rfl, rfl⟩) hS0 ?_
  try simp only [Act.put, List.setIfInBounds_toArray, List.set_cons_zero, List.set_cons_succ]
  refine wpAnyH_take (i := 12) (v := undef) rfl (by kernel_rfl) (by kernel_rfl) (by kernel_rfl) (fun _ _ _ h => h) (Or.inr ⟨by kernel_rfl, rfl⟩) hS0 ?_
  try simp only [Act.put, List.setIfInBounds_toArray, List.set_cons_zero, List.set_cons_succ]
  refine wpAnyH_take (i := 13) (v := undef) rfl (by kernel_rfl) (by kernel_rfl) (by kernel_rfl) (fun _ _ _ h => h) (Or.inr ⟨by kernel_rfl, rfl⟩) hS0 ?_
  try simp only [Act.put, List.setIfInBounds_toArray, List.set_cons_zero, List.set_cons_succ]
  refine wpAnyH_take (i := 14) (v := undef) rfl (by kernel_rfl) (by kernel_rfl) (by kernel_rfl) (fun _ _ _ h => h) (Or.inr ⟨by kernel_rfl, rfl⟩) hS0 ?_
  try simp only [Act.put, List.setIfInBounds_toArray, List.set_cons_zero, List.set_cons_succ]
  refine wpAnyH_take (i := 15) (v := undef) rfl (by kernel_rfl) (by kernel_rfl) (by kernel_rfl) (fun _ _ _ h => h) (Or.inr ⟨by kernel_rfl, rfl⟩) hS0 ?_
  try simp only [Act.put, List.setIfInBounds_toArray, List.set_cons_zero, List.set_cons_succ]
  refine wpAnyH_take (i := 16) (v := undef) rfl (by kernel_rfl) (by kernel_rfl) (by kernel_rfl) (fun _ _ _ h => h) (Or.inr ⟨by kernel_rfl, rfl⟩) hS0 ?_
  try simp only [Act.put, List.setIfInBounds_toArray, List.set_cons_zero, List.set_cons_succ]
  refine wpAnyH_take (i := 17) (v := ?_) rfl (by kernel_rfl) (by kernel_rfl) (by kernel_rfl) (fun _ _ _ h => h) (Or.inl ⟨by kernel_rfl, ?_⟩) hS0 ?_
  rotate_left 1
  · rintro w9 ⟨e0, e1, e2⟩
    go_simp
    try with_reducible rfl
  try simp only [Act.put, List.setIfInBounds_toArray, List.set_cons_zero, List.set_cons_succ]
  refine wpAnyH_take (i := 18) (v := ?_) rfl (by kernel_rfl) (by kernel_rfl) (by kernel_rfl) (fun _ _ _ h => h) (Or.inl ⟨by kernel_rfl, ?_⟩) hS0 ?_
  rotate_left 1
  · rintro w9 ⟨e0, e1, e2⟩
    go_simp
    try with_reducible rfl
  try simp only [Act.put, List.setIfInBounds_toArray, List.set_cons_zero, List.set_cons_succ]
  refine wpAnyH_take (i := 19) (v := ?_) rfl (by kernel_rfl) (by kernel_rfl) (by kernel_rfl) (fun _ _ _ h => h) (Or.inl ⟨by kernel_rfl, ?_⟩) hS0 ?_
  rotate_left 1
  · rintro w9 ⟨e0, e1, e2⟩
    go_simp
    try with_reducible rfl
  try simp only [Act.put, List.setIfInBounds_toArray, List.set_cons_zero, List.set_cons_succ]
  refine wpAnyH_ready (rs := [20]) (by kernel_rfl) (by simp) ?_
  refine AllReadyH.cons rfl (fun K hK => ?_) AllReadyH.nil
  go_simp
  refine Shut.out hK _ _ ⟨(World.cell?_setCell_other _ _ _ _ (by simp)).trans z1, set_keep x0 z0, set_keep y0 z0⟩ (fun _ => ?_)
  clear hK K
  try simp only [Act.put, List.setIfInBounds_toArray, List.set_cons_zero, List.set_cons_succ]
  refine wpAnyH_done (by kernel_rfl) ?_ _
  exact HN.out _ _ _ _ _ _ _ _ _ _ _ _ _ _ _ _ _ _ _ _
set_option maxRecDepth 100000 in
set_option maxHeartbeats 8000000 in
theorem imq_true {c : Code} (hc : c = imc 4) {zb zo xb xo yb yo nq qc : Nat} {qa : Option Addr} {zn : Bool} {w2 : World} (hp1 : decide ((0 : Int) < (nq : Int)) = true) (hp3 : decide (0 < nq) = true)
    (z1 : w2.cell? ⟨zb, zo + 1, none⟩ = some (.slice qa nq qc)) (x0 : w2.cell? ⟨xb, xo, none⟩ = some (.bool false)) (y0 : w2.cell? ⟨yb, yo, none⟩ = some (.bool false)) (z0 : w2.cell? ⟨zb, zo, none⟩ = some (.bool zn)) (f1 : w2.frozen? ⟨zb, zo, none⟩ = false)
    (u4 u5 u6 u7 u8 u9 u10 u11 u12 u13 u14 u15 u16 u17 u18 u19 u20 u21 u22 u23 u24 u25 u26 u27 u28 u29 u30 u31 u32 u33 u34 u35 u36 u37 u38 u39 u40 u41 u42 u43 u44 u45 u46 u47 u48 u49 u50 u51 u52 u53 u54 u55 u56 u57 u58 u59 u60 u61 u62 u63 : Value) (N : Act → World → Prop)
    (HN : Aside (∀ (v44 v45 v46 v47 v48 v49 v50 v51 v52 v53 v54 v55 v56 v57 v58 v59 v60 v61 v62 v63 : Value), N ⟨#[.pointer (some ⟨zb, zo, none⟩), .pointer none, .pointer (some ⟨xb, xo, none⟩), .pointer (some ⟨yb, yo, none⟩), u4, u5, u6, u7, u8, u9, u10, u11, u12, u13, u14, u15, u16, u17, u18, u19, u20, u21, u22, u23, u24, u25, u26, u27, u28, u29, u30, u31, u32, u33, u34, u35, u36, u37, u38, u39, u40, u41, u42, u43, v44, v45, v46, v47, v48, v49, v50, v51, v52, v53, v54, v55, v56, v57, v58, v59, v60, v61, v62, v63], []⟩ (w2.drew.setCell ⟨zb, zo, none⟩ (.bool false)))) :
    Code.wp Tryz.prog c (QN N) ⟨#[.pointer (some ⟨zb, zo, none⟩), .pointer none, .pointer (some ⟨xb, xo, none⟩), .pointer (some ⟨yb, yo, none⟩), u4, u5, u6, u7, u8, u9, u10, u11, u12, u13, u14, u15, u16, u17, u18, u19, u20, u21, u22, u23, u24, u25, u26, u27, u28, u29, u30, u31, u32, u33, u34, u35, u36, u37, u38, u39, u40, u41, u42, u43, u44, u45, u46, u47, u48, u49, u50, u51, u52, u53, u54, u55, u56, u57, u58, u59, u60, u61, u62, u63], []⟩ w2 := by
  subst hc
  conv => arg 2; whnf
  have hS0 : (fun w' => w'.cell? ⟨zb, zo + 1, none⟩ = some (.slice qa nq qc) ∧ w'.cell? ⟨xb, xo, none⟩ = some (.bool false) ∧ w'.cell? ⟨yb, yo, none⟩ = some (.bool false)) w2.drew := ⟨z1, x0, y0⟩
  refine wp_region_held (S := (fun w' => w'.cell? ⟨zb, zo + 1, none⟩ = some (.slice qa nq qc) ∧ w'.cell? ⟨xb, xo, none⟩ = some (.bool false) ∧ w'.cell? ⟨yb, yo, none⟩ = some (.bool false))) (by kernel_rfl) ?_
  change wpAnyH _ _ _ _ _ _ _ _ (World.drew _)
  refine wpAnyH_take (i := 0) (v := ?_) rfl (by kernel_rfl) (by kernel_rfl) (by kernel_rfl) (fun _ _ _ h => h) (Or.inl ⟨by kernel_rfl, ?_⟩) hS0 ?_
  rotate_left 1
  · rintro w9 ⟨e0, e1, e2⟩
    go_simp
    try with_reducible rfl
  try simp only [Act.put, List.setIfInBounds_toArray, List.set_cons_zero, List.set_cons_succ]
  refine wpAnyH_take (i := 1) (v := ?_) rfl (by kernel_rfl) (by kernel_rfl) (by kernel_rfl) (fun _ _ _ h => h) (Or.inl ⟨by kernel_rfl, ?_⟩) hS0 ?_
  rotate_left 1
  · rintro w9 ⟨e0, e1, e2⟩
    go_simp
    try with_reducible rfl
  try simp only [Act.put, List.setIfInBounds_toArray, List.set_cons_zero, List.set_cons_succ]
  refine wpAnyH_take (i := 2) (v := ?_) rfl (by kernel_rfl) (by kernel_rfl) (by kernel_rfl) (fun _ _ _ h => h) (Or.inl ⟨by kernel_rfl, ?_⟩) hS0 ?_
  rotate_left 1
  · rintro w9 ⟨e0, e1, e2⟩
    go_simp
    try with_reducible rfl
  try simp only [Act.put, List.setIfInBounds_toArray, List.set_cons_zero, List.set_cons_succ]
  refine wpAnyH_take (i := 3) (v := ?_) rfl (by kernel_rfl) (by kernel_rfl) (by kernel_rfl) (fun _ _ _ h => h) (Or.inl ⟨by kernel_rfl, ?_⟩) hS0 ?_
  rotate_left 1
  · rintro w9 ⟨e0, e1, e2⟩
    go_simp
    try with_reducible rfl
  try simp only [Act.put, List.setIfInBounds_toArray, List.set_cons_zero, List.set_cons_succ]
  refine wpAnyH_take (i := 4) (v := ?_) rfl (by kernel_rfl) (by kernel_rfl) (by kernel_rfl) (fun _ _ _ h => h) (Or.inl ⟨by kernel_rfl, ?_⟩) hS0 ?_
  rotate_left 1
  · rintro w9 ⟨e0, e1, e2⟩
    go_simp
    try with_reducible rfl
  try simp only [Act.put, List.setIfInBounds_toArray, List.set_cons_zero, List.set_cons_succ]
  refine wpAnyH_take (i := 5) (v := ?_) rfl (by kernel_rfl) (by kernel_rfl) (by kernel_rfl) (fun _ _ _ h => h) (Or.inl ⟨by kernel_rfl, ?_⟩) hS0 ?_
  rotate_left 1
  · rintro w9 ⟨e0, e1, e2⟩
    go_simp
    try with_reducible rfl
  try simp only [Act.put, List.setIfInBounds_toArray, List.set_cons_zero, List.set_cons_succ]
  refine wpAnyH_take (i := 6) (v := ?_) rfl (by kernel_rfl) (by kernel_rfl) (by kernel_rfl) (fun _ _ _ h => h) (Or.inl ⟨by kernel_rfl, ?_⟩) hS0 ?_
  rotate_left 1
  · rintro w9 ⟨e0, e1, e2⟩
    go_simp
    try with_reducible rfl
  try simp only [Act.put, List.setIfInBounds_toArray, List.set_cons_zero, List.set_cons_succ]
  refine wpAnyH_take (i := 7) (v := ?_) rfl (by kernel_rfl) (by kernel_rfl) (by kernel_rfl) (fun _ _ _ h => h) (Or.inl ⟨by kernel_rfl, ?_⟩) hS0 ?_
  rotate_left 1
  · rintro w9 ⟨e0, e1, e2⟩
    go_simp
    try with_reducible rfl
  try simp only [Act.put, List.setIfInBounds_toArray, List.set_cons_zero, List.set_cons_succ]
  refine wpAnyH_take (i := 8) (v := ?_) rfl (by kernel_rfl) (by kernel_rfl) (by kernel_rfl) (fun _ _ _ h => h) (Or.inl ⟨by kernel_rfl, ?_⟩) hS0 ?_
  rotate_left 1
  · rintro w9 ⟨e0, e1, e2⟩
    go_simp
    try with_reducible rfl
  try simp only [Act.put, List.setIfInBounds_toArray, List.set_cons_zero, List.set_cons_succ]
  refine wpAnyH_take (i := 9) (v := ?_) rfl (by kernel_rfl) (by kernel_rfl) (by kernel_rfl) (fun _ _ _ h => h) (Or.inl ⟨by kernel_rfl, ?_⟩) hS0 ?_
  rotate_left 1
  · rintro w9 ⟨e0, e1, e2⟩
    go_simp
    try with_reducible rfl
  try simp only [Act.put, List.setIfInBounds_toArray, List.set_cons_zero, List.set_cons_succ]
  refine wpAnyH_take (i := 10) (v := ?_) rfl (by kernel_rfl) (by kernel_rfl) (by kernel_rfl) (fun _ _ _ h => h) (Or.inl ⟨by kernel_rfl, ?_⟩) hS0 ?_
  rotate_left 1
  · rintro w9 ⟨e0, e1, e2⟩
    go_simp
    try with_reducible rfl
  try simp only [Act.put, List.setIfInBounds_toArray, List.set_cons_zero, List.set_cons_succ]
  refine wpAnyH_take (i := 11) (v := ?_) rfl (by kernel_rfl) (by kernel_rfl) (by kernel_rfl) (fun _ _ _ h => h) (Or.inl ⟨by kernel_rfl, ?_⟩) hS0 ?_
  rotate_left 1
  · rintro w9 ⟨e0, e1, e2⟩
    go_simp
    try with_reducible rfl
  try simp only [Act.put, List.setIfInBounds_toArray, List.set_cons_zero, List.set_cons_succ]
  refine wpAnyH_take (i := 12) (v := ?_) rfl (by kernel_rfl) (by kernel_rfl) (by kernel_rfl) (fun _ _ _ h => h) (Or.inl ⟨by kernel_rfl, ?_⟩) hS0 ?_
  rotate_left 1
  · rintro w9 ⟨e0, e1, e2⟩
    go_simp
    try with_reducible rfl
  try simp only [Act.put, List.setIfInBounds_toArray, List.set_cons_zero, List.set_cons_succ]
  refine wpAnyH_take (i := 13) (v := ?_) rfl (by kernel_rfl) (by kernel_rfl) (by kernel_rfl) (fun _ _ _ h => h) (Or.inl ⟨by kernel_rfl, ?_⟩) hS0 ?_
  rotate_left 1
  · rintro w9 ⟨e0, e1, e2⟩
    go_simp
    try with_reducible rfl
  try simp only [Act.put, List.setIfInBounds_toArray, List.set_cons_zero, List.set_cons_succ]
  refine wpAnyH_take (i := 14) (v := ?_) rfl (by kernel_rfl) (by kernel_rfl) (by kernel_rfl) (fun _ _ _ h => h) (Or.inl ⟨by kernel_rfl, ?_⟩) hS0 ?_
  rotate_left 1
  · rintro w9 ⟨e0, e1, e2⟩
    go_simp
    try with_reducible rfl
  try simp only [Act.put, List.setIfInBounds_toArray, List.set_cons_zero, List.set_cons_succ]
  refine wpAnyH_take (i := 15) (v := ?_) rfl (by kernel_rfl) (by kernel_rfl) (by kernel_rfl) (fun _ _ _ h => h) (Or.inl ⟨by kernel_rfl, ?_⟩) hS0 ?_
  rotate_left 1
  · rintro w9 ⟨e0, e1, e2⟩
    go_simp
    try with_reducible rfl
  try simp only [Act.put, List.setIfInBounds_toArray, List.set_cons_zero, List.set_cons_succ]
  refine wpAnyH_take (i := 16) (v := ?_) rfl (by kernel_rfl) (by kernel_rfl) (by kernel_rfl) (fun _ _ _ h => h) (Or.inl ⟨by kernel_rfl, ?_⟩) hS0 ?_
  rotate_left 1
  · rintro w9 ⟨e0, e1, e2⟩
    go_simp
    try with_reducible rfl
  try simp only [Act.put, List.setIfInBounds_toArray, List.set_cons_zero, List.set_cons_succ]
  refine wpAnyH_take (i := 17) (v := ?_) rfl (by kernel_rfl) (by kernel_rfl) (by kernel_rfl) (fun _ _ _ h => h) (Or.inl ⟨by kernel_rfl, ?_⟩) hS0 ?_
  rotate_left 1
  · rintro w9 ⟨e0, e1, e2⟩
    go_simp
    try with_reducible rfl
  try simp only [Act.put, List.setIfInBounds_toArray, List.set_cons_zero, List.set_cons_succ]
  refine wpAnyH_take (i := 18) (v := ?_) rfl (by kernel_rfl) (by kernel_rfl) (by kernel_rfl) (fun _ _ _ h => h) (Or.inl ⟨by kernel_rfl, ?_⟩) hS0 ?_
  rotate_left 1
  · rintro w9 ⟨e0, e1, e2⟩
    go_simp
    try with_reducible rfl
  try simp only [Act.put, List.setIfInBounds_toArray, List.set_cons_zero, List.set_cons_succ]
  refine wpAnyH_take (i := 19) (v := ?_) rfl (by kernel_rfl) (by kernel_rfl) (by kernel_rfl) (fun _ _ _ h => h) (Or.inl ⟨by kernel_rfl, ?_⟩) hS0 ?_
  rotate_left 1
  · rintro w9 ⟨e0, e1, e2⟩
    go_simp
    try with_reducible rfl
  try simp only [Act.put, List.setIfInBounds_toArray, List.set_cons_zero, List.set_cons_succ]
  refine wpAnyH_ready (rs := [20]) (by kernel_rfl) (by simp) ?_
  refine AllReadyH.cons rfl (fun K hK => ?_) AllReadyH.nil
  go_simp
  refine Shut.out hK _ _ ⟨(World.cell?_setCell_other _ _ _ _ (by simp)).trans z1, set_keep x0 z0, set_keep y0 z0⟩ (fun _ => ?_)
  clear hK K
  try simp only [Act.put, List.setIfInBounds_toArray, List.set_cons_zero, List.set_cons_succ]
  refine wpAnyH_done (by kernel_rfl) ?_ _
  exact HN.out _ _ _ _ _ _ _ _ _ _ _ _ _ _ _ _ _ _ _ _
end Go.Proofs.YtgilnnipephfjaaGreatDoor
namespace Go.Proofs.YtgilnnipephfjaaGreatDoor
open Go.RowKit

set_option maxRecDepth 100000 in
set_option maxHeartbeats 4000000 in
theorem imul_any {zb zo xb xo yb yo : Nat} {zn : Bool} {za xa ya : Option Addr} {zc xc yc Z X Y : Nat} {w : World} (g : Gl w) (hz : IA w zb zo zn za zc Z) (hx : IA w xb xo false xa xc X) (hy : IA w yb yo false ya yc Y)
    (hxy : xb ≠ yb ∨ xo ≠ yo) (m1 : zb ≠ xb ∨ zo + 1 ≠ xo) (m2 : zb ≠ yb ∨ zo + 1 ≠ yo) (dzx : Ap za zc xa xc) (dzy : Ap za zc ya yc) (hm : nlen X < 1000) (hn : nlen Y < 1000) (h40 : nlen X < 40 ∨ nlen Y < 40) :
    Calls Tryz.prog 185 #[.pointer (some ⟨zb, zo, none⟩), .pointer none, .pointer (some ⟨xb, xo, none⟩), .pointer (some ⟨yb, yo, none⟩)] w fun e w' => e = .returned (.tuple #[]) ∧ ∃ a' c', Aside (IA w' zb zo false a' c' (X * Y) ∧ Fr (ifoot zb zo za zc) w w' ∧ Out w za zc a' c') := by
  have hza := hz.abs
  have hxa := hx.abs
  have hya := hy.abs
  have hp := run_eqlI_other (a := ⟨xb, xo, none⟩) (x := ⟨yb, yo, none⟩) hx.blk hy.blk (by simp only [ne_eq, Addr.mk.injEq, and_true]; omega)
  have HM : Hid (∀ d, Calls Tryz.prog 219 #[.slice za (nlen Z) zc, .pointer none, .slice xa (nlen X) xc, .slice ya (nlen Y) yc] (w.drewN d) fun e w1 => ∃ a' c', e = .returned (.slice a' (nlen (X * Y)) c') ∧
      (w1.cell? ⟨zb, zo, none⟩ = some (.bool zn) ∧ w1.cell? ⟨zb, zo + 1, none⟩ = some (.slice za (nlen Z) zc) ∧ w1.frozen? ⟨zb, zo, none⟩ = false ∧ w1.frozen? ⟨zb, zo + 1, none⟩ = false ∧ w1.cell? ⟨xb, xo, none⟩ = some (.bool false) ∧ w1.cell? ⟨yb, yo, none⟩ = some (.bool false)) ∧
      Aside (Nt w1 a' c' (X * Y) ∧ Fr (foot za zc) w w1 ∧ Out w za zc a' c')) := Lib.hid (fun d => by
    have f0 := (Fr.refl (foot za zc) w).drewN d
    refine (mul_any (.pointer none) (g.drewN d) (hz.nt.reg.drewN d) hz.nt.len (hx.nt.drewN d) (hy.nt.drewN d) hm hn h40 dzx dzy).mono ?_
    rintro e w1 ⟨a', c', rfl, k1, k2, k3⟩
    have f := f0.trans k2
    have c0 : ∀ {b o : Nat} {n : Bool} {a : Option Addr} {c N : Nat}, IA w b o n a c N → w1.cell? ⟨b, o, none⟩ = some (.bool n) ∧ w1.cell? ⟨b, o + 1, none⟩ = some (.slice a (nlen N) c) := fun {b o n a c N} h =>
      ⟨(f.cell _ _ h.blk.lt (h.apart hz.nt.reg).1).trans h.neg, (f.cell _ _ h.blk.lt (h.apart hz.nt.reg).2).trans h.abs⟩
    exact ⟨a', c', rfl, ⟨(c0 hz).1, (c0 hz).2, (f.blk hz.blk).free _, (f.blk hz.blk).free _, (c0 hx).1, (c0 hy).1⟩, ⟨k1, f, k3⟩⟩)
  have HF : Aside (∀ {qa : Option Addr} {qc : Nat} {w1 : World}, Nt w1 qa qc (X * Y) → Fr (foot za zc) w w1 → Out w za zc qa qc → w1.cell? ⟨zb, zo + 1, none⟩ = some (.slice za (nlen Z) zc) → w1.cell? ⟨zb, zo, none⟩ = some (.bool zn) →
    IA ((w1.setCell ⟨zb, zo + 1, none⟩ (.slice qa (nlen (X * Y)) qc)).drew.setCell ⟨zb, zo, none⟩ (.bool false)) zb zo false qa qc (X * Y) ∧
    Fr (ifoot zb zo za zc) w ((w1.setCell ⟨zb, zo + 1, none⟩ (.slice qa (nlen (X * Y)) qc)).drew.setCell ⟨zb, zo, none⟩ (.bool false))) := ⟨fun q f o d z => quo1_fin hz q f o d z⟩
  obtain ⟨lz, hlz⟩ : ∃ n, nlen Z = n := ⟨_, rfl⟩
  obtain ⟨lx, hlx⟩ : ∃ n, nlen X = n := ⟨_, rfl⟩
  obtain ⟨ly, hly⟩ : ∃ n, nlen Y = n := ⟨_, rfl⟩
  obtain ⟨nq, hnq⟩ : ∃ n, nlen (X * Y) = n := ⟨_, rfl⟩
  rw [hlz] at hza
  rw [hlx] at hxa
  rw [hly] at hya
  rw [hlz, hlx, hly, hnq] at HM
  rw [hlz, hnq] at HF
  obtain ⟨p1, hp1⟩ : ∃ p, decide ((0 : Int) < (nq : Int)) = p := ⟨_, rfl⟩
  have hp3 : decide (0 < nq) = p1 := by rw [← hp1]; simp
  have HG := Aside.mk (And.intro hp1 hp3)
  have m8 : zb ≠ zb ∨ zo + 1 ≠ zo := .inr (Nat.ne_of_gt (Nat.lt_succ_self _))
  have HM8 := Aside.mk (And.intro m1 (And.intro m2 m8))
  clear g hz hx hy hxy m1 m2 m8 dzx dzy hm hn h40 hlz hlx hly hnq hp1 hp3
  go_enter Tryz.func185, Tryz.ntmps185
  go_wp2_with fail
  go_region_with (go_at_call 219; go_must (refine (HM.out _).mono ?_; rintro e w1 ⟨qa, qc, rfl, ⟨z0, d1, f0, f1, x0, y0⟩, K⟩))
  all_goals
    obtain ⟨kq, kf, ko⟩ := K.out
    obtain ⟨m1, m2, m8⟩ := HM8.out
    have hfin := Aside.mk (And.intro (HF.out kq kf ko d1 z0) ko)
    have c1 : (w1.setCell ⟨zb, zo + 1, none⟩ (.slice qa nq qc)).cell? ⟨zb, zo + 1, none⟩ = some (.slice qa nq qc) := World.cell?_setCell_same _ _ _ d1
    have c3 : (w1.setCell ⟨zb, zo + 1, none⟩ (.slice qa nq qc)).cell? ⟨zb, zo, none⟩ = some (.bool zn) := cell_far2 m8 z0
    have c5 : (w1.setCell ⟨zb, zo + 1, none⟩ (.slice qa nq qc)).cell? ⟨xb, xo, none⟩ = some (.bool false) := cell_far2 m1 x0
    have c6 : (w1.setCell ⟨zb, zo + 1, none⟩ (.slice qa nq qc)).cell? ⟨yb, yo, none⟩ = some (.bool false) := cell_far2 m2 y0
    have e1 : (w1.setCell ⟨zb, zo + 1, none⟩ (.slice qa nq qc)).frozen? ⟨zb, zo, none⟩ = false := by rw [World.frozen?_setCell]; exact f0
    clear kq kf ko z0 f0 f1 x0 y0 d1 K HM hza hxa hya hp m1 m2 m8
    obtain ⟨w2, hw2⟩ : ∃ x, w1.setCell ⟨zb, zo + 1, none⟩ (.slice qa nq qc) = x := ⟨_, rfl⟩
    have hfin2 : Aside (IA (w2.drew.setCell ⟨zb, zo, none⟩ (.bool false)) zb zo false qa qc (X * Y) ∧ Fr (ifoot zb zo za zc) w (w2.drew.setCell ⟨zb, zo, none⟩ (.bool false)) ∧ Out w za zc qa qc) := ⟨by
      subst hw2
      exact ⟨hfin.out.1.1, hfin.out.1.2, hfin.out.2⟩⟩
    clear hfin
    rw [hw2] at c1 c3 c5 c6 e1 ⊢
    clear hw2
    try go_upto_region 2 with fail
    cases p1
    · refine wp_QN (imq_false (by kernel_rfl) HG.out.1 HG.out.2 c1 c5 c6 c3 e1 _ _ _ _ _ _ _ _ _ _ _ _ _ _ _ _ _ _ _ _ _ _ _ _ _ _ _ _ _ _ _ _ _ _ _ _ _ _ _ _ _ _ _ _ _ _ _ _ _ _ _ _ _ _ _ _ _ _ _ _ _ ⟨?_⟩)
      intro y44 y45 y46 y47 y48 y49 y50 y51 y52 y53 y54 y55 y56 y57 y58 y59 y60 y61 y62 y63
      try go_wp2_with fail
      go_end0
      exact ⟨rfl, qa, qc, hfin2⟩
    · refine wp_QN (imq_true (by kernel_rfl) HG.out.1 HG.out.2 c1 c5 c6 c3 e1 _ _ _ _ _ _ _ _ _ _ _ _ _ _ _ _ _ _ _ _ _ _ _ _ _ _ _ _ _ _ _ _ _ _ _ _ _ _ _ _ _ _ _ _ _ _ _ _ _ _ _ _ _ _ _ _ _ _ _ _ _ ⟨?_⟩)
      intro y44 y45 y46 y47 y48 y49 y50 y51 y52 y53 y54 y55 y56 y57 y58 y59 y60 y61 y62 y63
      try go_wp2_with fail
      go_end0
      exact ⟨rfl, qa, qc, hfin2⟩
set_option maxRecDepth 100000 in
theorem iMul_any {zb zo xb xo yb yo : Nat} {zn : Bool} {za xa ya : Option Addr} {zc xc yc Z X Y : Nat} {w : World} (g : Gl w) (hz : IA w zb zo zn za zc Z) (hx : IA w xb xo false xa xc X) (hy : IA w yb yo false ya yc Y)
    (hxy : xb ≠ yb ∨ xo ≠ yo) (m1 : zb ≠ xb ∨ zo + 1 ≠ xo) (m2 : zb ≠ yb ∨ zo + 1 ≠ yo) (dzx : Ap za zc xa xc) (dzy : Ap za zc ya yc) (hm : nlen X < 1000) (hn : nlen Y < 1000) (h40 : nlen X < 40 ∨ nlen Y < 40) :
    Calls Tryz.prog 143 #[.pointer (some ⟨zb, zo, none⟩), .pointer (some ⟨xb, xo, none⟩), .pointer (some ⟨yb, yo, none⟩)] w fun e w' => ∃ a' c', e = .returned (.pointer (some ⟨zb, zo, none⟩)) ∧ Aside (IA w' zb zo false a' c' (X * Y) ∧ Fr (ifoot zb zo za zc) w w' ∧ Out w za zc a' c') := by
  have H := Lib.hid (imul_any g hz hx hy hxy m1 m2 dzx dzy hm hn h40)
  clear g hz hx hy hxy m1 m2 dzx dzy hm hn h40
  go_enter Tryz.func143, Tryz.ntmps143
  go_wp2_with fail
  refine H.out.mono ?_
  rintro e w1 ⟨rfl, a', c', S⟩
  clear H
  go_wp2_with fail
  go_ret
  exact ⟨a', c', rfl, S⟩
set_option maxRecDepth 100000 in
theorem bMul_any {zb zo xb xo yb yo : Nat} {zn : Bool} {za xa ya : Option Addr} {zc xc yc Z X Y : Nat} {w : World} (g : Gl w) (hz : IA w zb zo zn za zc Z) (hx : IA w xb xo false xa xc X) (hy : IA w yb yo false ya yc Y)
    (hxy : xb ≠ yb ∨ xo ≠ yo) (m1 : zb ≠ xb ∨ zo + 1 ≠ xo) (m2 : zb ≠ yb ∨ zo + 1 ≠ yo) (dzx : Ap za zc xa xc) (dzy : Ap za zc ya yc) (hm : nlen X < 1000) (hn : nlen Y < 1000) (h40 : nlen X < 40 ∨ nlen Y < 40) :
    Calls Tryz.prog 102 #[.pointer (some ⟨zb, zo, none⟩), .pointer (some ⟨xb, xo, none⟩), .pointer (some ⟨yb, yo, none⟩)] w fun e w' => ∃ a' c', e = .returned (.pointer (some ⟨zb, zo, none⟩)) ∧ Aside (IA w' zb zo false a' c' (X * Y) ∧ Fr (ifoot zb zo za zc) w w' ∧ Out w za zc a' c') := by
  have H : Hid (∀ d, Calls Tryz.prog 143 #[.pointer (some ⟨zb, zo, none⟩), .pointer (some ⟨xb, xo, none⟩), .pointer (some ⟨yb, yo, none⟩)] (w.drewN d) fun e w' => ∃ a' c', e = .returned (.pointer (some ⟨zb, zo, none⟩)) ∧ Aside (IA w' zb zo false a' c' (X * Y) ∧ Fr (ifoot zb zo za zc) w w' ∧ Out w za zc a' c')) := Lib.hid (fun d => by
    have f0 : Fr (fun _ _ => False) w (w.drewN d) := (Fr.refl _ w).drewN d
    refine (iMul_any (w := w.drewN d) (g.fr f0 (fun _ _ k => k.elim)) (hz.drewN d) (hx.drewN d) (hy.drewN d) hxy m1 m2 dzx dzy hm hn h40).mono ?_
    rintro e w1 ⟨qa, qc, rfl, k⟩
    exact ⟨qa, qc, rfl, ⟨k.out.1, ((Fr.refl _ w).drewN d).trans k.out.2.1, k.out.2.2⟩⟩)
  clear g hz hx hy hxy m1 m2 dzx dzy hm hn h40
  go_enter Tryz.func102, Tryz.ntmps102
  go_wp2_with fail
  go_region_with (go_at_call 143; go_must (refine (H.out _).mono ?_; rintro e w1 ⟨qa, qc, rfl, k⟩))
  all_goals
    clear H
    go_wp2_with fail
    go_ret
    exact ⟨qa, qc, rfl, k⟩
end Go.Proofs.YtgilnnipephfjaaGreatDoor
