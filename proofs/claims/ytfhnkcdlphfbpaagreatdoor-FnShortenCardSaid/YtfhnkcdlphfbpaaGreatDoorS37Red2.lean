/- Methods of Int on one word: IsUint64, Uint64, SetUint64, Neg in place; apd's BigInt over them. The noughts at the end of a number; plain laws (for FnShorten). Decimal.Reduce of a decimal whose coefficient is one word; setBig. Decimal.Reduce of a decimal of more than one word: the loop of divisions by ten. -/
import Derived.Test.YtfhnkcdlphfbpaaGreatDoorM25Dig
import Derived.Test.YtfhnkcdlphfbpaaGreatDoorM10Txt
import Derived.Test.YtfhnkcdlphfbpaaGreatDoorM26Dec3
import Derived.Test.YtfhnkcdlphfbpaaGreatDoorS36Quo3
set_option linter.unusedSimpArgs false
set_option linter.unusedVariables false
namespace Go.Proofs.YtfhnkcdlphfbpaaGreatDoor
open Go.RowKit

theorem nlen_le_one {X : Nat} : nlen X ≤ 1 ↔ X < B := by
  constructor
  · intro h
    have h1 := nlen_lt X
    have h2 : B ^ nlen X ≤ B ^ 1 := Nat.pow_le_pow_right B_pos h
    rw [Nat.pow_one] at h2
    omega
  · intro h
    by_cases h0 : X = 0
    · subst h0; rw [nlen_zero]; omega
    · have := nlen_le (v := X) (m := 1) (by rw [Nat.pow_one]; exact h)
      omega
set_option maxRecDepth 100000 in
theorem iIsUint64_pos {b o : Nat} {a : Option Addr} {c X : Nat} {w : World} (h : IA w b o false a c X) :
    Calls Tryz.prog 111 #[.pointer (some ⟨b, o, none⟩)] w fun e w' => e = .returned (.bool (decide (X < B))) ∧ w' = w := by
  have hn := h.neg
  have ha := h.abs
  have e : decide ((nlen X : Int) ≤ 1) = decide (X < B) := by
    rw [decide_eq_decide]
    have := nlen_le_one (X := X)
    omega
  clear h
  go_enter Tryz.func111, Tryz.ntmps111
  go_wp2_with fail
  go_ret
  exact ⟨by first | rfl | rw [e] | simp [e], rfl⟩
set_option maxRecDepth 100000 in
theorem bIsUint64_pos {b o : Nat} {a : Option Addr} {c X : Nat} {w : World} (h : IA w b o false a c X) :
    Calls Tryz.prog 81 #[.pointer (some ⟨b, o, none⟩)] w fun e w' => e = .returned (.bool (decide (X < B))) ∧ w' = w := by
  have H := Lib.hid (iIsUint64_pos h)
  clear h
  go_enter Tryz.func81, Tryz.ntmps81
  go_wp2_with fail
  refine H.out.mono ?_
  rintro e w1 ⟨rfl, rfl⟩
  go_wp2_with fail
  go_ret
  exact ⟨rfl, rfl⟩
set_option maxRecDepth 100000 in
theorem low64_any {a : Option Addr} {c X : Nat} {w : World} (h : Nt w a c X) :
    Calls Tryz.prog 135 #[.slice a (nlen X) c] w fun e w' => e = .returned (.int .u64 (wd X 0 : Nat)) ∧ w' = w := by
  have e := nlen_beq X
  by_cases h0 : X = 0
  · have hd : decide (X = 0) = true := by simpa using h0
    have hs : wd X 0 = 0 := by rw [h0]; exact wd_zero 0
    clear h h0
    go_enter Tryz.func135, Tryz.ntmps135
    go_wp2_with fail
    go_ret
    exact ⟨by rw [hs]; rfl, rfl⟩
  · obtain ⟨b, o, rfl, _, hw⟩ := h.pos h0
    have hd : decide (X = 0) = false := by simpa using h0
    have hc := hw.cell 0 (nlen_pos h0)
    rw [Nat.add_zero] at hc
    have hp := nlen_pos h0
    clear h h0 hw
    go_enter Tryz.func135, Tryz.ntmps135
    go_wp2_with fail
    go_ret
    exact ⟨rfl, rfl⟩
set_option maxRecDepth 100000 in
theorem iUint64_any {b o : Nat} {neg : Bool} {a : Option Addr} {c X : Nat} {w : World} (h : IA w b o neg a c X) :
    Calls Tryz.prog 112 #[.pointer (some ⟨b, o, none⟩)] w fun e w' => e = .returned (.int .u64 (wd X 0 : Nat)) ∧ w' = w := by
  have ha := h.abs
  have H := Lib.hid (low64_any h.nt)
  clear h
  go_enter Tryz.func112, Tryz.ntmps112
  go_wp2_with fail
  refine H.out.mono ?_
  rintro e w1 ⟨rfl, rfl⟩
  go_wp2_with fail
  go_ret
  exact ⟨rfl, rfl⟩
set_option maxRecDepth 100000 in
theorem bUint64_any {b o : Nat} {neg : Bool} {a : Option Addr} {c X : Nat} {w : World} (h : IA w b o neg a c X) :
    Calls Tryz.prog 82 #[.pointer (some ⟨b, o, none⟩)] w fun e w' => e = .returned (.int .u64 (wd X 0 : Nat)) ∧ w' = w := by
  have H := Lib.hid (iUint64_any h)
  clear h
  go_enter Tryz.func82, Tryz.ntmps82
  go_wp2_with fail
  refine H.out.mono ?_
  rintro e w1 ⟨rfl, rfl⟩
  go_wp2_with fail
  go_ret
  exact ⟨rfl, rfl⟩
set_option maxRecDepth 100000 in
theorem iSetUint64_any {b o : Nat} {neg : Bool} {a : Option Addr} {c X : Nat} {w : World} (x : Nat) (hG : NG ≤ w.heap.size) (h : IA w b o neg a c X) (hx : x < B) :
    Calls Tryz.prog 113 #[.pointer (some ⟨b, o, none⟩), .int .u64 (x : Nat)] w fun e w' => ∃ a' c', e = .returned (.pointer (some ⟨b, o, none⟩)) ∧ IA w' b o false a' c' x ∧ Fr (ifoot b o a c) w w' ∧ Out w a c a' c' := by
  have hS := Lib.hid (setUint64_any (zl := nlen X) hG h.nt.reg hx)
  have hn := h.neg
  have ha := h.abs
  have HI := Aside.mk h
  have hlt := h.blk.lt
  clear h hx
  go_enter Tryz.func113, Tryz.ntmps113
  go_wp2_with fail
  refine hS.out.mono ?_
  rintro e w1 ⟨a', c', rfl, s1, s2, s3⟩
  have M := Aside.mk (HI.out.made false s1 s2 s3)
  have HO := Aside.mk s3
  obtain ⟨k1, k2, k3, k4⟩ := HI.out.open HI.out.nt.reg s2
  clear s1 s2 s3 hn ha
  go_wp2_with fail
  go_ret
  exact ⟨a', c', rfl, M.out.1, M.out.2, HO.out⟩
set_option maxRecDepth 100000 in
theorem bSetUint64_any {b o : Nat} {neg : Bool} {a : Option Addr} {c X : Nat} {w : World} (x : Nat) (hG : NG ≤ w.heap.size) (h : IA w b o neg a c X) (hx : x < B) :
    Calls Tryz.prog 83 #[.pointer (some ⟨b, o, none⟩), .int .u64 (x : Nat)] w fun e w' => ∃ a' c', e = .returned (.pointer (some ⟨b, o, none⟩)) ∧ IA w' b o false a' c' x ∧ Fr (ifoot b o a c) w w' ∧ Out w a c a' c' := by
  have H := Lib.hid (iSetUint64_any x hG h hx)
  clear h hx
  go_enter Tryz.func83, Tryz.ntmps83
  go_wp2_with fail
  refine H.out.mono ?_
  rintro e w1 ⟨a', c', rfl, s⟩
  have S := Aside.mk s
  clear s H
  go_wp2_with fail
  go_ret
  exact ⟨a', c', rfl, S.out⟩
set_option maxRecDepth 100000 in
theorem iNeg_self {b o : Nat} {neg : Bool} {a : Option Addr} {c X : Nat} {w : World} (h : IA w b o neg a c X) :
    Calls Tryz.prog 138 #[.pointer (some ⟨b, o, none⟩), .pointer (some ⟨b, o, none⟩)] w fun e w' => e = .returned (.pointer (some ⟨b, o, none⟩)) ∧ IA w' b o (decide (0 < X) && !neg) a c X ∧ Fr (fun b' o' => b' = b ∧ o' = o) w w' := by
  have hn := h.neg
  have ha := h.abs
  have hf := h.blk.free o
  have HH := Aside.mk h
  clear h
  have H := Lib.hid (setI_self (b := b) (o := o) (w := w))
  have key : ∀ v : Bool, IA (w.setCell ⟨b, o, none⟩ (.bool v)) b o v a c X ∧ Fr (fun b' o' => b' = b ∧ o' = o) w (w.setCell ⟨b, o, none⟩ (.bool v)) := fun v => by
    have h := HH.out
    have g := (Fr.refl (fun b' o' => b' = b ∧ o' = o) w).setCell b o (.bool v) (fun _ => ⟨rfl, rfl⟩)
    refine ⟨⟨World.cell?_setCell_same _ _ _ hn, (World.cell?_setCell_other _ _ _ _ (by simp)).trans h.abs, g.nt h.nt ?_, g.blk h.blk⟩, g⟩
    rintro b' o' k ⟨rfl, rfl⟩
    exact (h.apart h.nt.reg).1 k
  have KEY := Aside.mk key
  clear key
  by_cases h0 : 0 < X
  · have hd : decide (0 < X) = true := by simpa using h0
    have hp1 : 0 < nlen X := nlen_pos (by omega)
    have hp2 : (0 : Int) < (nlen X : Int) := by omega
    rw [hd]
    clear h0 hd
    go_enter Tryz.func138, Tryz.ntmps138
    go_wp2_with fail
    refine H.out.mono ?_
    rintro e1 w1 ⟨rfl, rfl⟩
    clear H
    cases neg <;>
    · go_wp2_with fail
      go_ret
      exact ⟨rfl, KEY.out _⟩
  · have hd : decide (0 < X) = false := by simpa using h0
    rw [hd]
    obtain rfl : X = 0 := by omega
    rw [nlen_zero] at ha
    clear h0 hd
    go_enter Tryz.func138, Tryz.ntmps138
    go_wp2_with fail
    refine H.out.mono ?_
    rintro e1 w1 ⟨rfl, rfl⟩
    clear H
    go_wp2_with fail
    go_ret
    exact ⟨rfl, KEY.out _⟩
set_option maxRecDepth 100000 in
theorem bNeg_self {b o : Nat} {neg : Bool} {a : Option Addr} {c X : Nat} {w : World} (h : IA w b o neg a c X) :
    Calls Tryz.prog 114 #[.pointer (some ⟨b, o, none⟩), .pointer (some ⟨b, o, none⟩)] w fun e w' => e = .returned (.pointer (some ⟨b, o, none⟩)) ∧ IA w' b o (decide (0 < X) && !neg) a c X ∧ Fr (fun b' o' => b' = b ∧ o' = o) w w' := by
  have H := Lib.hid (fun d => iNeg_self (h.drewN d))
  clear h
  go_enter Tryz.func114, Tryz.ntmps114
  go_wp2_with fail
  go_region_with (go_at_call 138; go_must (refine (H.out _).mono ?_; rintro e w1 ⟨rfl, s⟩))
  all_goals
    have S := Aside.mk s
    clear s
    go_wp2_with fail
    go_ret
    exact ⟨rfl, S.out.1, ((Fr.refl _ w).drewN _).trans S.out.2⟩
end Go.Proofs.YtfhnkcdlphfbpaaGreatDoor
namespace Go.Proofs.YtfhnkcdlphfbpaaGreatDoor
open Go.RowKit

/-- How many noughts a number ends with; 0 of 0. -/
def tz (X : Nat) : Nat := if h : X ≠ 0 ∧ X % 10 = 0 then tz (X / 10) + 1 else 0
termination_by X
theorem tz_step {X : Nat} (h0 : X ≠ 0) (h : X % 10 = 0) : tz X = tz (X / 10) + 1 := by
  rw [tz.eq_def, dif_pos ⟨h0, h⟩]
theorem tz_stop {X : Nat} (h : X % 10 ≠ 0) : tz X = 0 := by
  rw [tz.eq_def, dif_neg (fun k => h k.2)]
/-- A number without its noughts: what the loops of Reduce leave. -/
theorem tz_of {i : Nat} (k : Nat) (h : i % 10 ≠ 0) : tz (i * 10 ^ k) = k ∧ i * 10 ^ k / 10 ^ k = i := by
  refine ⟨?_, Nat.mul_div_cancel _ (Nat.pow_pos (by omega))⟩
  induction k with
  | zero => rw [Nat.pow_zero, Nat.mul_one]; exact tz_stop h
  | succ k ih =>
    have e : i * 10 ^ (k + 1) = i * 10 ^ k * 10 := by rw [Nat.pow_succ, Nat.mul_assoc]
    have hp : 0 < i * 10 ^ k := Nat.mul_pos (by omega) (Nat.pow_pos (by omega))
    rw [e, tz_step (by omega) (by omega), Nat.mul_div_cancel _ (by omega), ih]
theorem dg_div (X j i : Nat) : dg (X / 10 ^ j) i = dg X (i + j) := by
  unfold dg
  rw [Nat.div_div_eq_div_mul, ← Nat.pow_add, Nat.add_comm]
theorem tz_below {X : Nat} : ∀ k, k < tz X → dg X k = 0 := by
  induction X using Nat.strongRecOn with
  | ind X ih =>
    intro k hk
    by_cases h : X ≠ 0 ∧ X % 10 = 0
    · rw [tz_step h.1 h.2] at hk
      rcases k with _ | k
      · unfold dg; rw [Nat.pow_zero, Nat.div_one]; exact h.2
      · have := ih (X / 10) (by omega) k (by omega)
        have e := dg_div X 1 k
        rw [Nat.pow_one] at e
        rw [← e]; exact this
    · rw [tz.eq_def, dif_neg h] at hk
      omega
theorem tz_at {X : Nat} (h0 : X ≠ 0) : dg X (tz X) ≠ 0 := by
  induction X using Nat.strongRecOn with
  | ind X ih =>
    by_cases h : X % 10 = 0
    · rw [tz_step h0 h]
      have := ih (X / 10) (by omega) (by omega)
      have e := dg_div X 1 (tz (X / 10))
      rw [Nat.pow_one] at e
      rw [← e]; exact this
    · rw [tz_stop h]; unfold dg; rw [Nat.pow_zero, Nat.div_one]; exact h
theorem tz_lt {X : Nat} (h0 : X ≠ 0) : tz X < ndig X := by
  apply Nat.lt_of_not_le
  intro k
  exact tz_at h0 (dg_high k)
theorem ndig_div {X j : Nat} (h : j < ndig X) : ndig (X / 10 ^ j) = ndig X - j := by
  by_cases h0 : X = 0
  · subst h0
    have : ndig 0 = 1 := by unfold ndig; rw [dif_pos (by omega)]
    have hj : j = 0 := by omega
    subst hj; rw [Nat.pow_zero, Nat.div_one, Nat.sub_zero]
  · obtain ⟨m, hm⟩ : ∃ m, ndig X = j + m + 1 := ⟨ndig X - j - 1, by omega⟩
    have h1 := ndig_le h0
    have h2 := lt_ndig X
    rw [hm] at h1 h2 ⊢
    have e1 : j + m + 1 - 1 = m + j := by omega
    have e2 : j + m + 1 - j = m + 1 := by omega
    have e3 : j + m + 1 = j + (m + 1) := by omega
    rw [e1, Nat.pow_add] at h1
    rw [e3, Nat.pow_add] at h2
    rw [e2]
    exact ndig_eq_of ((Nat.le_div_iff_mul_le (Nat.pow_pos (by omega))).2 h1) (Nat.div_lt_of_lt_mul h2)
/-- The text without its last j digits. -/
theorem natText_div {X j : Nat} (h : j < ndig X) : natText (X / 10 ^ j) = (natText X).take (ndig X - j) := by
  apply List.ext_getElem
  · rw [List.length_take, natText_length, natText_length, ndig_div h]; omega
  · intro i h1 h2
    rw [List.getElem_take]
    simp only [natText, List.getElem_map, List.getElem_range]
    rw [natText_length, ndig_div h] at h1
    rw [ndig_div h, dg_div]
    congr 3
    omega
end Go.Proofs.YtfhnkcdlphfbpaaGreatDoor
namespace Go.Proofs.YtfhnkcdlphfbpaaGreatDoor
open Go.RowKit

set_option maxRecDepth 100000 in
theorem setBig_any {w : World} {b zb : Nat} {f : Int} {n zn : Bool} {e : Int} {a : Option Addr} {c X : Nat} (hG : NG ≤ w.heap.size) (h : DA w b f n e a c X) (hz : IA w zb 0 zn none 0 0) (hzb : zb ≠ b) (hn : nlen X < 900000) :
    Calls Tryz.prog 84 #[.pointer (some ⟨b, 0, none⟩), .pointer (some ⟨zb, 0, none⟩)] w fun ex w' => ∃ n' a' c', ex = .returned (.pointer (some ⟨zb, 0, none⟩)) ∧ Aside (IA w' zb 0 n' a' c' X ∧ Fr (ifoot zb 0 none 0) w w' ∧ Out w none 0 a' c') := by
  have HZ := Aside.mk (And.intro h hz)
  have H := Lib.hid (bSet_other hG hz h.num (.inl hzb) hn)
  have hnc := h.neg
  clear h hz hn
  go_enter Tryz.func84, Tryz.ntmps84
  go_wp2_with fail
  refine H.out.mono ?_
  rintro ex w1 ⟨a', c', rfl, k1, k2, k3⟩
  have k4 := k2.cell b 1 HZ.out.1.lt (fun q => by
    rcases q with ⟨q, _⟩ | q
    · exact hzb q.symm
    · exact foot_none _ _ _ q)
  rw [hnc] at k4
  have K := Aside.mk (And.intro k1 (And.intro k2 k3))
  have H2 := Lib.hid (bNeg_self k1)
  clear k1 k2 k3 H hnc
  cases n
  · clear H2
    go_wp2_with fail
    go_ret
    exact ⟨_, a', c', rfl, K⟩
  · go_wp2_with fail
    refine H2.out.mono ?_
    rintro ex w2 ⟨rfl, k5, k6⟩
    have K5 := Aside.mk (And.intro k5 k6)
    clear k5 k6 H2 k4
    go_wp2_with fail
    go_ret
    exact ⟨_, a', c', rfl, ⟨K5.out.1, K.out.2.1.trans' K5.out.2 (fun _ _ _ q => q) (fun x y _ q => .inl ⟨q.1, .inl q.2⟩), K.out.2.2⟩⟩

theorem Out.tr {w w2 : World} {a a2 a3 : Option Addr} {c c2 c3 : Nat} (h : Out w a c a2 c2) (k : Out w2 a2 c2 a3 c3) (hs : w.heap.size ≤ w2.heap.size) : Out w a c a3 c3 := by
  rcases k with ⟨rfl, rfl⟩ | ⟨b, o, rfl, hb⟩
  · exact h
  · exact .inr ⟨b, o, rfl, Nat.le_trans hs hb⟩
theorem dfoot_out {w : World} {b : Nat} {a a2 : Option Addr} {c c2 : Nat} (h : Out w a c a2 c2) : ∀ x y, x < w.heap.size → dfoot b a2 c2 x y → dfoot b a c x y := fun x y hx q => by
  rcases h with ⟨rfl, rfl⟩ | ⟨b', o', rfl, hb⟩
  · exact q
  · rcases q with q | q
    · exact .inl q
    · rw [foot_some] at q; omega
theorem Out.apart' {w : World} {a a' : Option Addr} {c c' : Nat} {P : Nat → Nat → Prop} (h : Out w a c a' c') (hx : ∀ x y, P x y → x < w.heap.size) (hap : ∀ x y, foot a c x y → ¬ P x y) : ∀ x y, foot a' c' x y → ¬ P x y := fun x y q1 q2 => by
  rcases h with ⟨rfl, rfl⟩ | ⟨b', o', rfl, hb⟩
  · exact hap x y q1 q2
  · have := hx x y q2; rw [foot_some] at q1; omega
theorem Out.above {w : World} {a a' : Option Addr} {c c' N : Nat} (h : Out w a c a' c') (hN : N ≤ w.heap.size) (ha : ∀ x y, foot a c x y → N ≤ x) : ∀ x y, foot a' c' x y → N ≤ x := fun x y q => by
  rcases h with ⟨rfl, rfl⟩ | ⟨b', o', rfl, hb⟩
  · exact ha x y q
  · rw [foot_some] at q; omega
theorem dsgn_nz {n : Bool} {X : Nat} (h : X ≠ 0) : dsgn 0 n X = if n then -1 else 1 := by unfold dsgn; rw [if_neg (fun k => h k.2)]
theorem pow_lt_small {i k X : Nat} (hi : 0 < i) (h : X = i * 10 ^ k) (hX : X < B) : k < 20 := by
  apply Nat.lt_of_not_le
  intro hk
  have h1 : 10 ^ 20 ≤ 10 ^ k := Nat.pow_le_pow_right (by omega) hk
  have h2 : 1 * 10 ^ k ≤ i * 10 ^ k := Nat.mul_le_mul_right _ hi
  have h3 : B < 10 ^ 20 := by decide
  omega
theorem mul_pow4 {i k X : Nat} (h : X = i * 10 ^ k) (hm : i % 10000 = 0) : X = (i / 10000) * 10 ^ (k + 4) := by
  rw [h, Nat.pow_add, show (10 : Nat) ^ 4 = 10000 from rfl, Nat.mul_comm (10 ^ k) 10000, ← Nat.mul_assoc, Nat.div_mul_cancel (Nat.dvd_of_mod_eq_zero hm)]
theorem mul_pow1 {i k X : Nat} (h : X = i * 10 ^ k) (hm : i % 10 = 0) : X = (i / 10) * 10 ^ (k + 1) := by
  rw [h, Nat.pow_succ, Nat.mul_comm (10 ^ k) 10, ← Nat.mul_assoc, Nat.div_mul_cancel (Nat.dvd_of_mod_eq_zero hm)]
set_option maxRecDepth 100000 in
set_option maxHeartbeats 4000000 in
theorem reduce_small {w : World} {b b' : Nat} {f : Int} {n n' : Bool} {e e' : Int} {a a' : Option Addr} {c c' X X' : Nat} (hG : NG ≤ w.heap.size) (h : DA w b f n e a c X') (h' : DA w b' 0 n' e' a' c' X) (hap : DAp b a c b' a' c')
    (h0 : X ≠ 0) (hB : X < B) (he0 : -100000 ≤ e') (he1 : e' ≤ 100000) :
    Calls Tryz.prog 51 #[.pointer (some ⟨b, 0, none⟩), .pointer (some ⟨b', 0, none⟩)] w fun ex w' => ∃ a2 c2, ex = .returned (.tuple #[.pointer (some ⟨b, 0, none⟩), .int .i64 (tz X : Nat)]) ∧
      Aside (DA w' b 0 n' (e' + (tz X : Nat)) a2 c2 (X / 10 ^ tz X) ∧ Fr (dfoot b a c) w w' ∧ Out w a c a2 c2) := by
  have hf' := h'.form
  have HS := dSign_any h'
  rw [dsgn_nz h0] at HS
  have hS := Lib.hid HS
  have hn900 : nlen X < 900000 := by have := (nlen_le_one (X := X)).2 hB; omega
  have H1 := Lib.hid (dSet_other hG h h' hap hn900)
  have HB := Aside.mk hB
  have H0 := Aside.mk h0
  have hwe : ∀ k : Nat, k < 20 → IntKind.i32.wrap (k : Int) = k ∧ IntKind.i32.wrap (e' + (k : Int)) = e' + k := fun k hk => by rw [IntKind.wrap_i32, IntKind.wrap_i32]; omega
  have HWE := Aside.mk hwe
  clear HS h h' hap h0 hB hn900 hwe
  go_enter Tryz.func51, Tryz.ntmps51
  go_wp2_with fail
  refine hS.out.mono ?_
  rintro ex w1 ⟨rfl, rfl⟩
  clear hS
  cases n' <;> simp only [if_true, if_false, Bool.false_eq_true] <;>
  · go_wp2_with fail
    refine H1.out.mono ?_
    rintro ex w2 ⟨a2, c2, rfl, k1, k2, k3⟩
    have HI := Lib.hid (bIsUint64_pos k1.num)
    have HU := Lib.hid (bUint64_any k1.num)
    have hd : decide (X < B) = true := by simpa using HB.out
    rw [hd] at HI
    rw [wd_word HB.out] at HU
    have x2 := k1.exp
    have x1 := k1.neg
    have y2 := k1.num.blk.free 2
    have y1 := k1.num.blk.free 1
    have hG2 := Nat.le_trans hG k2.size
    have K := Aside.mk (And.intro k1 (And.intro k2 k3))
    clear k1 k2 k3 H1 hd hf'
    go_wp2_with fail
    refine HI.out.mono ?_
    rintro ex w3 ⟨rfl, rfl⟩
    clear HI
    go_wp2_with fail
    refine HU.out.mono ?_
    rintro ex w4 ⟨rfl, rfl⟩
    clear HU
    go_wp2_with fail
    go_loop [8, 6] (fun iv kv => ∃ i k : Nat, iv = .int .u64 (i : Nat) ∧ kv = .int .i64 (k : Nat) ∧ 0 < i ∧ i < B ∧ k < 20 ∧ Aside (X = i * 10 ^ k)) (fun iv _ => (intOf iv).toNat)
    case atStart => exact ⟨X, 0, rfl, rfl, Nat.pos_of_ne_zero H0.out, HB.out, by omega, ⟨by rw [Nat.pow_zero, Nat.mul_one]⟩⟩
    case round =>
      obtain ⟨i, k, rfl, rfl, hi, hiB, hk, hE⟩ := hrel
      by_cases hA : 10000 ≤ i ∧ i % 10000 = 0
      · have hge : (10000 : Int) ≤ (i : Int) := by omega
        have hm : (((i : Int) % 10000) == 0) = true := by rw [beq_iff_eq]; omega
        have hw : IntKind.u64.wrap ((i : Int) / 10000) = ((i / 10000 : Nat) : Int) := by
          have := wrapU (n := i / 10000) (by omega)
          rwa [Int.natCast_ediv] at this ⊢
        have hE2 := Aside.mk (mul_pow4 hE.out hA.2)
        have hi2 : 0 < i / 10000 := by omega
        have hk2 := pow_lt_small hi2 hE2.out HB.out
        have hl2 : i / 10000 < i := by omega
        obtain ⟨j, hj⟩ : ∃ j, i / 10000 = j := ⟨_, rfl⟩
        rw [hj] at hw hE2 hi2 hl2
        have HJ := Aside.mk hj
        clear hA hj hE hi
        go_wp2_with fail
        go_round
        case rel => exact ⟨j, k + 4, rfl, by go_num, hi2, by omega, hk2, hE2⟩
        case measure => simp [intOf]; omega
      · have hor : (¬ 10000 ≤ i) ∨ (10000 ≤ i ∧ ¬ i % 10000 = 0) := by omega
        clear hA
        rcases hor with hlt | ⟨hge, hne⟩
        case' inl =>
          have hlt' : ¬ (10000 : Int) ≤ (i : Int) := by omega
          clear hlt
          go_wp2_with fail
        case' inr =>
          have hge' : (10000 : Int) ≤ (i : Int) := by omega
          have hm : (((i : Int) % 10000) == 0) = false := by rw [beq_eq_false_iff_ne]; omega
          clear hge hne
          go_wp2_with fail
        all_goals
          go_loop [8, 6] (fun iv kv => ∃ i k : Nat, iv = .int .u64 (i : Nat) ∧ kv = .int .i64 (k : Nat) ∧ 0 < i ∧ i < B ∧ k < 20 ∧ Aside (X = i * 10 ^ k)) (fun iv _ => (intOf iv).toNat)
          case atStart => exact ⟨i, k, rfl, rfl, hi, hiB, hk, hE⟩
          case round =>
            obtain ⟨i2, k2, rfl, rfl, hi2, hiB2, hk2, hE2⟩ := hrel
            by_cases h10 : i2 % 10 = 0
            · have hm2 : (((i2 : Int) % 10) == 0) = true := by rw [beq_iff_eq]; omega
              have hw2 : IntKind.u64.wrap ((i2 : Int) / 10) = ((i2 / 10 : Nat) : Int) := by
                have := wrapU (n := i2 / 10) (by omega)
                rwa [Int.natCast_ediv] at this ⊢
              have hE3 := Aside.mk (mul_pow1 hE2.out h10)
              have hi3 : 0 < i2 / 10 := by omega
              have hk3 := pow_lt_small hi3 hE3.out HB.out
              have hl3 : i2 / 10 < i2 := by omega
              obtain ⟨j2, hj2⟩ : ∃ j, i2 / 10 = j := ⟨_, rfl⟩
              rw [hj2] at hw2 hE3 hi3 hl3
              clear h10 hj2 hE2 hi2
              go_wp2_with fail
              go_round
              case rel => exact ⟨j2, k2 + 1, rfl, by go_num, hi3, by omega, hk3, hE3⟩
              case measure => simp [intOf]; omega
            · have hm2 : (((i2 : Int) % 10) == 0) = false := by rw [beq_eq_false_iff_ne]; omega
              have hT := tz_of k2 h10
              rw [← hE2.out] at hT
              have HT := Aside.mk hT
              have hW := HWE.out k2 hk2
              clear h10 hT hE2
              by_cases hz : k2 = 0
              · subst hz
                go_wp2_with fail
                go_ret2
                rw [HT.out.1]
                refine ⟨rfl, _, _, ⟨?_, K.out.2.1, K.out.2.2⟩⟩
                have := K.out.1
                simpa using this
              · have hkne : (((k2 : Nat) : Int) != 0) = true := by simp; omega
                have D1 := Aside.mk (K.out.1.setExp (e' + k2))
                have HSU := Lib.hid (bSetUint64_any (w := w4.setCell ⟨b, 2, none⟩ (.int .i32 (e' + k2))) i2 (by simpa using hG2) D1.out.num hiB2)
                obtain ⟨hW1, hW2⟩ := hW
                have HZ := Aside.mk hz
                clear hz
                go_wp2_with fail
                refine HSU.out.mono ?_
                rintro ex w5 ⟨a3, c3, rfl, q1, q2, q3⟩
                have D2 := Aside.mk (D1.out.put q1 q2)
                have n1 := D2.out.neg
                have n2 := D2.out.num.blk.free 1
                have Q := Aside.mk (And.intro q2 q3)
                clear q1 q2 q3 HSU x2 x1 y2 y1
                go_wp2_with fail
                go_ret2
                rw [HT.out.1, HT.out.2]
                refine ⟨a3, c3, rfl, ⟨D2.out.setNeg _, ?_, ?_⟩⟩
                · exact ((K.out.2.1.setD 2 _).trans' Q.out.1 (fun _ _ _ q => q) (fun x y hx q => dfoot_out K.out.2.2 x y hx (ifoot_d x y q))).setD 1 _
                · exact K.out.2.2.tr Q.out.2 (by have := K.out.2.1.size; simpa using this)
end Go.Proofs.YtfhnkcdlphfbpaaGreatDoor
namespace Go.Proofs.YtfhnkcdlphfbpaaGreatDoor
open Go.RowKit

/-- Three numbers under way: the decimal at b, the quotient at zb, the remainder at rb. -/
structure RC (w0 wr : World) (b zb rb : Nat) (n : Bool) (e : Int) (a0 : Option Addr) (c0 C : Nat) (zn : Bool) (Z : Nat) (rn : Bool) (R : Nat) (a : Option Addr) (c : Nat) (za : Option Addr) (zc : Nat) (ra : Option Addr) (rc : Nat) : Prop where
  d : DA wr b 0 n e a c C
  z : IA wr zb 0 zn za zc Z
  r : IA wr rb 0 rn ra rc R
  zd : ∀ x y, foot za zc x y → ¬ dfoot b a c x y
  rd : ∀ x y, foot ra rc x y → ¬ dfoot b a c x y
  zr : Disj za zc ra rc
  fr : Fr (dfoot b a0 c0) w0 wr
  out : Out w0 a0 c0 a c
  zo : ∀ x y, foot za zc x y → w0.heap.size ≤ x
  ro : ∀ x y, foot ra rc x y → w0.heap.size ≤ x
  n1 : zb ≠ rb
  n2 : zb ≠ b
  n3 : rb ≠ b
  zl : w0.heap.size ≤ zb
  rl : w0.heap.size ≤ rb
def RB (w0 wr : World) (b zb rb : Nat) (n : Bool) (e : Int) (a0 : Option Addr) (c0 C : Nat) : Prop := ∃ zn Z rn R a c za zc ra rc, RC w0 wr b zb rb n e a0 c0 C zn Z rn R a c za zc ra rc
def RQ (w0 wr : World) (b zb rb : Nat) (n : Bool) (e : Int) (a0 : Option Addr) (c0 C : Nat) : Prop := ∃ a c za zc ra rc, RC w0 wr b zb rb n e a0 c0 C false (C / 10) false (C % 10) a c za zc ra rc

theorem Reg.ng {w : World} {a : Option Addr} {c : Nat} (h : Reg w a c) : ∀ x y, foot a c x y → NG ≤ x := by
  rintro b o ⟨b', o', rfl, rfl, _, _⟩
  rcases h.2 with ⟨k, _⟩ | ⟨b'', o'', e, ho⟩
  · cases k
  · cases e; exact ho.kind.1
theorem DA.ng {w : World} {b : Nat} {f : Int} {n : Bool} {e : Int} {a : Option Addr} {c X : Nat} (h : DA w b f n e a c X) : ∀ x y, dfoot b a c x y → NG ≤ x := fun x y q => by
  rcases q with rfl | q
  · exact h.num.blk.1
  · exact h.num.nt.reg.ng x y q
theorem DA.below {w : World} {b : Nat} {f : Int} {n : Bool} {e : Int} {a : Option Addr} {c X : Nat} (h : DA w b f n e a c X) : ∀ x y, dfoot b a c x y → x < w.heap.size := fun x y q => by
  rcases q with rfl | q
  · exact h.lt
  · exact h.num.nt.reg.lt x y q
theorem IA.clear {w : World} {b o : Nat} {neg : Bool} {a : Option Addr} {c X : Nat} (h : IA w b o neg a c X) {b' : Nat} {a' : Option Addr} {c' : Nat} (hr : Reg w a' c') (hb : b ≠ b') (hd : ∀ x y, foot a c x y → ¬ dfoot b' a' c' x y) : ∀ x y, dfoot b' a' c' x y → ¬ ifoot b o a c x y := fun x y q k => by
  rcases k with ⟨rfl, k⟩ | k
  · rcases q with q | q
    · exact hb q
    · rcases k with rfl | rfl
      · exact (h.apart hr).1 q
      · exact (h.apart hr).2 q
  · exact hd x y k q
theorem RB.new {w0 wr w1 : World} {b zb rb : Nat} {n : Bool} {e : Int} {a0 : Option Addr} {c0 C : Nat} (h : RB w0 wr b zb rb n e a0 c0 C) (f : Fr (fun _ _ => False) wr w1) : RB w0 w1 b zb rb n e a0 c0 C := by
  obtain ⟨zn, Z, rn, R, a, c, za, zc, ra, rc, h⟩ := h
  exact ⟨zn, Z, rn, R, a, c, za, zc, ra, rc, h.d.fr f (fun _ _ _ q => q), h.z.fr f (fun _ _ _ q => q), h.r.fr f (fun _ _ _ q => q), h.zd, h.rd, h.zr, h.fr.trans' f (fun _ _ _ q => q) (fun _ _ _ q => q.elim), h.out, h.zo, h.ro, h.n1, h.n2, h.n3, h.zl, h.rl⟩
theorem RB.quo {w0 wx wr : World} {b zb rb : Nat} {n : Bool} {e : Int} {a0 : Option Addr} {c0 C : Nat} (h : RB w0 wx b zb rb n e a0 c0 C) (g : Gl w0) (hng : ∀ x y, dfoot b a0 c0 x y → NG ≤ x) (hn : nlen C < 1000) (fx : Fr (fun _ _ => False) wx wr) :
    Calls Tryz.prog 85 #[] wr fun ex w1 => ∃ tb, ex = .returned (.pointer (some ⟨tb, 0, none⟩)) ∧ Hid (∀ wy, Fr (fun _ _ => False) w1 wy → Calls Tryz.prog 67 #[.pointer (some ⟨zb, 0, none⟩), .pointer (some ⟨b, 3, none⟩), .pointer (some ⟨tb, 0, none⟩), .pointer (some ⟨rb, 0, none⟩)] wy fun ex w2 => ∃ v, ex = .returned v ∧ Aside (RQ w0 w2 b zb rb n e a0 c0 C)) := by
  replace h := h.new fx
  obtain ⟨zn, Z, rn, R, a, c, za, zc, ra, rc, h⟩ := h
  have gr : Gl wr := g.fr h.fr hng
  refine (bigTen wr gr.size).mono ?_
  rintro ex w1 ⟨ta, tc, rfl, t1, t2, t3⟩
  refine ⟨_, rfl, Lib.hid (fun wy fy => ?_)⟩
  have f0 : Fr (fun _ _ => False) wr wy := t2.trans fy
  have hzl : zb < wr.heap.size := h.z.blk.lt
  have hrl : rb < wr.heap.size := h.r.blk.lt
  have hdl : ∀ x y, dfoot b a c x y → x < wr.heap.size := fun x y q => by
    rcases q with rfl | q
    · exact h.d.lt
    · exact h.d.num.nt.reg.lt x y q
  have D := h.d.fr f0 (fun _ _ _ q => q)
  refine (bQuoRem_any (gr.fr f0 (fun _ _ q => q.elim)) (h.z.fr f0 (fun _ _ _ q => q)) (h.r.fr f0 (fun _ _ _ q => q)) D.num (t1.fr fy (fun _ _ _ q => q)) (by omega) (by decide) hn (.inl h.n1) (.inl h.n2) (.inl (by omega)) (.inl h.n3) (.inl (by omega)) h.zr (.inr (fun x y q1 q2 => h.zd x y q1 (.inr q2))) (.inr (fun x y q1 q2 => h.rd x y q1 (.inr q2)))).mono ?_
  rintro ex w2 ⟨qa, qc, sa, sc, rfl, K⟩
  obtain ⟨k1, k2, k3, k4, k5, k6⟩ := K.out
  have hs1 : wr.heap.size ≤ wy.heap.size := f0.size
  have hs0 : w0.heap.size ≤ wr.heap.size := h.fr.size
  have zd' := k4.apart' (P := dfoot b a c) (fun x y q => Nat.lt_of_lt_of_le (hdl x y q) hs1) h.zd
  have rd' := k5.apart' (P := dfoot b a c) (fun x y q => Nat.lt_of_lt_of_le (hdl x y q) hs1) h.rd
  have zo' := k4.above (Nat.le_trans hs0 hs1) h.zo
  have ro' := k5.above (Nat.le_trans hs0 hs1) h.ro
  have zc' := h.z.clear h.d.num.nt.reg h.n2 h.zd
  have rc' := h.r.clear h.d.num.nt.reg h.n3 h.rd
  refine ⟨_, rfl, ⟨a, c, qa, qc, sa, sc, D.fr k3 (fun x y q1 q2 => q2.elim (zc' x y q1) (rc' x y q1)), k1, k2, zd', rd', k6, ?_, h.out, zo', ro', h.n1, h.n2, h.n3, h.zl, h.rl⟩⟩
  refine (h.fr.trans' f0 (U := dfoot b a0 c0) (fun _ _ _ q => q) (fun _ _ _ q => q.elim)).trans' k3 (fun _ _ _ q => q) (fun x y hx q => ?_)
  have hz := h.zl
  have hr := h.rl
  rcases q with (⟨rfl, _⟩ | q) | (⟨rfl, _⟩ | q)
  · omega
  · have := h.zo x y q; omega
  · omega
  · have := h.ro x y q; omega

theorem RQ.set {w0 w2 : World} {b zb rb : Nat} {n : Bool} {e : Int} {a0 : Option Addr} {c0 C : Nat} (h : RQ w0 w2 b zb rb n e a0 c0 C) (hG : NG ≤ w0.heap.size) (hn : nlen (C / 10) < 900000) :
    Calls Tryz.prog 87 #[.pointer (some ⟨b, 3, none⟩), .pointer (some ⟨zb, 0, none⟩)] w2 fun ex w3 => ∃ v, ex = .returned v ∧ Aside (RB w0 w3 b zb rb n e a0 c0 (C / 10)) := by
  obtain ⟨a, c, za, zc, ra, rc, h⟩ := h
  refine (bSet_other (Nat.le_trans hG h.fr.size) h.d.num h.z (.inl (fun q => h.n2 q.symm)) hn).mono ?_
  rintro ex w3 ⟨a3, c3, rfl, k1, k2, k3⟩
  have zc' := h.z.clear h.d.num.nt.reg h.n2 h.zd
  have rc' := h.r.clear h.d.num.nt.reg h.n3 h.rd
  have hs := h.fr.size
  refine ⟨_, rfl, ⟨false, C / 10, false, C % 10, a3, c3, za, zc, ra, rc, h.d.put k1 k2, h.z.fr k2 (fun x y q1 q2 => zc' x y (ifoot_d x y q2) q1), h.r.fr k2 (fun x y q1 q2 => rc' x y (ifoot_d x y q2) q1), ?_, ?_, h.zr, ?_, h.out.tr k3 hs, h.zo, h.ro, h.n1, h.n2, h.n3, h.zl, h.rl⟩⟩
  · intro x y q1 q2
    exact h.zd x y q1 (dfoot_out k3 x y (h.z.nt.reg.lt x y q1) q2)
  · intro x y q1 q2
    exact h.rd x y q1 (dfoot_out k3 x y (h.r.nt.reg.lt x y q1) q2)
  · exact h.fr.trans' k2 (fun _ _ _ q => q) (fun x y hx q => dfoot_out h.out x y hx (ifoot_d x y q))
theorem RQ.sign {w0 w2 : World} {b zb rb : Nat} {n : Bool} {e : Int} {a0 : Option Addr} {c0 C : Nat} (h : RQ w0 w2 b zb rb n e a0 c0 C) :
    Calls Tryz.prog 86 #[.pointer (some ⟨rb, 0, none⟩)] w2 fun ex w3 => ex = .returned (.int .i64 (sgn false (C % 10))) ∧ w3 = w2 := by
  obtain ⟨a, c, za, zc, ra, rc, h⟩ := h
  exact bSign_any h.r
theorem RQ.fin {w0 w2 : World} {b zb rb : Nat} {n : Bool} {e : Int} {a0 : Option Addr} {c0 C : Nat} (h : RQ w0 w2 b zb rb n e a0 c0 C) (k : Nat) :
    w2.cell? ⟨b, 2, none⟩ = some (.int .i32 e) ∧ w2.frozen? ⟨b, 2, none⟩ = false ∧ ∃ a c, DA (w2.setCell ⟨b, 2, none⟩ (.int .i32 (e + k))) b 0 n (e + k) a c C ∧ Fr (dfoot b a0 c0) w0 (w2.setCell ⟨b, 2, none⟩ (.int .i32 (e + k))) ∧ Out w0 a0 c0 a c := by
  obtain ⟨a, c, za, zc, ra, rc, h⟩ := h
  exact ⟨h.d.exp, h.d.num.blk.free 2, a, c, h.d.setExp _, h.fr.setD 2 _, h.out⟩
theorem RB.start {w0 w1 w2 : World} {b zb rb : Nat} {n n' : Bool} {e : Int} {a0 a az : Option Addr} {c0 c cz X : Nat} (d : DA w1 b 0 n e a c X) (hfr : Fr (dfoot b a0 c0) w0 w1) (ho : Out w0 a0 c0 a c) (hr : IA w1 rb 0 false none 0 0) (hz1 : IA w1 zb 0 false none 0 0) (hz : IA w2 zb 0 n' az cz X) (k : Fr (ifoot zb 0 none 0) w1 w2) (oz : Out w1 none 0 az cz)
    (n1 : zb ≠ rb) (n2 : zb ≠ b) (n3 : rb ≠ b) (zl : w0.heap.size ≤ zb) (rl : w0.heap.size ≤ rb) : RB w0 w2 b zb rb n e a0 c0 X := by
  have hz0 : ∀ x y, ifoot zb 0 none 0 x y → x = zb := fun x y q => by
    rcases q with ⟨q, _⟩ | q
    · exact q
    · exact absurd q (foot_none _ _ _)
  have hs := hfr.size
  have hb := d.lt
  have zo := oz.above (N := w1.heap.size) (Nat.le_refl _) (fun x y q => absurd q (foot_none _ _ _))
  refine ⟨n', X, false, 0, a, c, az, cz, none, 0, d.fr k (hz1.clear d.num.nt.reg n2 (fun x y q => absurd q (foot_none _ _ _))), hz, hr.fr k (fun x y q1 q2 => ?_), ?_, fun x y q => absurd q (foot_none _ _ _), fun x y _ q => absurd q (foot_none _ _ _), hfr.trans' k (fun _ _ _ q => q) (fun x y hx q => ?_), ho, fun x y q => Nat.le_trans hs (zo x y q), fun x y q => absurd q (foot_none _ _ _), n1, n2, n3, zl, rl⟩
  · have e1 := hz0 x y q2
    rcases q1 with ⟨q1, _⟩ | q1
    · omega
    · exact absurd q1 (foot_none _ _ _)
  · intro x y q1 q2
    have h1 := zo x y q1
    have h2 := d.below x y q2
    omega
  · have := hz0 x y q
    omega
theorem pow_le_mul {C k X : Nat} (hC : 0 < C) (h : X = C * 10 ^ k) : k < ndig X := by
  have h1 : 1 * 10 ^ k ≤ C * 10 ^ k := Nat.mul_le_mul_right _ hC
  have h2 := lt_ndig X
  have h3 : 10 ^ k < 10 ^ ndig X := by omega
  exact (Nat.pow_lt_pow_iff_right (by decide : 1 < 10)).1 h3
set_option maxRecDepth 100000 in
set_option maxHeartbeats 4000000 in
theorem reduce_big {w : World} {b b' : Nat} {f : Int} {n n' : Bool} {e e' : Int} {a a' : Option Addr} {c c' X X' : Nat} (g : Gl w) (h : DA w b f n e a c X') (h' : DA w b' 0 n' e' a' c' X) (hap : DAp b a c b' a' c')
    (hB : B ≤ X) (hnl : nlen X < 1000) (hnd : ndig X ≤ 100000) (he0 : -100000 ≤ e') (he1 : e' ≤ 100000) :
    Calls Tryz.prog 51 #[.pointer (some ⟨b, 0, none⟩), .pointer (some ⟨b', 0, none⟩)] w fun ex w' => ∃ a2 c2, ex = .returned (.tuple #[.pointer (some ⟨b, 0, none⟩), .int .i64 (tz X : Nat)]) ∧
      Aside (DA w' b 0 n' (e' + (tz X : Nat)) a2 c2 (X / 10 ^ tz X) ∧ Fr (dfoot b a c) w w' ∧ Out w a c a2 c2) := by
  have h0 : X ≠ 0 := by have := B_pos; omega
  have hf' := h'.form
  have HS := dSign_any h'
  rw [dsgn_nz h0] at HS
  have hS := Lib.hid HS
  have hn900 : nlen X < 900000 := by omega
  have H1 := Lib.hid (dSet_other g.size h h' hap hn900)
  have HX := Aside.mk (And.intro hB (And.intro hnl h0))
  have hwe : ∀ k : Nat, k < ndig X → IntKind.i32.wrap (k : Int) = k ∧ IntKind.i32.wrap (e' + (k : Int)) = e' + k := fun k hk => by rw [IntKind.wrap_i32, IntKind.wrap_i32]; omega
  have HWE := Aside.mk hwe
  have HG := Aside.mk g
  have HNG := Aside.mk h.ng
  have HND := Aside.mk hnd
  clear HS h h' hap h0 hB hn900 hwe g hnl hnd
  go_enter Tryz.func51, Tryz.ntmps51
  go_wp2_with fail
  have hor : (if n' = true then (-1 : Int) else 1) = -1 ∨ (if n' = true then (-1 : Int) else 1) = 1 := by cases n' <;> simp
  rcases hor with hb | hb <;> rw [hb] at hS <;>
  · refine hS.out.mono ?_
    rintro ex w1 ⟨rfl, rfl⟩
    clear hS hb
    go_wp2_with fail
    refine H1.out.mono ?_
    rintro ex w2 ⟨a2, c2, rfl, k1, k2, k3⟩
    have HI := Lib.hid (bIsUint64_pos k1.num)
    have hd : decide (X < B) = false := by simpa using HX.out.1
    rw [hd] at HI
    have hG2 := Nat.le_trans HG.out.size k2.size
    have K := Aside.mk (And.intro k1 (And.intro k2 k3))
    clear k1 k2 k3 H1 hd hf'
    go_wp2_with fail
    refine HI.out.mono ?_
    rintro ex w3 ⟨rfl, rfl⟩
    clear HI
    obtain ⟨zb, hzb⟩ : ∃ t, w3.heap.size = t := ⟨_, rfl⟩
    have NZ := IA.new hG2 66
    have NR := IA.new (w := w3.alloc (.cells #[.bool false, .slice none 0 0] 66)) (by simp; omega) 66
    have fz := (Fr.refl (fun _ _ => False) w3).alloc (.cells #[.bool false, .slice none 0 0] 66)
    have fr := (Fr.refl (fun _ _ => False) (w3.alloc (.cells #[.bool false, .slice none 0 0] 66))).alloc (.cells #[.bool false, .slice none 0 0] 66)
    have NZ2 := NZ.fr fr (fun _ _ _ q => q)
    have D4 := K.out.1.fr (fz.trans fr) (fun _ _ _ q => q)
    have F4 := K.out.2.1.trans' (fz.trans fr) (U := dfoot b a c) (fun _ _ _ q => q) (fun _ _ _ q => q.elim)
    have es : (w3.alloc (.cells #[.bool false, .slice none 0 0] 66)).heap.size = w3.heap.size + 1 := by simp
    rw [es] at NR
    rw [hzb] at NR NZ2
    have hbz : b < zb := by rw [← hzb]; exact K.out.1.lt
    have hwz : w1.heap.size ≤ zb := by rw [← hzb]; exact K.out.2.1.size
    have HSB := setBig_any (Nat.le_trans hG2 (by have := (fz.trans fr).size; omega)) D4 NZ2 (by omega) (by have := HX.out.2.1; omega)
    have HQ : Hid (Calls Tryz.prog 84 #[.pointer (some ⟨b, 0, none⟩), .pointer (some ⟨zb, 0, none⟩)] ((w3.alloc (.cells #[.bool false, .slice none 0 0] 66)).alloc (.cells #[.bool false, .slice none 0 0] 66)) fun ex w5 => ex = .returned (.pointer (some ⟨zb, 0, none⟩)) ∧ Aside (RB w1 w5 b zb (zb + 1) n' e' a c X)) := Lib.hid (HSB.mono (by
      rintro ex w5 ⟨nn, a', c', rfl, q⟩
      exact ⟨rfl, ⟨RB.start D4 F4 K.out.2.2 NR NZ2 q.out.1 q.out.2.1 q.out.2.2 (by omega) (by omega) (by omega) hwz (by omega)⟩⟩))
    clear NZ NR fz fr NZ2 D4 F4 es HSB hbz hwz hG2
    go_wp2_with fail
    try rw [hzb]
    refine HQ.out.mono ?_
    rintro ex w5 ⟨rfl, R0⟩
    clear HQ hzb
    go_wp2_with fail
    go_loopw [6] (fun kv wr => ∃ k C : Nat, kv = .int .i64 (k : Nat) ∧ k < ndig X ∧ 0 < C ∧ Aside (X = C * 10 ^ k) ∧ Aside (RB w1 wr b zb (zb + 1) n' e' a c C)) (fun kv _ => ndig X - (intOf kv).toNat)
    case atStart => exact ⟨0, X, rfl, ndig_pos X, Nat.pos_of_ne_zero HX.out.2.2, ⟨by rw [Nat.pow_zero, Nat.mul_one]⟩, R0⟩
    case round =>
      obtain ⟨k, C, rfl, hk, hC, hE, hR⟩ := hrel
      have hCX : C ≤ X := by
        rw [hE.out]
        exact Nat.le_mul_of_pos_right _ (Nat.pow_pos (by omega))
      have hCn : nlen C < 1000 := Nat.lt_of_le_of_lt (nlen_mono hCX) HX.out.2.1
      have H2 := Lib.hid (fun wr' (fx : Fr (fun _ _ => False) wr wr') => hR.out.quo HG.out HNG.out hCn fx)
      have hk9 : k < 100000 := Nat.lt_of_lt_of_le hk HND.out
      have HC := Aside.mk (And.intro hC (And.intro hCX hCn))
      clear hC hCX hCn hR R0
      go_wp2_with fail
      go_region_with (first | (go_at_call 85; go_must (refine (H2.out _ (by repeat first | exact Fr.refl _ _ | refine Fr.drewN ?_ _ | refine Fr.drew ?_)).mono ?_; rintro ex w6 ⟨tb, rfl, H3⟩)) | (go_at_call 67; go_must (refine (H3.out _ (by repeat first | exact Fr.refl _ _ | refine Fr.drewN ?_ _ | refine Fr.drew ?_)).mono ?_; rintro ex w7 ⟨v, rfl, R1⟩)))
      all_goals
        clear H2 H3
        have H4 := Lib.hid R1.out.sign
        have H5 := Lib.hid (R1.out.set HG.out.size (by have := nlen_mono (Nat.div_le_self C 10); have := HC.out.2.2; omega))
        by_cases h10 : C % 10 = 0
        · have hs0 : sgn false (C % 10) = 0 := by rw [h10]; rfl
          rw [hs0] at H4
          have hE2 := Aside.mk (mul_pow1 hE.out h10)
          have hC2 : 0 < C / 10 := by have := HC.out.1; omega
          have hk2 := pow_le_mul hC2 hE2.out
          clear h10 hs0
          go_wp2_with fail
          refine H4.out.mono ?_
          rintro ex w8 ⟨rfl, rfl⟩
          clear H4
          go_wp2_with fail
          refine H5.out.mono ?_
          rintro ex w9 ⟨v2, rfl, R2⟩
          clear H5
          go_wp2_with fail
          go_roundw
          case rel => exact ⟨k + 1, C / 10, by go_num, hk2, hC2, hE2, R2⟩
          case measure => simp [intOf]; omega
        · have hs1 : sgn false (C % 10) = 1 := by unfold sgn; rw [if_neg h10]; rfl
          rw [hs1] at H4
          have hT := tz_of k h10
          rw [← hE.out] at hT
          have HT := Aside.mk hT
          have hW := HWE.out k hk
          have hF := R1.out.fin k
          have HF := Aside.mk hF.2.2
          have x2 := hF.1
          have y2 := hF.2.1
          clear h10 hs1 H5 hF hT
          obtain ⟨hW1, hW2⟩ := hW
          go_wp2_with fail
          refine H4.out.mono ?_
          rintro ex w8 ⟨rfl, rfl⟩
          clear H4
          go_wp2_with fail
          go_ret2
          rw [HT.out.1, HT.out.2]
          obtain ⟨a3, c3, q1, q2, q3⟩ := HF.out
          exact ⟨a3, c3, rfl, ⟨q1, q2, q3⟩⟩
end Go.Proofs.YtfhnkcdlphfbpaaGreatDoor
