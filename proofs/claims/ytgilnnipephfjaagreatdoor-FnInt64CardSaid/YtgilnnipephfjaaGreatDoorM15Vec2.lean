/- Division of numbers of several words, a digit a time: plain laws of numbers, and words written into the midst of others. Division of numbers of several words: the state in memory between two digits. Contracts of arith.go: addVV, subVV, lshVU, rshVU. -/
import Derived.Test.YtgilnnipephfjaaGreatDoorM01Mem
import Derived.Test.YtgilnnipephfjaaGreatDoorM03Mul
set_option linter.unusedSimpArgs false
set_option linter.unusedVariables false
namespace Go.Proofs.YtgilnnipephfjaaGreatDoor
open Go.RowKit

theorem kn_top {b n T V : Nat} (hb : 0 < b) (hT : T < V * b) : T / b ^ (n + 1) ≤ V / b ^ n := by
  have h1 : T / b ^ (n + 1) ≤ V * b / b ^ (n + 1) := Nat.div_le_div_right (Nat.le_of_lt hT)
  rwa [Nat.pow_succ, Nat.mul_div_mul_right _ _ hb] at h1
theorem kn_guess {b k T V : Nat} (hb : 0 < b) (hV : b ^ (k + 1) ≤ V) (h3 : T / b ^ k < V / b ^ k * b) :
    T / V ≤ T / b ^ k / (V / b ^ k) ∧ T / b ^ k / (V / b ^ k) ≤ T / V + 1 := by
  have hp : 0 < b ^ k := Nat.pow_pos hb
  rw [Nat.pow_succ] at hV
  have hV1 : b ^ k ≤ V := Nat.le_trans (Nat.le_mul_of_pos_right _ hb) hV
  have hV0 : 0 < V := by omega
  have hV2 : 0 < V / b ^ k := Nat.div_pos hV1 hp
  have e1 := Nat.div_mul_le_self V (b ^ k)
  have e2 : V < (V / b ^ k + 1) * b ^ k := by rw [Nat.mul_comm]; exact Nat.lt_mul_div_succ V hp
  have e3 := Nat.div_mul_le_self T (b ^ k)
  have e4 := Nat.div_mul_le_self T V
  generalize b ^ k = p at *
  generalize V / p = V2 at *
  have hq : T / p / V2 < b := Nat.div_lt_of_lt_mul h3
  have e5 := Nat.div_mul_le_self (T / p) V2
  have key : T / V ≤ T / p / V2 := by
    rw [Nat.le_div_iff_mul_le hV2, Nat.le_div_iff_mul_le hp]
    have : T / V * (V2 * p) ≤ T / V * V := Nat.mul_le_mul_left _ e1
    rw [Nat.mul_assoc]; omega
  refine ⟨key, ?_⟩
  generalize T / p / V2 = q at *
  have f1 : q * V ≤ q * ((V2 + 1) * p) := Nat.mul_le_mul_left _ (Nat.le_of_lt e2)
  have f2 : q * V2 * p ≤ T / p * p := Nat.mul_le_mul_right _ e5
  have f3 : q * p < b * p := Nat.mul_lt_mul_of_pos_right hq hp
  have f4 : q * ((V2 + 1) * p) = q * V2 * p + q * p := by grind
  have f5 : q * V < T + V := by rw [Nat.mul_comm b p] at f3; omega
  have f6 : T < (T / V + 1) * V := by rw [Nat.mul_comm]; exact Nat.lt_mul_div_succ T hV0
  have f7 : q * V < (T / V + 2) * V := by
    have : (T / V + 2) * V = (T / V + 1) * V + V := by grind
    omega
  have := Nat.lt_of_mul_lt_mul_right f7
  omega
theorem kn_max {b n T V : Nat} (hb : 0 < b) (hv : b ≤ 2 * (V / b ^ n)) (ht : T / b ^ (n + 1) = V / b ^ n) (hT : T < V * b) : T / V ≤ b - 1 ∧ b - 1 ≤ T / V + 1 := by
  have hp : 0 < b ^ n := Nat.pow_pos hb
  have e2 : V < (V / b ^ n + 1) * b ^ n := by rw [Nat.mul_comm]; exact Nat.lt_mul_div_succ V hp
  have e3 := Nat.div_mul_le_self T (b ^ (n + 1))
  rw [ht, Nat.pow_succ] at e3
  have hV0 : 0 < V := by
    apply Nat.pos_of_ne_zero; intro h; subst h; simp at hv; omega
  have hd : T / V < b := Nat.div_lt_of_lt_mul hT
  refine ⟨by omega, ?_⟩
  have : b - 2 ≤ T / V := by
    rw [Nat.le_div_iff_mul_le hV0]
    generalize b ^ n = p at *
    generalize V / p = v at *
    by_cases h2 : b < 2
    · have : b - 2 = 0 := by omega
      rw [this]; omega
    · obtain ⟨c, rfl⟩ : ∃ c, b = 2 + c := ⟨b - 2, by omega⟩
      rw [Nat.add_sub_cancel_left]
      have g1 : c * V ≤ c * ((v + 1) * p) := Nat.mul_le_mul_left _ (Nat.le_of_lt e2)
      have g2 : (c * (v + 1)) * p ≤ (v * (2 + c)) * p := Nat.mul_le_mul_right _ (by
        have : c * (v + 1) = c * v + c := by grind
        have : v * (2 + c) = c * v + 2 * v := by grind
        omega)
      have g3 : c * ((v + 1) * p) = (c * (v + 1)) * p := by grind
      have g4 : v * (p * (2 + c)) = (v * (2 + c)) * p := by grind
      omega
  omega
theorem kn_sub {p T V q Z c : Nat} (hg : T / V ≤ q ∧ q ≤ T / V + 1) (hV : 0 < V) (hZ : Z < p) (hc : c ≤ 1) (hE : Z + q * V = T + p * c) :
    (c = 0 ∧ q = T / V ∧ Z = T % V) ∨ (c = 1 ∧ q = T / V + 1 ∧ Z + V = T % V + p) := by
  have e := Nat.div_add_mod T V
  have hl := Nat.mod_lt T hV
  rw [Nat.mul_comm] at e
  generalize T % V = r at *
  generalize T / V = d at *
  by_cases h : q = d
  · subst h
    by_cases h0 : c = 0
    · subst h0; left; exact ⟨rfl, rfl, by omega⟩
    · obtain rfl : c = 1 := by omega
      omega
  · obtain rfl : q = d + 1 := by omega
    rw [Nat.succ_mul] at hE
    by_cases h0 : c = 0
    · subst h0; omega
    · obtain rfl : c = 1 := by omega
      right; exact ⟨rfl, rfl, by omega⟩
theorem kn_back {p V r Z2 c2 : Nat} (hZ : Z2 < p) (hr : r < p) (hE : Z2 + p * c2 = r + p) : Z2 = r ∧ c2 = 1 := by
  by_cases h0 : c2 = 0
  · subst h0; omega
  · by_cases h1 : c2 = 1
    · subst h1; omega
    · have : p * 2 ≤ p * c2 := Nat.mul_le_mul_left _ (by omega)
      omega
theorem kn_back1 {p b V r Z : Nat} (hb : 0 < b) (hr : r < V) (hV : V < p) (hZ : Z + V = r + p * b) : Z % p + V = r + p ∧ Z / p = b - 1 := by
  obtain ⟨c, rfl⟩ : ∃ c, b = c + 1 := ⟨b - 1, by omega⟩
  have e : Z = (p - (V - r)) + p * c := by rw [Nat.mul_succ] at hZ; omega
  have hl : p - (V - r) < p := by omega
  rw [e, Nat.add_mul_mod_self_left, Nat.mod_eq_of_lt hl, Nat.add_mul_div_left _ _ (by omega), Nat.div_eq_of_lt hl]
  omega

/-- What is left of N when the digits of its quotient by V from k on are taken. -/
def rm (N V k : Nat) : Nat := N % (V * B ^ k)
theorem rm_lt {N V k : Nat} (hV : 0 < V) : rm N V k < V * B ^ k := Nat.mod_lt _ (Nat.mul_pos hV (Bpow_pos k))
theorem rm_top {N V k : Nat} (h : N < V * B ^ k) : rm N V k = N := Nat.mod_eq_of_lt h
theorem rm_zero (N V : Nat) : rm N V 0 = N % V := by unfold rm; rw [Nat.pow_zero, Nat.mul_one]
theorem rm_win {N V j : Nat} (hV : 0 < V) : rm N V (j + 1) / B ^ j < V * B := by
  apply Nat.div_lt_of_lt_mul
  have := rm_lt (N := N) (k := j + 1) hV
  rw [Nat.pow_succ] at this
  rwa [Nat.mul_left_comm]
theorem rm_dig (N V j : Nat) : rm N V (j + 1) / B ^ j / V = wd (N / V) j := by
  unfold rm wd
  rw [Nat.div_div_eq_div_mul, Nat.div_div_eq_div_mul, Nat.mul_comm (B ^ j) V, Nat.pow_succ, ← Nat.mul_assoc, Nat.mod_mul_right_div_self]
theorem rm_next (N V j : Nat) : rm N V (j + 1) % B ^ j + B ^ j * (rm N V (j + 1) / B ^ j % V) = rm N V j := by
  rw [← Nat.mod_mul]
  unfold rm
  rw [Nat.mul_comm (B ^ j) V, Nat.pow_succ, ← Nat.mul_assoc, Nat.mod_mul_right_mod]

/-- Words in the midst of others are written. -/
def putV (v k m u : Nat) : Nat := v % B ^ k + B ^ k * (u + B ^ m * (v / B ^ (k + m)))
theorem gput_lt (b k m l v u : Nat) (hb : 0 < b) (hu : u < b ^ m) (hv : v < b ^ (k + m + l)) : v % b ^ k + b ^ k * (u + b ^ m * (v / b ^ (k + m))) < b ^ (k + m + l) := by
  have h1 : v / b ^ (k + m) < b ^ l := by apply Nat.div_lt_of_lt_mul; rwa [← Nat.pow_add]
  have h2 : v % b ^ k < b ^ k := Nat.mod_lt _ (Nat.pow_pos hb)
  generalize v / b ^ (k + m) = z at *
  generalize v % b ^ k = x at *
  have e : b ^ (k + m + l) = b ^ k * (b ^ m * b ^ l) := by rw [Nat.pow_add, Nat.pow_add, Nat.mul_assoc]
  rw [e]
  generalize b ^ k = p at *
  generalize b ^ m = q at *
  generalize b ^ l = r at *
  have g1 : q * (z + 1) ≤ q * r := Nat.mul_le_mul_left _ h1
  have g2 : p * (u + q * z + 1) ≤ p * (q * r) := Nat.mul_le_mul_left _ (by rw [Nat.mul_succ] at g1; omega)
  rw [Nat.mul_succ] at g2
  omega
theorem putV_lt {v k m u n : Nat} (hk : k + m ≤ n) (hu : u < B ^ m) (hv : v < B ^ n) : putV v k m u < B ^ n := by
  obtain ⟨l, rfl⟩ : ∃ l, n = k + m + l := ⟨n - (k + m), by omega⟩
  exact gput_lt B k m l v u B_pos hu hv
theorem putV_div (v k m u : Nat) : putV v k m u / B ^ k = u + B ^ m * (v / B ^ (k + m)) := by
  unfold putV
  rw [Nat.add_mul_div_left _ _ (Bpow_pos k), Nat.div_eq_of_lt (Nat.mod_lt _ (Bpow_pos k)), Nat.zero_add]
theorem putV_mod (v k m u : Nat) : putV v k m u % B ^ k = v % B ^ k := by
  unfold putV
  rw [Nat.add_mul_mod_self_left, Nat.mod_mod]
theorem putV_hi {v k m u : Nat} (hu : u < B ^ m) : putV v k m u / B ^ (k + m) = v / B ^ (k + m) := by
  rw [Nat.pow_add, ← Nat.div_div_eq_div_mul, putV_div, Nat.add_mul_div_left _ _ (Bpow_pos m), Nat.div_eq_of_lt hu, Nat.zero_add, Nat.pow_add]
theorem Words.putG {w : World} {b o n v : Nat} (h : Words w b o n v) (ho : Own w b o n) (k m u : Nat) (hk : k + m ≤ n) (hu : u < B ^ m) :
    Words (putW w b (o + k) m u) b o n (putV v k m u) := by
  refine ⟨putV_lt hk hu h.lt, fun i hi => ?_⟩
  by_cases h1 : i < k
  · rw [cell_putW_out _ _ _ _ _ _ _ (by omega), h.cell i hi, ← wd_mod _ h1, ← wd_mod (putV v k m u) h1, putV_mod]
  · obtain ⟨j, rfl⟩ : ∃ j, i = k + j := ⟨i - k, by omega⟩
    by_cases h2 : j < m
    · have := cell_putW_in w b (o + k) m u j h2 (let ⟨x, _, q⟩ := ho.cell (k + j) (by omega); ⟨_, by rw [Nat.add_assoc]; exact q⟩)
      rw [Nat.add_assoc] at this
      rw [this, ← wd_div, putV_div, wd_lo _ _ h2]
    · obtain ⟨l, rfl⟩ : ∃ l, j = m + l := ⟨j - m, by omega⟩
      rw [cell_putW_out _ _ _ _ _ _ _ (by omega), h.cell _ hi, ← Nat.add_assoc, ← wd_div, ← wd_div, putV_hi hu]
/-- A window that holds all that is above. -/
theorem putV_last {v k m u : Nat} (hv : v < B ^ (k + m)) : putV v k m u = v % B ^ k + B ^ k * u := by
  unfold putV
  rw [Nat.div_eq_of_lt hv, Nat.mul_zero, Nat.add_zero]
end Go.Proofs.YtgilnnipephfjaaGreatDoor
namespace Go.Proofs.YtgilnnipephfjaaGreatDoor
open Go.RowKit

/-- Two stretches of cells have none in common. -/
def dis (b o n b' o' n' : Nat) : Prop := b ≠ b' ∨ o + n ≤ o' ∨ o' + n' ≤ o
structure DS (qb qo ub uo vb vo tb to n m : Nat) : Prop where
  qu : dis qb qo m ub uo (n + m)
  qv : dis qb qo m vb vo n
  qt : dis qb qo m tb to (n + 1)
  uv : dis ub uo (n + m) vb vo n
  ut : dis ub uo (n + m) tb to (n + 1)
  vt : dis vb vo n tb to (n + 1)
/-- The cells that the division writes. -/
def DT (qb qo ub uo tb to n m x y : Nat) : Prop := (x = qb ∧ qo ≤ y ∧ y < qo + m) ∨ (x = ub ∧ uo ≤ y ∧ y < uo + (n + m)) ∨ (x = tb ∧ to ≤ y ∧ y < to + (n + 1))
structure DB (w1 wr : World) (qb qo ub uo vb vo tb to n m N V k R : Nat) : Prop where
  u : Words wr ub uo (n + m) R
  ublk : Blk wr ub
  q : Own wr qb qo m
  qd : ∀ i, k ≤ i → i < m → wr.cell? ⟨qb, qo + i, none⟩ = some (.int .u64 (wd (N / V) i : Nat))
  v : Words wr vb vo n V
  t : Own wr tb to (n + 1)
  fr : Fr (DT qb qo ub uo tb to n m) w1 wr
section
variable {w1 wr : World} {qb qo ub uo vb vo tb to n m N V k R : Nat}
theorem Words.drewN {w : World} {b o n v : Nat} (h : Words w b o n v) (d : Nat) : Words (w.drewN d) b o n v := ⟨h.lt, h.cell⟩
theorem Own.drewN {w : World} {b o n : Nat} (h : Own w b o n) (d : Nat) : Own (w.drewN d) b o n := ⟨h.cell, ⟨h.kind.1, h.kind.2⟩⟩
theorem DB.drewN (h : DB w1 wr qb qo ub uo vb vo tb to n m N V k R) (d : Nat) : DB w1 (wr.drewN d) qb qo ub uo vb vo tb to n m N V k R :=
  ⟨h.u.drewN d, ⟨h.ublk.1, h.ublk.2⟩, h.q.drewN d, h.qd, h.v.drewN d, h.t.drewN d, h.fr.drewN d⟩
theorem DB.uown (h : DB w1 wr qb qo ub uo vb vo tb to n m N V k R) : Own wr ub uo (n + m) := h.u.own h.ublk
theorem DB.putT (h : DB w1 wr qb qo ub uo vb vo tb to n m N V k R) (s : DS qb qo ub uo vb vo tb to n m) (j Z : Nat) (hj : j ≤ n + 1) : DB w1 (putW wr tb to j Z) qb qo ub uo vb vo tb to n m N V k R := by
  have f := Fr_putW wr tb to j Z
  have ht := s.ut
  have hv := s.vt
  have hq := s.qt
  unfold dis at ht hv hq
  refine ⟨f.words h.u (fun i hi => by omega), f.blk h.ublk, h.q.put _ _ _ _, fun i h1 h2 => ?_, f.words h.v (fun i hi => by omega), h.t.put _ _ _ _, ?_⟩
  · exact (f.cell qb (qo + i) h.q.kind.lt (by omega)).trans (h.qd i h1 h2)
  · exact h.fr.put tb to j Z (fun i hi _ => .inr (.inr ⟨rfl, by omega, by omega⟩))
theorem DB.putU (h : DB w1 wr qb qo ub uo vb vo tb to n m N V k R) (s : DS qb qo ub uo vb vo tb to n m) (j l Z : Nat) (hj : j + l ≤ n + m) (hZ : Z < B ^ l) : DB w1 (putW wr ub (uo + j) l Z) qb qo ub uo vb vo tb to n m N V k (putV R j l Z) := by
  have f := Fr_putW wr ub (uo + j) l Z
  have ht := s.uv
  have hq := s.qu
  unfold dis at ht hq
  refine ⟨h.u.putG h.uown j l Z hj hZ, f.blk h.ublk, h.q.put _ _ _ _, fun i h1 h2 => ?_, f.words h.v (fun i hi => by omega), h.t.put _ _ _ _, ?_⟩
  · exact (f.cell qb (qo + i) h.q.kind.lt (by omega)).trans (h.qd i h1 h2)
  · exact h.fr.put ub (uo + j) l Z (fun i hi _ => .inr (.inl ⟨rfl, by omega, by omega⟩))
theorem DB.setQ {j : Nat} (h : DB w1 wr qb qo ub uo vb vo tb to n m N V (j + 1) R) (s : DS qb qo ub uo vb vo tb to n m) (hj : j < m) : DB w1 (wr.setCell ⟨qb, qo + j, none⟩ (.int .u64 (wd (N / V) j : Nat))) qb qo ub uo vb vo tb to n m N V j R := by
  have f := (Fr.refl (fun x y => x = qb ∧ y = qo + j) wr).setCell qb (qo + j) (.int .u64 (wd (N / V) j : Nat)) (fun _ => ⟨rfl, rfl⟩)
  have h1 := s.qu
  have h2 := s.qv
  have h3 := s.qt
  unfold dis at h1 h2 h3
  refine ⟨f.words h.u (fun i hi => by omega), f.blk h.ublk, h.q.set _ _ (wd_lt _ _), fun i g1 g2 => ?_, f.words h.v (fun i hi => by omega), h.t.set _ _ (wd_lt _ _), ?_⟩
  · by_cases e : i = j
    · subst e
      obtain ⟨u, _, hu⟩ := h.q.cell i hj
      exact World.cell?_setCell_same _ _ _ hu
    · exact (f.cell qb (qo + i) h.q.kind.lt (by omega)).trans (h.qd i (by omega) g2)
  · exact h.fr.setCell qb (qo + j) _ (fun _ => .inl ⟨rfl, by omega, by omega⟩)
/-- The window that is divided, as words. -/
theorem DB.win (h : DB w1 wr qb qo ub uo vb vo tb to n m N V k R) (j l : Nat) (hj : j + l ≤ n + m) (hR : R / B ^ j < B ^ l) : Words wr ub (uo + j) l (R / B ^ j) := by
  have := h.u.sub j l hj
  rwa [Nat.mod_eq_of_lt hR] at this
end
theorem gsnoc_lt2 {x j n Z : Nat} (hx : x < B ^ j) (hZ : Z < B ^ n) : x + B ^ j * Z < B ^ (j + n) := by
  rw [Nat.pow_add]
  have : B ^ j * (Z + 1) ≤ B ^ j * B ^ n := Nat.mul_le_mul_left _ hZ
  rw [Nat.mul_succ] at this
  omega
theorem putV_twice {R j l l' Z Z' : Nat} (hl : l ≤ l') (hZ' : Z' < B ^ l') (hR : R < B ^ (j + l')) : putV (putV R j l' Z') j l Z = R % B ^ j + B ^ j * (Z + B ^ l * (Z' / B ^ l)) := by
  have e1 : putV R j l' Z' / B ^ (j + l) = Z' / B ^ l := by
    rw [Nat.pow_add, ← Nat.div_div_eq_div_mul, putV_div, Nat.div_eq_of_lt hR, Nat.mul_zero, Nat.add_zero]
  have e2 : ∀ v, putV v j l Z = v % B ^ j + B ^ j * (Z + B ^ l * (v / B ^ (j + l))) := fun _ => rfl
  rw [e2, e1, putV_mod]
/-- The highest word of a window of one more is struck. -/
theorem putV_drop {x j n Z z : Nat} (hx : x < B ^ j) (hZ : Z < B ^ n) (hz : z < B) : putV (x + B ^ j * (Z + B ^ n * z)) (j + n) 1 0 = x + B ^ j * Z := by
  have hlt : x + B ^ j * Z < B ^ (j + n) := gsnoc_lt2 hx hZ
  have e : x + B ^ j * (Z + B ^ n * z) = (x + B ^ j * Z) + B ^ (j + n) * z := by rw [Nat.pow_add]; grind
  have h2 : x + B ^ j * Z + B ^ (j + n) * z < B ^ (j + n + 1) := snoc_lt hlt hz
  rw [e, putV_last h2, Nat.mul_zero, Nat.add_zero, Nat.add_mul_mod_self_left, Nat.mod_eq_of_lt hlt]
end Go.Proofs.YtgilnnipephfjaaGreatDoor
namespace Go.Proofs.YtgilnnipephfjaaGreatDoor
open Go.RowKit

theorem putW_drewN (w : World) (b o n v d : Nat) : putW (w.drewN d) b o n v = (putW w b o n v).drewN d := by
  induction n with
  | zero => rfl
  | succ n ih => simp only [putW]; rw [ih]; rfl
theorem dif_split (x y c : Nat) (hx : x < B) (hy : y < B) (hc : c ≤ 1) : difLo x y c + y + c = x + B * difHi x y c := by
  unfold difLo difHi
  generalize B = b at *
  split
  · have : x + b - y - c < b := by omega
    rw [Nat.mod_eq_of_lt this]; omega
  · have : x + b - y - c = (x - y - c) + b := by omega
    rw [this, Nat.add_mod_right, Nat.mod_eq_of_lt (by omega)]; omega
theorem difLo_lt (x y c : Nat) : difLo x y c < B := Nat.mod_lt _ B_pos
theorem difHi_le (x y c : Nat) : difHi x y c ≤ 1 := by unfold difHi; split <;> omega

set_option maxHeartbeats 1000000 in
theorem addVV_loop (zb zo zc xb xo xc yb yo yc n : Nat) (X Y : Nat) (w : World) (hn : n < 1000000) (hX : Words w xb xo n X) (hY : Words w yb yo n Y) (hz : Own w zb zo n)
    (halx : zb ≠ xb ∨ zo ≤ xo ∨ xo + n ≤ zo) (haly : zb ≠ yb ∨ zo ≤ yo ∨ yo + n ≤ zo) :
    Calls Tryz.prog 276 #[.slice (some ⟨zb, zo, none⟩) n zc, .slice (some ⟨xb, xo, none⟩) n xc, .slice (some ⟨yb, yo, none⟩) n yc] w fun e w' =>
      ∃ Z c d, e = .returned (.int .u64 (c : Nat)) ∧ w' = (putW w zb zo n Z).drewN d ∧ Z < B ^ n ∧ c ≤ 1 ∧ Z + B ^ n * c = X + Y := by
  go_enter Tryz.func276, Tryz.ntmps276
  go_wp2_with fail
  go_loopw [6, 25] (fun c i wr => ∃ k Z cc d : Nat, k ≤ n ∧ i = .int .i64 k ∧ c = .int .u64 cc ∧ cc ≤ 1 ∧ Z < B ^ k ∧ Aside (Z + B ^ k * cc = X % B ^ k + Y % B ^ k) ∧ Aside (wr = (putW w zb zo k Z).drewN d)) (fun _ i _ => n - (intOf i).toNat)
  case atStart => exact ⟨0, 0, 0, 0, by omega, rfl, rfl, by omega, by simp, ⟨by simp [Nat.mod_one]⟩, ⟨rfl⟩⟩
  case round =>
    obtain ⟨k, Z, cc, d, hk, rfl, rfl, hcc, hZ, hE, hW⟩ := hrel
    by_cases hlt : k < n
    · have hx : wr.cell? ⟨xb, xo + k, none⟩ = some (.int .u64 (wd X k : Nat)) := put_read k hW hX hlt (by omega)
      have hy : wr.cell? ⟨yb, yo + k, none⟩ = some (.int .u64 (wd Y k : Nat)) := put_read k hW hY hlt (by omega)
      obtain ⟨⟨u, hu⟩, hf⟩ := put_some k hW hz hlt
      go_wp2_with fail
      go_region_with (go_at_call 277; go_must (refine (bitsAdd_any (wd X k) (wd Y k) cc _ hcc).mono ?_; rintro e w' ⟨rfl, rfl⟩))
      all_goals
        go_wp2_with fail
        go_roundw
        case rel =>
          refine ⟨k + 1, Z + B ^ k * sumLo (wd X k) (wd Y k) cc, sumHi (wd X k) (wd Y k) cc, _, by omega, rfl, rfl, sumHi_le (wd_lt _ _) (wd_lt _ _) hcc, snoc_lt hZ (sumLo_lt _ _ _), ⟨?_⟩, put_step _ hW hZ (sumLo_lt _ _ _)⟩
          have e2 := sum_split (wd X k) (wd Y k) cc
          have e3 := hE.out
          rw [mod_succ, mod_succ, Nat.pow_succ]
          grind
        case measure => simp [intOf]; omega
    · go_wp2
      go_ret
      obtain rfl : k = n := by omega
      exact ⟨Z, cc, d, rfl, hW.out, hZ, hcc, by have := hE.out; rw [Nat.mod_eq_of_lt hX.lt, Nat.mod_eq_of_lt hY.lt] at this; exact this⟩
set_option maxHeartbeats 1000000 in
theorem subVV_loop (zb zo zc xb xo xc yb yo yc n : Nat) (X Y : Nat) (w : World) (hn : n < 1000000) (hX : Words w xb xo n X) (hY : Words w yb yo n Y) (hz : Own w zb zo n)
    (halx : zb ≠ xb ∨ zo ≤ xo ∨ xo + n ≤ zo) (haly : zb ≠ yb ∨ zo ≤ yo ∨ yo + n ≤ zo) :
    Calls Tryz.prog 278 #[.slice (some ⟨zb, zo, none⟩) n zc, .slice (some ⟨xb, xo, none⟩) n xc, .slice (some ⟨yb, yo, none⟩) n yc] w fun e w' =>
      ∃ Z c d, e = .returned (.int .u64 (c : Nat)) ∧ w' = (putW w zb zo n Z).drewN d ∧ Z < B ^ n ∧ c ≤ 1 ∧ Z + Y = X + B ^ n * c := by
  go_enter Tryz.func278, Tryz.ntmps278
  go_wp2_with fail
  go_loopw [6, 25] (fun c i wr => ∃ k Z cc d : Nat, k ≤ n ∧ i = .int .i64 k ∧ c = .int .u64 cc ∧ cc ≤ 1 ∧ Z < B ^ k ∧ Aside (Z + Y % B ^ k = X % B ^ k + B ^ k * cc) ∧ Aside (wr = (putW w zb zo k Z).drewN d)) (fun _ i _ => n - (intOf i).toNat)
  case atStart => exact ⟨0, 0, 0, 0, by omega, rfl, rfl, by omega, by simp, ⟨by simp [Nat.mod_one]⟩, ⟨rfl⟩⟩
  case round =>
    obtain ⟨k, Z, cc, d, hk, rfl, rfl, hcc, hZ, hE, hW⟩ := hrel
    by_cases hlt : k < n
    · have hx : wr.cell? ⟨xb, xo + k, none⟩ = some (.int .u64 (wd X k : Nat)) := put_read k hW hX hlt (by omega)
      have hy : wr.cell? ⟨yb, yo + k, none⟩ = some (.int .u64 (wd Y k : Nat)) := put_read k hW hY hlt (by omega)
      obtain ⟨⟨u, hu⟩, hf⟩ := put_some k hW hz hlt
      go_wp2_with fail
      go_region_with (go_at_call 279; go_must (refine (bitsSub_any (wd X k) (wd Y k) cc _ hcc).mono ?_; rintro e w' ⟨rfl, rfl⟩))
      all_goals
        go_wp2_with fail
        go_roundw
        case rel =>
          refine ⟨k + 1, Z + B ^ k * difLo (wd X k) (wd Y k) cc, difHi (wd X k) (wd Y k) cc, _, by omega, rfl, rfl, difHi_le _ _ _, snoc_lt hZ (difLo_lt _ _ _), ⟨?_⟩, put_step _ hW hZ (difLo_lt _ _ _)⟩
          have e2 := dif_split (wd X k) (wd Y k) cc (wd_lt _ _) (wd_lt _ _) hcc
          have e3 := hE.out
          rw [mod_succ, mod_succ, Nat.pow_succ]
          grind
        case measure => simp [intOf]; omega
    · go_wp2
      go_ret
      obtain rfl : k = n := by omega
      exact ⟨Z, cc, d, rfl, hW.out, hZ, hcc, by have := hE.out; rw [Nat.mod_eq_of_lt hX.lt, Nat.mod_eq_of_lt hY.lt] at this; exact this⟩
theorem addVV_any (zb zo zc xb xo xc yb yo yc n : Nat) (X Y : Nat) (w : World) (hn : n < 1000000) (hX : Words w xb xo n X) (hY : Words w yb yo n Y) (hz : Own w zb zo n)
    (halx : zb ≠ xb ∨ zo ≤ xo ∨ xo + n ≤ zo) (haly : zb ≠ yb ∨ zo ≤ yo ∨ yo + n ≤ zo) :
    Calls Tryz.prog 241 #[.slice (some ⟨zb, zo, none⟩) n zc, .slice (some ⟨xb, xo, none⟩) n xc, .slice (some ⟨yb, yo, none⟩) n yc] w fun e w' =>
      ∃ Z c d, e = .returned (.int .u64 (c : Nat)) ∧ w' = (putW w zb zo n Z).drewN d ∧ Z < B ^ n ∧ c ≤ 1 ∧ Z + B ^ n * c = X + Y := by
  go_enter Tryz.func241, Tryz.ntmps241
  go_wp2_with fail
  refine (addVV_loop zb zo zc xb xo xc yb yo yc n X Y _ hn hX hY hz halx haly).mono ?_
  rintro e w' ⟨Z, c, d, rfl, rfl, h1, h2, h3⟩
  go_wp2_with fail
  go_ret
  exact ⟨Z, c, d, rfl, rfl, h1, h2, h3⟩
theorem subVV_any (zb zo zc xb xo xc yb yo yc n : Nat) (X Y : Nat) (w : World) (hn : n < 1000000) (hX : Words w xb xo n X) (hY : Words w yb yo n Y) (hz : Own w zb zo n)
    (halx : zb ≠ xb ∨ zo ≤ xo ∨ xo + n ≤ zo) (haly : zb ≠ yb ∨ zo ≤ yo ∨ yo + n ≤ zo) :
    Calls Tryz.prog 243 #[.slice (some ⟨zb, zo, none⟩) n zc, .slice (some ⟨xb, xo, none⟩) n xc, .slice (some ⟨yb, yo, none⟩) n yc] w fun e w' =>
      ∃ Z c d, e = .returned (.int .u64 (c : Nat)) ∧ w' = (putW w zb zo n Z).drewN d ∧ Z < B ^ n ∧ c ≤ 1 ∧ Z + Y = X + B ^ n * c := by
  go_enter Tryz.func243, Tryz.ntmps243
  go_wp2_with fail
  refine (subVV_loop zb zo zc xb xo xc yb yo yc n X Y _ hn hX hY hz halx haly).mono ?_
  rintro e w' ⟨Z, c, d, rfl, rfl, h1, h2, h3⟩
  go_wp2_with fail
  go_ret
  exact ⟨Z, c, d, rfl, rfl, h1, h2, h3⟩
end Go.Proofs.YtgilnnipephfjaaGreatDoor
