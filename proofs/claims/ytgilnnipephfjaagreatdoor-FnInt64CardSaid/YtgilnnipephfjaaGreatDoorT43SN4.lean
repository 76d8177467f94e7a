/- The reference's numbers as digits, the lowest one first. Sums of products of digits. The reference's numbers: trim, signed, Digits, Ten. The reference's numbers: signed, Ten, Minus, Digits. The reference's numbers: Ten, compare, Cmp. -/
import Derived.Test.YtgilnnipephfjaaGreatDoorT42Spec4
import Derived.Deep.CutBlock
import Derived.Deep.DeepCutAuto
set_option linter.unusedSimpArgs false
set_option linter.unusedVariables false
namespace Go.Proofs.YtgilnnipephfjaaGreatDoor
open Go.RowKit

def D10 (l : List UInt8) : Prop := ∀ x ∈ l, x.toNat < 10
def val : List UInt8 → Nat
  | [] => 0
  | c :: r => c.toNat + 10 * val r
theorem val_nil : val [] = 0 := rfl
theorem val_cons (c : UInt8) (r : List UInt8) : val (c :: r) = c.toNat + 10 * val r := rfl
theorem val_app (l m : List UInt8) : val (l ++ m) = val l + 10 ^ l.length * val m := by
  induction l with
  | nil => simp [val]
  | cons c r ih => rw [List.cons_append, val_cons, ih, val_cons, List.length_cons, Nat.pow_succ, Nat.mul_add, Nat.mul_comm (10 ^ r.length) 10, Nat.mul_assoc]; omega
theorem val_snoc (l : List UInt8) (c : UInt8) : val (l ++ [c]) = val l + 10 ^ l.length * c.toNat := by rw [val_app]; simp [val]
theorem D10.take {l : List UInt8} (h : D10 l) (k : Nat) : D10 (l.take k) := fun x hx => h x (List.mem_of_mem_take hx)
theorem D10.app {l m : List UInt8} (h : D10 l) (k : D10 m) : D10 (l ++ m) := fun x hx => by
  rcases List.mem_append.1 hx with q | q
  · exact h x q
  · exact k x q
theorem D10.tail {c : UInt8} {r : List UInt8} (h : D10 (c :: r)) : D10 r := fun x hx => h x (List.mem_cons_of_mem _ hx)
theorem D10.one {c : UInt8} (h : c.toNat < 10) : D10 [c] := fun x hx => by simp at hx; subst hx; exact h
theorem D10.get {l : List UInt8} (h : D10 l) {i : Nat} (hi : i < l.length) : (l[i]).toNat < 10 := h _ (List.getElem_mem hi)
theorem val_lt {l : List UInt8} (h : D10 l) : val l < 10 ^ l.length := by
  induction l with
  | nil => simp [val]
  | cons c r ih =>
    have h1 := h c (List.mem_cons_self ..)
    have h2 := ih h.tail
    rw [val_cons, List.length_cons, Nat.pow_succ]; omega
theorem dlow_d10 (X : Nat) : D10 (dlow X) := fun x hx => by
  obtain ⟨j, hj, rfl⟩ := List.mem_iff_getElem.1 hx
  rw [dlow_get]; exact dg_lt _ _
theorem val_dlow (X : Nat) : val (dlow X) = X := by
  induction X using Nat.strongRecOn with
  | _ n ih =>
    by_cases h : n = 0
    · subst h; rw [dlow_zero]; rfl
    · rw [dlow_pos h, val_cons, ih (n / 10) (by omega), UInt8.toNat_ofNat']; omega
theorem last_cons {c : UInt8} {r : List UInt8} (h : (c :: r).getLast? ≠ some 0) : r.getLast? ≠ some 0 := by
  cases r with
  | nil => simp
  | cons d s => rwa [List.getLast?_cons_cons] at h
theorem dlow_val {l : List UInt8} (h : D10 l) (hl : l.getLast? ≠ some 0) : dlow (val l) = l := by
  induction l with
  | nil => exact dlow_zero
  | cons c r ih =>
    have h1 := h c (List.mem_cons_self ..)
    have e := ih h.tail (last_cons hl)
    have hn : c.toNat + 10 * val r ≠ 0 := by
      intro k
      by_cases hr : r = []
      · subst hr
        apply hl
        have : c.toNat = 0 := by omega
        have : c = 0 := UInt8.toNat_inj.1 this
        simp [this]
      · have : val r = 0 := by omega
        rw [this, dlow_zero] at e
        exact hr e.symm
    rw [val_cons, dlow_pos hn, show (c.toNat + 10 * val r) / 10 = val r from by omega, e, show (c.toNat + 10 * val r) % 10 = c.toNat from by omega]
    congr 1
    exact UInt8.ofNat_toNat
theorem val_take_zero {l : List UInt8} : ∀ k, (∀ j (h : j < l.length), k ≤ j → l[j] = 0) → val (l.take k) = val l := by
  induction l with
  | nil => intro k _; simp
  | cons c r ih =>
    intro k h
    cases k with
    | zero =>
      have h0 : c = 0 := h 0 (by simp) (Nat.zero_le _)
      have := ih 0 (fun j hj _ => h (j + 1) (by simp; omega) (Nat.zero_le _))
      rw [val_cons, ← this]; subst h0; rfl
    | succ k =>
      rw [List.take_succ_cons, val_cons, val_cons, ih k (fun j hj hk => h (j + 1) (by simp; omega) (by omega))]
/-- Cut where the last digit that is not 0 stands. -/
theorem dlow_take {l : List UInt8} (h : D10 l) {k : Nat} (hk : k ≤ l.length) (hz : ∀ j (q : j < l.length), k ≤ j → l[j] = 0) (hl : k = 0 ∨ ∃ q : k - 1 < l.length, l[k - 1] ≠ 0) : l.take k = dlow (val l) := by
  rw [← val_take_zero k hz]
  refine (dlow_val (h.take k) ?_).symm
  rcases hl with rfl | ⟨q, hq⟩
  · simp
  · by_cases h0 : k = 0
    · subst h0; simp
    · intro e
      rw [List.getLast?_eq_getElem?] at e
      obtain ⟨h1, h2⟩ := List.getElem?_eq_some_iff.1 e
      rw [List.getElem_take] at h2
      apply hq
      rw [← h2]
      congr 1
      rw [List.length_take]; omega
theorem dlow_len (X : Nat) : (dlow X).length = if X = 0 then 0 else ndig X := by
  by_cases h : X = 0
  · subst h; rw [dlow_zero]; rfl
  · rw [dlow_length h, if_neg h]
theorem dlow_inj {X Y : Nat} (h : dlow X = dlow Y) : X = Y := by rw [← val_dlow X, h, val_dlow]
theorem dlow_nil {X : Nat} : (dlow X).length = 0 ↔ X = 0 := by
  constructor
  · intro h
    have := val_dlow X
    rw [List.eq_nil_of_length_eq_zero h] at this
    exact this.symm
  · rintro rfl; rw [dlow_zero]; rfl
theorem dlow_lt (X : Nat) : X < 10 ^ (dlow X).length := by
  have := val_lt (dlow_d10 X)
  rwa [val_dlow] at this
theorem dlow_ge {X : Nat} (h : X ≠ 0) : 10 ^ ((dlow X).length - 1) ≤ X := by
  induction X using Nat.strongRecOn with
  | _ n ih =>
    rw [dlow_pos h, List.length_cons, Nat.add_sub_cancel]
    by_cases h1 : n / 10 = 0
    · rw [h1, dlow_zero]; simp; omega
    · have h2 := ih (n / 10) (by omega) h1
      have h3 : 0 < (dlow (n / 10)).length := Nat.pos_of_ne_zero (fun k => h1 (dlow_nil.1 k))
      obtain ⟨m, hm⟩ : ∃ m, (dlow (n / 10)).length = m + 1 := ⟨(dlow (n / 10)).length - 1, by omega⟩
      rw [hm] at h2 ⊢
      rw [Nat.add_sub_cancel] at h2
      rw [Nat.pow_succ]
      generalize 10 ^ m = P at h2 ⊢
      omega
theorem dlow_le {X k : Nat} (h : X < 10 ^ k) : (dlow X).length ≤ k := by
  by_cases h0 : X = 0
  · subst h0; rw [dlow_zero]; exact Nat.zero_le _
  · have h1 := dlow_ge h0
    have h2 : 10 ^ ((dlow X).length - 1) < 10 ^ k := Nat.lt_of_le_of_lt h1 h
    have := (Nat.pow_lt_pow_iff_right (by decide : 1 < 10)).1 h2
    omega
/-- Decimal text, and its digits from the lowest on. -/
theorem val_text {l : List UInt8} (h : Digs l) : val (l.reverse.map fun c => UInt8.ofNat (c.toNat - 48)) = numOf l ∧ D10 (l.reverse.map fun c => UInt8.ofNat (c.toNat - 48)) := by
  constructor
  · have key : ∀ m : List UInt8, Digs m → val (m.map fun c => UInt8.ofNat (c.toNat - 48)) = numOf m.reverse := by
      intro m hm
      induction m with
      | nil => rfl
      | cons c r ih =>
        have hc := hm c (List.mem_cons_self ..)
        rw [List.map_cons, val_cons, ih (fun x hx => hm x (List.mem_cons_of_mem _ hx)), List.reverse_cons, numOf_snoc, UInt8.toNat_ofNat']
        omega
    rw [key l.reverse (fun x hx => h x (List.mem_reverse.1 hx)), List.reverse_reverse]
  · intro x hx
    obtain ⟨c, hc, rfl⟩ := List.mem_map.1 hx
    have := h c (List.mem_reverse.1 hc)
    rw [UInt8.toNat_ofNat']; omega
/-- The order of digits. -/
theorem val_cmp {l m : List UInt8} (hl : D10 l) (hm : D10 m) (i : Nat) (h1 : i < l.length) (h2 : i < m.length) (hlen : l.length = m.length) (he : ∀ j (q : j < l.length), i < j → l[j] = m[j]'(by omega)) (hi : (l[i]).toNat < (m[i]).toNat) : val l < val m := by
  induction l generalizing m i with
  | nil => simp at h1
  | cons c r ih =>
    cases m with
    | nil => simp at h2
    | cons d s =>
      have hlen' : r.length = s.length := by simpa using hlen
      cases i with
      | zero =>
        have : r = s := List.ext_getElem hlen' (fun j q1 q2 => by
          have := he (j + 1) (by simp; omega) (by omega)
          simpa using this)
        subst this
        simp at hi
        have h3 : c.toNat < d.toNat := by simpa using hi
        rw [val_cons, val_cons]; omega
      | succ i =>
        have := ih hl.tail hm.tail i (by simpa using h1) (by simpa using h2) hlen' (fun j q hj => by
          have := he (j + 1) (by simp; omega) (by omega)
          simpa using this) (by simpa using hi)
        have hc := hl c (List.mem_cons_self ..)
        rw [val_cons, val_cons]; omega
theorem len_lt {X Y : Nat} (h : (dlow X).length < (dlow Y).length) : X < Y := by
  have h1 := dlow_lt X
  by_cases h0 : Y = 0
  · subst h0; rw [dlow_zero] at h; simp at h
  · have h2 := dlow_ge h0
    have h3 : 10 ^ (dlow X).length ≤ 10 ^ ((dlow Y).length - 1) := Nat.pow_le_pow_right (by decide) (by omega)
    omega
end Go.Proofs.YtgilnnipephfjaaGreatDoor
namespace Go.Proofs.YtgilnnipephfjaaGreatDoor
open Go.RowKit

def valN : List Nat → Nat
  | [] => 0
  | x :: r => x + 10 * valN r
theorem valN_set {l : List Nat} {j : Nat} (z : Nat) (h : j < l.length) : valN (l.set j (l[j] + z)) = valN l + 10 ^ j * z := by
  induction l generalizing j with
  | nil => simp at h
  | cons x r ih =>
    cases j with
    | zero => simp [valN]; omega
    | succ j =>
      have := ih (j := j) (by simpa using h)
      simp only [List.set_cons_succ, List.getElem_cons_succ, valN, this, Nat.pow_succ]
      rw [Nat.mul_add, Nat.mul_comm (10 ^ j) 10, Nat.mul_assoc]; omega
theorem valN_rep (n : Nat) : valN (List.replicate n 0) = 0 := by
  induction n with
  | zero => rfl
  | succ n ih => rw [List.replicate_succ, valN, ih]
theorem val_take_succ {l : List UInt8} {k : Nat} (h : k < l.length) : val (l.take (k + 1)) = val (l.take k) + 10 ^ k * (l[k]).toNat := by
  rw [List.take_succ_eq_append_getElem h, val_snoc, List.length_take, Nat.min_eq_left (by omega)]
/-- The sums in a row of a product: row i is done up to place k. -/
structure Row (x y : List UInt8) (ol : List Nat) (i k : Nat) : Prop where
  len : ol.length = x.length + y.length
  sum : valN ol = val (x.take i) * val y + (if h : i < x.length then 10 ^ i * ((x[i]).toNat * val (y.take k)) else 0)
  bd : ∀ j (h : j < ol.length), ol[j] ≤ 81 * i + (if j < i + k then 81 else 0)
theorem Row.start (x y : List UInt8) : Row x y (List.replicate (x.length + y.length) 0) 0 0 :=
  ⟨by simp, by rw [valN_rep]; simp [val], fun j h => by simp⟩
theorem Row.step {x y : List UInt8} {ol : List Nat} {i k : Nat} (h : Row x y ol i k) (hx : D10 x) (hy : D10 y) (hi : i < x.length) (hk : k < y.length) :
    ∃ q : i + k < ol.length, Row x y (ol.set (i + k) (ol[i + k] + (x[i]).toNat * (y[k]).toNat)) i (k + 1) ∧ ol[i + k] ≤ 81 * i := by
  have hl := h.len
  refine ⟨by omega, ⟨by rw [List.length_set]; exact hl, ?_, ?_⟩, ?_⟩
  · rw [valN_set _ (by omega), h.sum, dif_pos hi, dif_pos hi, val_take_succ hk, Nat.pow_add]
    rw [Nat.mul_add, Nat.mul_add, Nat.add_assoc]
    congr 2
    ac_rfl
  · intro j hj
    rw [List.length_set] at hj
    rw [List.getElem_set]
    have h1 := h.bd j hj
    have h2 := h.bd (i + k) (by omega)
    have h3 := hx.get hi
    have h4 := hy.get hk
    have h5 : (x[i]).toNat * (y[k]).toNat ≤ 9 * 9 := Nat.mul_le_mul (by omega) (by omega)
    by_cases e : i + k = j
    · rw [if_pos e, if_pos (by omega)]
      rw [if_neg (by omega)] at h2
      omega
    · rw [if_neg e]
      by_cases e2 : j < i + k
      · rw [if_pos e2] at h1; rw [if_pos (by omega)]; exact h1
      · rw [if_neg e2] at h1; omega
  · have := h.bd (i + k) (by omega)
    rwa [if_neg (by omega), Nat.add_zero] at this
theorem Row.next {x y : List UInt8} {ol : List Nat} {i : Nat} (h : Row x y ol i y.length) (hi : i < x.length) : Row x y ol (i + 1) 0 := by
  refine ⟨h.len, ?_, fun j hj => ?_⟩
  · rw [h.sum, dif_pos hi, val_take_succ hi, List.take_length, Nat.add_mul, List.take_zero, val_nil]
    have e : 10 ^ i * ((x[i]).toNat * val y) = 10 ^ i * (x[i]).toNat * val y := by ac_rfl
    rw [e]
    split <;> simp
  · have := h.bd j hj
    split at this <;> omega
theorem Row.done {x y : List UInt8} {ol : List Nat} (h : Row x y ol x.length 0) : valN ol = val x * val y := by
  rw [h.sum, List.take_length, dif_neg (by omega), Nat.add_zero]
/-- The carries: what is written, what is carried, what is left. -/
structure Car (ol : List Nat) (P M : Nat) (i c : Nat) (d : List UInt8) : Prop where
  len : d.length = i
  d10 : D10 d
  sum : val d + 10 ^ i * (c + valN (ol.drop i)) = P
  bd : c ≤ M
theorem Car.start (ol : List Nat) (M : Nat) : Car ol (valN ol) M 0 0 [] := ⟨rfl, fun x hx => by simp at hx, by simp [val], Nat.zero_le _⟩
theorem Car.step {ol : List Nat} {P M i c : Nat} {d : List UInt8} (h : Car ol P M i c d) (hi : i < ol.length) (hM : ol[i] ≤ M) : Car ol P M (i + 1) ((c + ol[i]) / 10) (d ++ [UInt8.ofNat ((c + ol[i]) % 10)]) := by
  have e : (UInt8.ofNat ((c + ol[i]) % 10)).toNat = (c + ol[i]) % 10 := by rw [UInt8.toNat_ofNat']; omega
  have hb := h.bd
  refine ⟨by simp [h.len], h.d10.app (D10.one (by rw [e]; omega)), ?_, by omega⟩
  have hs := h.sum
  rw [List.drop_eq_getElem_cons hi, valN] at hs
  rw [val_snoc, e, h.len, ← hs, Nat.pow_succ]
  generalize 10 ^ i = T
  generalize valN (ol.drop (i + 1)) = V
  generalize ol[i] = o
  have hq : c + o = 10 * ((c + o) / 10) + (c + o) % 10 := by omega
  generalize (c + o) / 10 = a at *
  generalize (c + o) % 10 = r at *
  have : c + (o + 10 * V) = 10 * a + r + 10 * V := by omega
  rw [this]
  grind
theorem Car.done {ol : List Nat} {P M n c : Nat} {d : List UInt8} (h : Car ol P M n c d) (hn : ol.length = n) (hP : P < 10 ^ n) : val d = P := by
  have hs := h.sum
  rw [List.drop_of_length_le (by omega)] at hs
  have hc : c = 0 := by
    by_cases k : c = 0
    · exact k
    · exfalso
      have : 10 ^ n * 1 ≤ 10 ^ n * (c + valN []) := Nat.mul_le_mul_left _ (by omega)
      omega
  subst hc
  simp [valN] at hs
  exact hs
end Go.Proofs.YtgilnnipephfjaaGreatDoor
namespace Go.Proofs.YtgilnnipephfjaaGreatDoor
open Go.RowKit

/-- Digits in memory, that of a number. -/
theorem Bf.cut {w : World} {a : Option Addr} {n c k : Nat} {l : List UInt8} (h : Bf w a n c l) (hk : k ≤ n) : Bf w a k c (l.take k) := by
  have hl := h.len
  have hle := h.le
  refine ⟨by rw [List.length_take]; omega, by omega, ?_⟩
  rcases h.reg with q | ⟨b, o, rfl, ho, hb⟩
  · exact .inl q
  · refine .inr ⟨b, o, rfl, ho, fun i hi => ?_⟩
    rw [List.length_take] at hi
    rw [List.getElem_take]
    exact hb i (by omega)
def lenS (v : Value) : Nat := match v with | .slice _ n _ => n | _ => 0
set_option maxRecDepth 100000 in
theorem trim_any {w : World} {a : Option Addr} {n c : Nat} {l : List UInt8} (h : Bf w a n c l) (hd : D10 l) (hn : n ≤ 1000000) :
    Calls Tryz.prog 71 #[.slice a n c] w fun e1 w' => ∃ m, e1 = .returned (.slice a m c) ∧ w' = w ∧ m ≤ n ∧ Bf w a m c (dlow (val l)) := by
  have hl := h.len
  have hle := h.le
  by_cases h0 : n = 0
  · subst h0
    have e : l = [] := List.eq_nil_of_length_eq_zero hl
    subst e
    have h' : Bf w a 0 c (dlow (val [])) := by rw [val_nil, dlow_zero]; exact h
    have H := Aside.mk h'
    clear h h' hd hl
    go_enter Tryz.func71, Tryz.ntmps71
    go_wp2_with fail
    go_loop [0] (fun dv => dv = .slice a 0 c) (fun _ => 0)
    case atStart => rfl
    case round =>
      obtain rfl := hrel
      go_wp2_with fail
      go_ret
      exact ⟨0, rfl, rfl, by omega, H.out⟩
  · obtain ⟨b, o, rfl, hb, hlt⟩ := h.pos (by omega)
    have H := Aside.mk h
    have HD := Aside.mk hd
    have HL := Aside.mk hl
    have HB := Aside.mk hb
    clear h hd hb
    go_enter Tryz.func71, Tryz.ntmps71
    go_wp2_with fail
    go_loop [0] (fun dv => ∃ k : Nat, k ≤ n ∧ dv = .slice (some ⟨b, o, none⟩) k c ∧ Aside (∀ j (q : j < l.length), k ≤ j → l[j] = 0)) (fun dv => lenS dv)
    case atStart => exact ⟨n, Nat.le_refl _, rfl, ⟨fun j q k => by omega⟩⟩
    case round =>
      obtain ⟨k, hk, rfl, hz⟩ := hrel
      cases k with
      | zero =>
        have e : Aside (Bf w (some ⟨b, o, none⟩) 0 c (dlow (val l))) := ⟨by
          rw [← dlow_take HD.out (Nat.zero_le _) hz.out (.inl rfl)]
          exact H.out.cut (Nat.zero_le _)⟩
        go_wp2_with fail
        go_ret
        exact ⟨0, rfl, rfl, Nat.zero_le _, e.out⟩
      | succ k =>
        have hkl : k < l.length := by omega
        have hx : w.cell? ⟨b, o + k, none⟩ = some (.int .u8 ((l[k].toNat : Nat) : Int)) := HB.out k hkl
        by_cases hq : l[k] = 0
        · have hq' : ((((l[k]).toNat : Nat) : Int) == 0) = true := by rw [hq]; rfl
          have hz2 : Aside (∀ j (q : j < l.length), k ≤ j → l[j] = 0) := ⟨fun j q kj => by
            by_cases e : j = k
            · subst e; exact hq
            · exact hz.out j q (by omega)⟩
          clear hq
          go_wp2_with fail
          go_round
          case rel => exact ⟨k, by omega, by go_num, hz2⟩
          case measure => simp [lenS]
        · have hq' : ((((l[k]).toNat : Nat) : Int) == 0) = false := by
            rw [beq_eq_false_iff_ne]; intro e
            exact hq (UInt8.toNat_inj.1 (by have : (0 : UInt8).toNat = 0 := rfl
                                            omega))
          have e : Aside (Bf w (some ⟨b, o, none⟩) (k + 1) c (dlow (val l))) := ⟨by
            rw [← dlow_take HD.out (k := k + 1) (by omega) hz.out (.inr ⟨hkl, hq⟩)]
            exact H.out.cut hk⟩
          clear hq
          go_wp2_with fail
          go_ret
          exact ⟨k + 1, by go_num, rfl, hk, e.out⟩
end Go.Proofs.YtgilnnipephfjaaGreatDoor
namespace Go.Proofs.YtgilnnipephfjaaGreatDoor
open Go.RowKit

/-- The sign of a number. -/
def sg1 (neg : Bool) (X : Nat) : Bool := neg && decide (X ≠ 0)
theorem dlow_pos_len {X m : Nat} {w : World} {a : Option Addr} {c : Nat} (h : Bf w a m c (dlow X)) : decide (0 < m) = decide (X ≠ 0) := by
  have := h.len
  rw [← this]
  by_cases k : X = 0
  · have := dlow_nil.2 k
    rw [this]; simp [k]
  · have : (dlow X).length ≠ 0 := fun q => k (dlow_nil.1 q)
    rw [decide_eq_true (by omega), decide_eq_true k]
theorem res2' {w w0 w1 : World} {S : Nat → Nat → Prop} (h0 : w0 = w.alloc (.cells #[.bool false, .slice none 0 0] 45)) (f : Fr S w0 w1) (hS : ∀ o, ¬ S w.heap.size o) :
    w1.cell? ⟨w.heap.size, 0, none⟩ = some (.bool false) ∧ w1.cell? ⟨w.heap.size, 1, none⟩ = some (.slice none 0 0) ∧ w1.frozen? ⟨w.heap.size, 0, none⟩ = false ∧ w1.frozen? ⟨w.heap.size, 1, none⟩ = false ∧ w.heap.size < w1.heap.size := by
  subst h0
  have hk := (f.kind w.heap.size (by simp)).trans (kind_alloc_new w _ 45 (0, 0))
  refine ⟨(f.cell _ 0 (by simp) (hS 0)).trans (by rw [World.cell?_alloc_new]; rfl), (f.cell _ 1 (by simp) (hS 1)).trans (by rw [World.cell?_alloc_new]; rfl), free_of_kind hk 0, free_of_kind hk 1, ?_⟩
  have := f.size; simp at this; omega
set_option maxRecDepth 100000 in
set_option maxHeartbeats 1000000 in
theorem signed_any {w : World} {a : Option Addr} {n c : Nat} {l : List UInt8} (neg : Bool) (h : Bf w a n c l) (hd : D10 l) (hn : n ≤ 1000000) :
    Calls Tryz.prog 44 #[.bool neg, .slice a n c] w fun e1 w' => ∃ m, e1 = .returned (.agg #[.bool (sg1 neg (val l)), .slice a m c]) ∧ m ≤ n ∧ Bf w' a m c (dlow (val l)) ∧ Fr (fun _ _ => False) w w' := by
  obtain ⟨w1, hw1⟩ : ∃ x, w.alloc (.cells #[.bool false, .slice none 0 0] 45) = x := ⟨_, rfl⟩
  have F0 : Aside (Fr (fun _ _ => False) w w1) := ⟨by rw [← hw1]; exact (Fr.refl _ w).alloc _⟩
  have H := Lib.hid (trim_any (h.fr F0.out (fun _ _ _ q => q)) hd hn)
  obtain ⟨r0, r1, r2, r3, r4⟩ := res2' hw1.symm (Fr.refl (fun _ _ => False) w1) (fun o q => q)
  have HR := Aside.mk (And.intro r0 r1)
  clear h hd r0 r1 r2 r3 r4
  go_enter Tryz.func44, Tryz.ntmps44
  go_wp2_with fail
  refine H.out.mono ?_
  rintro e1 w2 ⟨m, rfl, hw2, hm, hB⟩
  subst hw2
  obtain ⟨r0, r1, r2, r3, r4⟩ := res2' hw1.symm (Fr.refl (fun _ _ => False) w2) (fun o q => q)
  have hpos := dlow_pos_len hB
  have HB := Aside.mk hB
  have HP := Aside.mk hpos
  clear hB H hpos hw1
  cases neg
  · go_wp2_with fail
    refine bodyPost_ret (v := .agg #[.bool false, .slice a m c]) (by simp [results, Tryz.results44, go_sem, r0, r1]) rfl ⟨m, rfl, hm, ?_, ?_⟩
    · exact HB.out.res (by intro z q; cases q) r0 r1 _ _
    · exact (F0.out.setCell w.heap.size 0 _ (fun q => by omega)).setCell w.heap.size 1 _ (fun q => by omega)
  · obtain ⟨p, hp⟩ : ∃ p, decide (0 < m) = p := ⟨_, rfl⟩
    have hp2 : decide ((0 : Int) < (m : Int)) = p := by rw [← hp]; simp
    have hp3 : decide ((m : Int) > 0) = p := hp2
    go_wp2_with fail
    refine bodyPost_ret (v := .agg #[.bool p, .slice a m c]) (by simp [results, Tryz.results44, go_sem, r0, r1, hp]) rfl ⟨m, ?_, hm, ?_, ?_⟩
    · have := HP.out
      rw [hp] at this
      rw [this]; rfl
    · exact HB.out.res (by intro z q; cases q) r0 r1 _ _
    · exact (F0.out.setCell w.heap.size 0 _ (fun q => by omega)).setCell w.heap.size 1 _ (fun q => by omega)
/-- Digits of a text, the lowest one first, from place r on. -/
def lowT (l : List UInt8) (r : Nat) : List UInt8 := ((l.drop r).reverse).map fun c => UInt8.ofNat (c.toNat - 48)
theorem lowT_step {l : List UInt8} {k : Nat} (h : k < l.length) : lowT l k = lowT l (k + 1) ++ [UInt8.ofNat (l[k].toNat - 48)] := by
  unfold lowT
  rw [List.drop_eq_getElem_cons h]
  simp only [List.reverse_cons, List.map_append, List.map_cons, List.map_nil]
theorem lowT_length (l : List UInt8) (r : Nat) : (lowT l r).length = l.length - r := by simp [lowT]
theorem lowT_zero {l : List UInt8} (h : Digs l) : val (lowT l 0) = numOf l ∧ D10 (lowT l 0) := by
  have := val_text h
  unfold lowT
  rwa [List.drop_zero]
set_option maxRecDepth 100000 in
set_option maxHeartbeats 1000000 in
theorem digits_any {w : World} {s : ByteArray} (hG : NG ≤ w.heap.size) (hd : Digs s.data.toList) (h0 : 0 < s.size) (hs : s.size ≤ 100000) :
    Calls Tryz.prog 15 #[.string s] w fun e1 w' => ∃ a m c, e1 = .returned (.tuple #[.agg #[.bool false, .slice a m c], .bool true]) ∧ m ≤ s.size ∧ Bf w' a m c (dlow (numOf s.data.toList)) ∧ Fr (fun _ _ => False) w w' := by
  obtain ⟨l, hl⟩ : ∃ l, s.data.toList = l := ⟨_, rfl⟩
  have hls : l.length = s.size := by rw [← hl]; rfl
  have qe : (s.toList == []) = false := by rw [ByteArray.toList_eq, beq_eq_false_iff_ne]; intro k; rw [hl] at k; rw [k] at hls; simp at hls; omega
  rw [hl] at hd ⊢
  have HSI : Aside (∀ i (h : i < s.size) (h2 : i < l.length), s[i] = l[i]) := ⟨fun i h h2 => by subst hl; rfl⟩
  have HLS := Aside.mk hls
  have HD := Aside.mk hd
  obtain ⟨w1, hw1⟩ : ∃ x, w.alloc (.cells #[.bool false, .slice none 0 0] 45) = x := ⟨_, rfl⟩
  have F1 : Aside (Fr (fun _ _ => False) w w1) := ⟨by rw [← hw1]; exact (Fr.refl _ w).alloc _⟩
  have HW1 := Aside.mk hw1
  have hs1 : Aside (w1.heap.size = w.heap.size + 1) := ⟨by rw [← hw1]; simp⟩
  have B0 := Aside.mk (BW.start (Bf.nil w1))
  have qe' : (s.toList != []) = true := by rw [bne, qe]; rfl
  clear hl hls hd
  go_enter Tryz.func15, Tryz.ntmps15
  go_wp2_with fail
  clear hw1
  go_loopw [4, 5] (fun dv iv wr => ∃ (r n : Nat) (a2 : Option Addr) (c2 : Nat), r ≤ s.size ∧ dv = .slice a2 n c2 ∧ iv = .int .i64 ((r : Int) - 1) ∧ Aside (BW w1 wr none 0 a2 n c2 (lowT l r))) (fun _ iv _ => (intOf iv + 1).toNat)
  case atStart => exact ⟨s.size, 0, none, 0, Nat.le_refl _, rfl, rfl, ⟨by
    have e : lowT l s.size = [] := List.eq_nil_of_length_eq_zero (by rw [lowT_length, HLS.out]; omega)
    rw [e]; exact B0.out⟩⟩
  case round =>
    obtain ⟨r, n, a2, c2, hr, rfl, rfl, hB⟩ := hrel
    have hn : n = s.size - r := by rw [← hB.out.bf.len, lowT_length, HLS.out]
    cases r with
    | zero =>
      have hz := Aside.mk (lowT_zero HD.out)
      have H := Lib.hid (signed_any false hB.out.bf hz.out.2 (by omega))
      have hnn : n ≤ s.size := by omega
      clear hn
      go_wp2_with fail
      refine H.out.mono ?_
      rintro e1 w3 ⟨m, rfl, hm, k1, k2⟩
      have F3 : Aside (Fr (foot none 0) w1 w3) := ⟨hB.out.fr.trans' k2 (fun _ _ _ q => q) (fun _ _ _ q => q.elim)⟩
      obtain ⟨r0, r1, r2, r3, r4⟩ := res2' HW1.out.symm F3.out (fun o => foot_none _ _ _)
      have K1 := Aside.mk k1
      clear k1 k2 H
      go_wp2_with fail
      refine bodyPost_ret (v := .tuple #[.agg #[.bool false, .slice a2 m c2], .bool true]) (by simp [results, Tryz.results15, go_sem, r0, r1, qe', sg1]) rfl ⟨a2, m, c2, rfl, by omega, ?_, ?_⟩
      · have hbf := K1.out
        rw [hz.out.1] at hbf
        exact hbf.res (by intro z q; cases q) r0 r1 _ _
      · exact ((F1.out.trans' F3.out (fun _ _ _ q => q) (fun _ _ _ q => (foot_none _ _ _ q).elim)).setCell w.heap.size 0 _ (fun q => by omega)).setCell w.heap.size 1 _ (fun q => by omega)
    | succ k =>
      have hk : k < l.length := by rw [HLS.out]; omega
      have hks : k < s.size := by omega
      obtain ⟨d, hd⟩ : ∃ d, (s[k]).toNat = d := ⟨_, rfl⟩
      have hd48 := HD.out _ (List.getElem_mem hk)
      rw [← HSI.out k hks hk, hd] at hd48
      obtain ⟨h48, h57⟩ := hd48
      have hi48 : (48 : Int) ≤ (d : Int) := by omega
      have hi57 : (d : Int) ≤ 57 := by omega
      have hst := lowT_step hk
      rw [← HSI.out k hks hk, hd] at hst
      have HST := Aside.mk hst
      have hz : Aside ((d : Int) - 48 = (((UInt8.ofNat (d - 48)).toNat : Nat) : Int)) := ⟨by rw [UInt8.toNat_ofNat']; omega⟩
      rw [show ((k + 1 : Nat) : Int) - 1 = (k : Int) from by omega]
      have hn2 : n + 1 ≤ 100001 := by omega
      clear hst hn h48 h57
      go_upto_region 4 with (at_builtin; go_must (refine wpList_appendB _ rfl (.tmp 24) (.tmp 29) 38 rfl ((hB.out.alloc _).size (Nat.le_trans hG F1.out.size)) (hB.out.alloc _).bf rfl rfl (Src.oneZ wr _ hz.out 5) rfl (by omega) ?_; intro a3 c3 w3 k1 k2 k3; have B2 := Aside.mk ((hB.out.alloc _).append k1 k2 k3); clear k1 k2 k3))
      go_wp2_with fail
      go_roundw
      case rel => exact ⟨k, n + 1, a3, c3, by omega, rfl, by go_num, ⟨by rw [HST.out]; exact B2.out⟩⟩
      case measure => simp [intOf]
set_option maxRecDepth 100000 in
theorem minus_any {w : World} {a : Option Addr} {n c X : Nat} (neg : Bool) (h : Bf w a n c (dlow X)) (hn : n ≤ 1000000) :
    Calls Tryz.prog 38 #[.agg #[.bool neg, .slice a n c]] w fun e1 w' => ∃ m, e1 = .returned (.agg #[.bool (sg1 (!neg) X), .slice a m c]) ∧ m ≤ n ∧ Bf w' a m c (dlow X) ∧ Fr (fun _ _ => False) w w' := by
  obtain ⟨w1, hw1⟩ : ∃ x, w.alloc (.cells #[.bool neg, .slice a n c] 45) = x := ⟨_, rfl⟩
  have F1 : Aside (Fr (fun _ _ => False) w w1) := ⟨by rw [← hw1]; exact (Fr.refl _ w).alloc _⟩
  have c0 : w1.cell? ⟨w.heap.size, 0, none⟩ = some (.bool neg) := by rw [← hw1, World.cell?_alloc_new]; rfl
  have c1 : w1.cell? ⟨w.heap.size, 1, none⟩ = some (.slice a n c) := by rw [← hw1, World.cell?_alloc_new]; rfl
  have hs1 : w1.heap.size = w.heap.size + 1 := by rw [← hw1]; simp
  obtain ⟨w2, hw2⟩ : ∃ x, w1.alloc (.cells #[.bool false, .slice none 0 0] 45) = x := ⟨_, rfl⟩
  have F2 : Aside (Fr (fun _ _ => False) w1 w2) := ⟨by rw [← hw2]; exact (Fr.refl _ w1).alloc _⟩
  have hS := signed_any (!neg) (h.fr (F1.out.trans F2.out) (fun _ _ _ q => q)) (dlow_d10 X) hn
  rw [val_dlow] at hS
  have H := Lib.hid hS
  have d0 := (F2.out.cell w.heap.size 0 (by omega) (fun q => q)).trans c0
  have d1 := (F2.out.cell w.heap.size 1 (by omega) (fun q => q)).trans c1
  have HW2 := Aside.mk hw2
  have HS1 := Aside.mk hs1
  clear h hS
  go_enter Tryz.func38, Tryz.ntmps38
  go_wp2_with fail
  clear hw1 hw2
  refine H.out.mono ?_
  rintro e1 w3 ⟨m, rfl, hm, k1, k2⟩
  obtain ⟨r0, r1, r2, r3, r4⟩ := res2' HW2.out.symm k2 (fun o q => q)
  rw [HS1.out] at r0 r1 r2 r3 r4
  have K1 := Aside.mk k1
  have K2 := Aside.mk ((F1.out.trans F2.out).trans k2)
  clear k1 k2 H
  go_wp2_with fail
  refine bodyPost_ret (v := .agg #[.bool (sg1 (!neg) X), .slice a m c]) (by simp [results, Tryz.results38, go_sem, r0, r1]) rfl ⟨m, rfl, hm, ?_, ?_⟩
  · exact K1.out.res (by intro z q; cases q) r0 r1 _ _
  · have := F1.out.size
    exact (K2.out.setCell (w.heap.size + 1) 0 _ (fun q => by omega)).setCell (w.heap.size + 1) 1 _ (fun q => by omega)
end Go.Proofs.YtgilnnipephfjaaGreatDoor
namespace Go.Proofs.YtgilnnipephfjaaGreatDoor
open Go.RowKit

theorem val_rep (n : Nat) (l : List UInt8) : val (List.replicate n 0 ++ l) = 10 ^ n * val l := by
  induction n with
  | zero => simp
  | succ n ih => rw [List.replicate_succ, List.cons_append, val_cons, ih, Nat.pow_succ]; simp; rw [Nat.mul_comm (10 ^ n) 10, Nat.mul_assoc]
theorem dlow_ten (n : Nat) : dlow (10 ^ n) = List.replicate n 0 ++ [1] := by
  have e : val (List.replicate n 0 ++ [1]) = 10 ^ n := by rw [val_rep]; simp [val]
  rw [← e]
  refine dlow_val ?_ (by simp)
  intro x hx
  rcases List.mem_append.1 hx with k | k
  · rw [(List.mem_replicate.1 k).2]; decide
  · simp at k; subst k; decide
set_option maxRecDepth 100000 in
set_option maxHeartbeats 1000000 in
theorem ten_any {w : World} (n : Nat) (hG : NG ≤ w.heap.size) (hn : n ≤ 20000) :
    Calls Tryz.prog 37 #[.int .i64 n] w fun e1 w' => ∃ a, e1 = .returned (.agg #[.bool false, .slice a (n + 1) (n + 1)]) ∧ Bf w' a (n + 1) (n + 1) (dlow (10 ^ n)) ∧ Fr (fun _ _ => False) w w' := by
  have fm := run_makeB (n + 1) (n + 1) (Nat.le_refl _) (by omega)
  rw [show ((n + 1 : Nat) : Int) = (n : Int) + 1 from rfl] at fm
  obtain ⟨w1, hw1⟩ : ∃ x, w.alloc (.cells #[.bool false, .slice none 0 0] 45) = x := ⟨_, rfl⟩
  have F1 : Aside (Fr (fun _ _ => False) w w1) := ⟨by rw [← hw1]; exact (Fr.refl _ w).alloc _⟩
  have HW1 := Aside.mk hw1
  have hs1 : w1.heap.size = w.heap.size + 1 := by rw [← hw1]; simp
  have HS1 := Aside.mk hs1
  have hG1 : NG ≤ w1.heap.size := by omega
  have hfr : Fr (fun _ _ => False) w1 (w1.alloc (.cells (madeCells #[.int .u8 0] (n + 1)) 5)) := (Fr.refl _ w1).alloc _
  have ho := OwnB_made (n + 1) 5 w1 hG1
  have hcl : ∀ i, i < n + 1 → (w1.alloc (.cells (madeCells #[.int .u8 0] (n + 1)) 5)).cell? ⟨w1.heap.size, 0 + i, none⟩ = some (.int .u8 0) := fun i hi => by
    rw [Nat.zero_add, World.cell?_alloc_new, ← Array.getElem?_toList, toList_madeCells_one]
    simp [hi]
  obtain ⟨wA, hwA⟩ : ∃ x, w1.alloc (.cells (madeCells #[.int .u8 0] (n + 1)) 5) = x := ⟨_, rfl⟩
  obtain ⟨ob, hob⟩ : ∃ ob, w1.heap.size = ob := ⟨_, rfl⟩
  have hw3 := hw1
  clear hw3
  rw [hwA] at hfr ho hcl
  rw [hob] at ho hcl
  have HB : Aside (Bf (wA.setCell ⟨ob, n, none⟩ (.int .u8 1)) (some ⟨ob, 0, none⟩) (n + 1) (n + 1) (dlow (10 ^ n)) ∧ Fr (fun _ _ => False) w1 (wA.setCell ⟨ob, n, none⟩ (.int .u8 1))) := ⟨by
    obtain ⟨k1, k2⟩ := ho.setCells n [1] (by simp)
    have e : wA.setCells ob (0 + n) (bv [1]) = wA.setCell ⟨ob, n, none⟩ (.int .u8 1) := by rw [Nat.zero_add]; rfl
    rw [e] at k1 k2
    refine ⟨⟨by rw [dlow_ten]; simp, Nat.le_refl _, .inr ⟨_, _, rfl, k1, ?_⟩⟩, hfr.setCell _ _ _ (fun q => by omega)⟩
    intro i hi
    have hi' : i < n + 1 := by rw [dlow_ten] at hi; simpa using hi
    simp only [dlow_ten]
    by_cases h : i < n
    · rw [World.cell?_setCell_other _ _ _ _ (by simp only [ne_eq, Addr.mk.injEq, and_true]; omega), hcl i hi']
      rw [List.getElem_append_left (by simpa using h)]
      simp
    · obtain rfl : i = n := by omega
      have := k2 0 (by simp)
      rw [List.getElem_append_right (by simp)]
      simpa using this⟩
  have hu : wA.cell? ⟨ob, n, none⟩ = some (.int .u8 0) := by have := hcl n (by omega); rwa [Nat.zero_add] at this
  have hfz : wA.frozen? ⟨ob, n, none⟩ = false := ho.kind.free _
  have HA := Aside.mk hwA
  clear hcl ho hfr hwA
  have hsz : w1.heap.size = ob := hob
  clear hs1
  go_enter Tryz.func37, Tryz.ntmps37
  go_upto_region 2 with fail
  rw [HA.out]
  try rw [hsz]
  obtain ⟨w3, hw3⟩ : ∃ x, wA.setCell ⟨ob, n, none⟩ (.int .u8 1) = x := ⟨_, rfl⟩
  rw [hw3] at HB
  obtain ⟨r0, r1, r2, r3, r4⟩ := res2' HW1.out.symm HB.out.2 (fun o q => q)
  have HWB := Aside.mk hw3
  clear hw1 hsz hob
  go_wp2_with fail
  refine bodyPost_ret (v := .agg #[.bool false, .slice (some ⟨ob, 0, none⟩) (n + 1) (n + 1)]) (by simp [results, Tryz.results37, go_sem, r0, r1]) rfl ⟨_, rfl, ?_, ?_⟩
  · exact HB.out.1.res (by intro z q; cases q) r0 r1 _ _
  · exact ((F1.out.trans HB.out.2).setCell w.heap.size 0 _ (fun q => by omega)).setCell w.heap.size 1 _ (fun q => by omega)
end Go.Proofs.YtgilnnipephfjaaGreatDoor
