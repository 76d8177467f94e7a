/- Sums and differences of digits; plain laws. The reference's plus and less. Long division digit by digit; plain laws. -/
import Derived.Test.YtgilnnipephfjaaGreatDoorT43SN4
set_option linter.unusedSimpArgs false
set_option linter.unusedVariables false
namespace Go.Proofs.YtgilnnipephfjaaGreatDoor
open Go.RowKit

/-- Digit i of digits; 0 behind them. -/
def dgt (l : List UInt8) (i : Nat) : Nat := if h : i < l.length then (l[i]).toNat else 0
theorem dgt_in {l : List UInt8} {i : Nat} (h : i < l.length) : dgt l i = (l[i]).toNat := by unfold dgt; rw [dif_pos h]
theorem dgt_out {l : List UInt8} {i : Nat} (h : ¬ i < l.length) : dgt l i = 0 := by unfold dgt; rw [dif_neg h]
theorem dgt_lt {l : List UInt8} (h : D10 l) (i : Nat) : dgt l i < 10 := by
  unfold dgt
  split
  · exact h.get _
  · omega
theorem val_drop (l : List UInt8) (i : Nat) : val (l.drop i) = dgt l i + 10 * val (l.drop (i + 1)) := by
  by_cases h : i < l.length
  · rw [List.drop_eq_getElem_cons h, val_cons, dgt_in h]
  · rw [List.drop_of_length_le (by omega), List.drop_of_length_le (by omega), dgt_out h]; rfl
theorem val_drop_nil {l : List UInt8} {i : Nat} (h : l.length ≤ i) : val (l.drop i) = 0 := by rw [List.drop_of_length_le h]; rfl

/-- A sum under way: what is written, what is carried, what is left. -/
structure Pls (a b : List UInt8) (i c : Nat) (d : List UInt8) : Prop where
  len : d.length = i
  d10 : D10 d
  sum : val d + 10 ^ i * (c + val (a.drop i) + val (b.drop i)) = val a + val b
  bd : c ≤ 1
theorem Pls.start (a b : List UInt8) : Pls a b 0 0 [] := ⟨rfl, fun x hx => by simp at hx, by simp [val], Nat.zero_le _⟩
theorem Pls.step {a b d : List UInt8} {i c : Nat} (h : Pls a b i c d) (ha : D10 a) (hb : D10 b) : c + dgt a i + dgt b i ≤ 19 ∧ Pls a b (i + 1) ((c + dgt a i + dgt b i) / 10) (d ++ [UInt8.ofNat ((c + dgt a i + dgt b i) % 10)]) := by
  have h1 := dgt_lt ha i
  have h2 := dgt_lt hb i
  have h3 := h.bd
  refine ⟨by omega, ?_⟩
  have e : (UInt8.ofNat ((c + dgt a i + dgt b i) % 10)).toNat = (c + dgt a i + dgt b i) % 10 := by rw [UInt8.toNat_ofNat']; omega
  refine ⟨by simp [h.len], h.d10.app (D10.one (by rw [e]; omega)), ?_, by omega⟩
  have hs := h.sum
  rw [val_drop a i, val_drop b i] at hs
  rw [val_snoc, e, h.len, ← hs, Nat.pow_succ]
  generalize 10 ^ i = T
  generalize val (a.drop (i + 1)) = U
  generalize val (b.drop (i + 1)) = V
  generalize dgt a i = x
  generalize dgt b i = y
  have hq : c + x + y = 10 * ((c + x + y) / 10) + (c + x + y) % 10 := by omega
  generalize (c + x + y) / 10 = p at *
  generalize (c + x + y) % 10 = r at *
  have : c + (x + 10 * U) + (y + 10 * V) = 10 * p + r + 10 * U + 10 * V := by omega
  rw [this]
  grind
theorem Pls.done {a b d : List UInt8} {i : Nat} (h : Pls a b i 0 d) (ha : a.length ≤ i) (hb : b.length ≤ i) : val d = val a + val b := by
  have hs := h.sum
  rw [val_drop_nil ha, val_drop_nil hb] at hs
  simpa using hs

/-- A difference under way. -/
structure Lss (a b : List UInt8) (i c : Nat) (d : List UInt8) : Prop where
  len : d.length = i
  d10 : D10 d
  sum : val a + 10 ^ i * (c + val (b.drop i)) = val d + 10 ^ i * val (a.drop i) + val b
  bd : c ≤ 1
theorem Lss.start (a b : List UInt8) : Lss a b 0 0 [] := ⟨rfl, fun x hx => by simp at hx, by simp [val], Nat.zero_le _⟩
theorem Lss.step {a b d : List UInt8} {i c : Nat} (h : Lss a b i c d) (ha : D10 a) (hb : D10 b) : dgt b i + c ≤ 10 + dgt a i ∧ 10 + dgt a i - c - dgt b i ≤ 19 ∧
    Lss a b (i + 1) (1 - (10 + dgt a i - c - dgt b i) / 10) (d ++ [UInt8.ofNat ((10 + dgt a i - c - dgt b i) % 10)]) := by
  have h1 := dgt_lt ha i
  have h2 := dgt_lt hb i
  have h3 := h.bd
  refine ⟨by omega, by omega, ?_⟩
  obtain ⟨n, hn⟩ : ∃ n, 10 + dgt a i - c - dgt b i = n := ⟨_, rfl⟩
  rw [hn]
  have e : (UInt8.ofNat (n % 10)).toNat = n % 10 := by rw [UInt8.toNat_ofNat']; omega
  refine ⟨by simp [h.len], h.d10.app (D10.one (by rw [e]; omega)), ?_, by omega⟩
  have hs := h.sum
  rw [val_drop a i, val_drop b i] at hs
  rw [val_snoc, e, h.len, Nat.pow_succ]
  generalize 10 ^ i = T at *
  generalize val (a.drop (i + 1)) = U at *
  generalize val (b.drop (i + 1)) = V at *
  generalize dgt a i = x at *
  generalize dgt b i = y at *
  obtain ⟨q, hq⟩ : ∃ q, 1 - n / 10 = q := ⟨_, rfl⟩
  have hk : 10 * q + x = c + y + n % 10 := by omega
  rw [hq]
  generalize n % 10 = r at *
  have e1 : T * (10 * q) + T * x = T * c + T * y + T * r := by rw [← Nat.mul_add, ← Nat.mul_add, ← Nat.mul_add, hk]
  have e2 : T * (c + (y + 10 * V)) = T * c + T * y + T * (10 * V) := by rw [Nat.mul_add, Nat.mul_add, Nat.add_assoc]
  have e3 : T * (x + 10 * U) = T * x + T * (10 * U) := Nat.mul_add ..
  have e4 : T * 10 * (q + V) = T * (10 * q) + T * (10 * V) := by rw [Nat.mul_assoc, Nat.mul_add, Nat.mul_add]
  have e5 : T * 10 * U = T * (10 * U) := Nat.mul_assoc ..
  rw [e4, e5]
  rw [e2, e3] at hs
  omega
theorem Lss.done {a b d : List UInt8} {c : Nat} (h : Lss a b a.length c d) (hle : val b ≤ val a) : val d = val a - val b := by
  have hs := h.sum
  rw [val_drop_nil (Nat.le_refl _), Nat.mul_zero, Nat.add_zero] at hs
  have hd := val_lt h.d10
  rw [h.len] at hd
  by_cases hz : c + val (b.drop a.length) = 0
  · rw [hz, Nat.mul_zero] at hs; omega
  · have : 10 ^ a.length * 1 ≤ 10 ^ a.length * (c + val (b.drop a.length)) := Nat.mul_le_mul_left _ (by omega)
    omega
end Go.Proofs.YtgilnnipephfjaaGreatDoor
namespace Go.Proofs.YtgilnnipephfjaaGreatDoor
open Go.RowKit

theorem dgt_cell {w : World} {b o : Nat} {l : List UInt8} {i : Nat} (h : ∀ i (hi : i < l.length), w.cell? ⟨b, o + i, none⟩ = some (.int .u8 (((l[i]).toNat : Nat) : Int))) (hi : i < l.length) : w.cell? ⟨b, o + i, none⟩ = some (.int .u8 ((dgt l i : Nat) : Int)) := by
  rw [dgt_in hi]; exact h i hi
theorem u8_nat {n : Nat} (h : n < 256) : IntKind.u8.wrap (n : Int) = (n : Int) := by rw [IntKind.wrap_u8]; omega
theorem u8_add {c x : Nat} (h : c + x < 256) : IntKind.u8.wrap ((c : Int) + (x : Int)) = ((c + x : Nat) : Int) := by rw [IntKind.wrap_u8]; omega
set_option maxRecDepth 100000 in
set_option maxHeartbeats 4000000 in
theorem plus_any {w : World} {a a' : Option Addr} {n c n' c' : Nat} {la lb : List UInt8} (hG : NG ≤ w.heap.size) (h : Bf w a n c la) (h' : Bf w a' n' c' lb) (da : D10 la) (db : D10 lb) (hn : n ≤ 20000) (hn' : n' ≤ 20000) :
    Calls Tryz.prog 78 #[.slice a n c, .slice a' n' c'] w fun e1 w' => ∃ a2 m c2, e1 = .returned (.slice a2 m c2) ∧ m ≤ n + n' + 1 ∧ ∃ l, Bf w' a2 m c2 l ∧ D10 l ∧ val l = val la + val lb ∧ Fr (fun _ _ => False) w w' := by
  have HA := Aside.mk h
  have HB := Aside.mk h'
  have DA' := Aside.mk (And.intro da db)
  have hla := h.len
  have hlb := h'.len
  have B0 := Aside.mk (BW.start (Bf.nil w))
  have HG := Aside.mk hG
  clear h h' da db hG
  go_enter Tryz.func78, Tryz.ntmps78
  go_wp2_with fail
  go_loopw [5, 6, 7] (fun dv cv iv wr => ∃ (i k c2 : Nat) (a2 : Option Addr) (d : List UInt8), iv = .int .i64 i ∧ cv = .int .u8 (k : Nat) ∧ k ≤ 1 ∧ (i ≤ n + n' ∨ (i ≤ n + n' + 1 ∧ k = 0)) ∧ dv = .slice a2 i c2 ∧ Aside (Pls la lb i k d) ∧ Aside (BW w wr none 0 a2 i c2 d)) (fun _ _ iv _ => ((n + n' + 2 : Nat) - intOf iv).toNat)
  case atStart => exact ⟨0, 0, 0, none, [], rfl, rfl, by omega, by omega, rfl, ⟨Pls.start la lb⟩, B0⟩
  case round =>
    obtain ⟨i, k, c2, a2, d, rfl, rfl, hk, hi, rfl, hP, hB⟩ := hrel
    have hst := hP.out.step DA'.out.1 DA'.out.2
    have FW : Aside (Fr (fun _ _ => False) w wr) := ⟨hB.out.fr.mono (fun _ _ _ q => (foot_none _ _ _ q).elim)⟩
    by_cases hend : ¬ i < n ∧ ¬ i < n' ∧ k = 0
    · obtain ⟨e1, e2, rfl⟩ := hend
      have g1 : ¬ (i : Int) < (n : Int) := by omega
      have g2 : ¬ (i : Int) < (n' : Int) := by omega
      have hD := Aside.mk (hP.out.done (by omega) (by omega))
      clear hst e1 e2
      go_wp2_with fail
      go_ret
      exact ⟨a2, i, c2, rfl, by omega, d, hB.out.bf, hP.out.d10, hD.out, FW.out⟩
    · obtain ⟨x, hx⟩ : ∃ x, dgt la i = x := ⟨_, rfl⟩
      obtain ⟨y, hy⟩ : ∃ y, dgt lb i = y := ⟨_, rfl⟩
      have hx9 := dgt_lt DA'.out.1 i
      have hy9 := dgt_lt DA'.out.2 i
      rw [hx, hy] at hst
      rw [hx] at hx9
      rw [hy] at hy9
      obtain ⟨q, hq⟩ : ∃ q, k + x + y = q := ⟨_, rfl⟩
      rw [hq] at hst
      have hq19 := hst.1
      have HZ : Aside ((q : Int) % 10 = (((UInt8.ofNat (q % 10)).toNat : Nat) : Int)) := ⟨by rw [UInt8.toNat_ofNat']; omega⟩
      have HQ : Aside (IntKind.u8.wrap ((q : Int) / 10) = ((q / 10 : Nat) : Int)) := ⟨by rw [IntKind.wrap_u8]; omega⟩
      have HS := Aside.mk hst.2
      have hq1 : q / 10 ≤ 1 := by omega
      have hnext : i + 1 ≤ n + n' ∨ (i + 1 ≤ n + n' + 1 ∧ q / 10 = 0) := by
        by_cases e : i < n ∨ i < n'
        · left; omega
        · right
          have e1 : x = 0 := by rw [← hx]; exact dgt_out (by omega)
          have e2 : y = 0 := by rw [← hy]; exact dgt_out (by omega)
          omega
      have HN := Aside.mk hnext
      clear hst hnext
      by_cases h1 : i < n <;> by_cases h2 : i < n'
      · obtain ⟨ab, ao, rfl, hca, _⟩ := (HA.out.fr FW.out (fun _ _ _ q => q)).pos (by omega)
        have cx := dgt_cell hca (i := i) (by omega)
        rw [hx] at cx
        have g1 : (i : Int) < (n : Int) := by omega
        obtain ⟨bb, bo, rfl, hcb, _⟩ := (HB.out.fr FW.out (fun _ _ _ q => q)).pos (by omega)
        have cy := dgt_cell hcb (i := i) (by omega)
        rw [hy] at cy
        have g2 : (i : Int) < (n' : Int) := by omega
        obtain ⟨p, hp⟩ : ∃ p, k + x = p := ⟨_, rfl⟩
        have hw1 : IntKind.u8.wrap ((k : Int) + (x : Int)) = (p : Int) := by rw [← hp]; exact u8_add (by omega)
        have hw2 : IntKind.u8.wrap ((p : Int) + (y : Int)) = (q : Int) := by rw [← hq, hp]; exact u8_add (by omega)
        have hm1 : i + 1 ≤ 40002 := by omega
        clear hca hcb hend hp hq hx9 hy9 h1 h2
        go_upto_region 5 with (at_builtin; go_must (refine wpList_appendB _ rfl (.tmp 46) (.tmp 49) 38 rfl ((hB.out.alloc _).size HG.out) (hB.out.alloc _).bf rfl rfl (Src.oneZ wr _ HZ.out 5) rfl (by omega) ?_; intro a3 c3 w3 k1 k2 k3; have B2 := Aside.mk ((hB.out.alloc _).append k1 k2 k3); clear k1 k2 k3))
        go_wp2_with fail
        go_roundw
        case rel => exact ⟨i + 1, q / 10, c3, a3, _, by go_num, by rw [show ((q / 10 : Nat) : Int) = (q : Int) / 10 from by omega], hq1, HN.out, rfl, HS, B2⟩
        case measure => simp [intOf]; omega
      · obtain ⟨ab, ao, rfl, hca, _⟩ := (HA.out.fr FW.out (fun _ _ _ q => q)).pos (by omega)
        have cx := dgt_cell hca (i := i) (by omega)
        rw [hx] at cx
        have g1 : (i : Int) < (n : Int) := by omega
        have e2 : y = 0 := by rw [← hy]; exact dgt_out (by omega)
        have g2 : ¬ (i : Int) < (n' : Int) := by omega
        have hw1 : IntKind.u8.wrap ((k : Int) + (x : Int)) = (q : Int) := by rw [← hq, e2]; exact u8_add (by omega)
        have hm1 : i + 1 ≤ 40002 := by omega
        clear hca hend hq hx9 hy9 h1 h2 e2
        go_upto_region 5 with (at_builtin; go_must (refine wpList_appendB _ rfl (.tmp 46) (.tmp 49) 38 rfl ((hB.out.alloc _).size HG.out) (hB.out.alloc _).bf rfl rfl (Src.oneZ wr _ HZ.out 5) rfl (by omega) ?_; intro a3 c3 w3 k1 k2 k3; have B2 := Aside.mk ((hB.out.alloc _).append k1 k2 k3); clear k1 k2 k3))
        go_wp2_with fail
        go_roundw
        case rel => exact ⟨i + 1, q / 10, c3, a3, _, by go_num, by rw [show ((q / 10 : Nat) : Int) = (q : Int) / 10 from by omega], hq1, HN.out, rfl, HS, B2⟩
        case measure => simp [intOf]; omega
      · have e1 : x = 0 := by rw [← hx]; exact dgt_out (by omega)
        have g1 : ¬ (i : Int) < (n : Int) := by omega
        obtain ⟨bb, bo, rfl, hcb, _⟩ := (HB.out.fr FW.out (fun _ _ _ q => q)).pos (by omega)
        have cy := dgt_cell hcb (i := i) (by omega)
        rw [hy] at cy
        have g2 : (i : Int) < (n' : Int) := by omega
        have hw1 : IntKind.u8.wrap ((k : Int) + (y : Int)) = (q : Int) := by rw [← hq, e1, Nat.add_zero]; exact u8_add (by omega)
        have hm1 : i + 1 ≤ 40002 := by omega
        clear hcb hend hq hx9 hy9 h1 h2 e1
        go_upto_region 5 with (at_builtin; go_must (refine wpList_appendB _ rfl (.tmp 46) (.tmp 49) 38 rfl ((hB.out.alloc _).size HG.out) (hB.out.alloc _).bf rfl rfl (Src.oneZ wr _ HZ.out 5) rfl (by omega) ?_; intro a3 c3 w3 k1 k2 k3; have B2 := Aside.mk ((hB.out.alloc _).append k1 k2 k3); clear k1 k2 k3))
        go_wp2_with fail
        go_roundw
        case rel => exact ⟨i + 1, q / 10, c3, a3, _, by go_num, by rw [show ((q / 10 : Nat) : Int) = (q : Int) / 10 from by omega], hq1, HN.out, rfl, HS, B2⟩
        case measure => simp [intOf]; omega
      · have e1 : x = 0 := by rw [← hx]; exact dgt_out (by omega)
        have g1 : ¬ (i : Int) < (n : Int) := by omega
        have e2 : y = 0 := by rw [← hy]; exact dgt_out (by omega)
        have g2 : ¬ (i : Int) < (n' : Int) := by omega
        obtain rfl : q = k := by omega
        have g3 : (0 : Int) < (q : Int) := by omega
        have hm1 : i + 1 ≤ 40002 := by omega
        clear hend hx9 hy9 h1 h2 e1 e2
        go_upto_region 5 with (at_builtin; go_must (refine wpList_appendB _ rfl (.tmp 46) (.tmp 49) 38 rfl ((hB.out.alloc _).size HG.out) (hB.out.alloc _).bf rfl rfl (Src.oneZ wr _ HZ.out 5) rfl (by omega) ?_; intro a3 c3 w3 k1 k2 k3; have B2 := Aside.mk ((hB.out.alloc _).append k1 k2 k3); clear k1 k2 k3))
        go_wp2_with fail
        go_roundw
        case rel => exact ⟨i + 1, q / 10, c3, a3, _, by go_num, by rw [show ((q / 10 : Nat) : Int) = (q : Int) / 10 from by omega], hq1, HN.out, rfl, HS, B2⟩
        case measure => simp [intOf]; omega
set_option maxRecDepth 100000 in
set_option maxHeartbeats 4000000 in
theorem less_out {w : World} {a a' : Option Addr} {n c n' c' : Nat} {la lb : List UInt8} (hG : NG ≤ w.heap.size) (h : Bf w a n c la) (h' : Bf w a' n' c' lb) (da : D10 la) (db : D10 lb) (hn : n ≤ 20000) (hn' : n' ≤ 20000) (hle : val lb ≤ val la) :
    Calls Tryz.prog 72 #[.slice a n c, .slice a' n' c'] w fun e1 w' => ∃ a2 m c2, e1 = .returned (.slice a2 m c2) ∧ m ≤ n ∧ Bf w' a2 m c2 (dlow (val la - val lb)) ∧ Fr (fun _ _ => False) w w' ∧ Out w none 0 a2 c2 := by
  have HA := Aside.mk h
  have HB := Aside.mk h'
  have DA' := Aside.mk (And.intro da (And.intro db hle))
  have hla := h.len
  have hlb := h'.len
  have B0 := Aside.mk (BW.start (Bf.nil w))
  have HG := Aside.mk hG
  clear h h' da db hG hle
  go_enter Tryz.func72, Tryz.ntmps72
  go_wp2_with fail
  go_loopw [5, 6, 7] (fun dv cv iv wr => ∃ (i k c2 : Nat) (a2 : Option Addr) (d : List UInt8), iv = .int .i64 i ∧ cv = .int .u8 (k : Nat) ∧ k ≤ 1 ∧ i ≤ n ∧ dv = .slice a2 i c2 ∧ Aside (Lss la lb i k d) ∧ Aside (BW w wr none 0 a2 i c2 d)) (fun _ _ iv _ => ((n : Nat) - intOf iv).toNat)
  case atStart => exact ⟨0, 0, 0, none, [], rfl, rfl, by omega, by omega, rfl, ⟨Lss.start la lb⟩, B0⟩
  case round =>
    obtain ⟨i, k, c2, a2, d, rfl, rfl, hk, hi, rfl, hP, hB⟩ := hrel
    have hst := hP.out.step DA'.out.1 DA'.out.2.1
    have FW : Aside (Fr (fun _ _ => False) w wr) := ⟨hB.out.fr.mono (fun _ _ _ q => (foot_none _ _ _ q).elim)⟩
    by_cases h1 : i < n
    case neg =>
      have g1 : ¬ (i : Int) < (n : Int) := by omega
      have hil : i = la.length := by omega
      have hP2 := hP.out
      rw [hil] at hP2
      have hT := trim_any hB.out.bf hP.out.d10 (by omega)
      rw [hP2.done DA'.out.2.2] at hT
      have H := Lib.hid hT
      clear hst hT hP2 hil h1
      go_wp2_with fail
      refine H.out.mono ?_
      rintro e1 w2 ⟨m2, rfl, rfl, k1, k2⟩
      have K := Aside.mk k2
      clear k2 H
      go_wp2_with fail
      go_ret
      exact ⟨a2, m2, c2, rfl, by omega, K.out, FW.out, hB.out.out⟩
    case pos =>
      obtain ⟨x, hx⟩ : ∃ x, dgt la i = x := ⟨_, rfl⟩
      obtain ⟨y, hy⟩ : ∃ y, dgt lb i = y := ⟨_, rfl⟩
      have hx9 := dgt_lt DA'.out.1 i
      have hy9 := dgt_lt DA'.out.2.1 i
      rw [hx, hy] at hst
      rw [hx] at hx9
      rw [hy] at hy9
      obtain ⟨p, hp⟩ : ∃ p, 10 + x - k = p := ⟨_, rfl⟩
      obtain ⟨q, hq⟩ : ∃ q, p - y = q := ⟨_, rfl⟩
      rw [hp, hq] at hst
      obtain ⟨z, hz⟩ : ∃ z, 10 + x = z := ⟨_, rfl⟩
      have hw0 : IntKind.u8.wrap (10 + (x : Int)) = (z : Int) := by rw [IntKind.wrap_u8]; omega
      have hw1 : IntKind.u8.wrap ((z : Int) - (k : Int)) = (p : Int) := by rw [IntKind.wrap_u8]; omega
      have hq19 := hst.2.1
      have HZ : Aside ((q : Int) % 10 = (((UInt8.ofNat (q % 10)).toNat : Nat) : Int)) := ⟨by rw [UInt8.toNat_ofNat']; omega⟩
      obtain ⟨t, ht⟩ : ∃ t, q / 10 = t := ⟨_, rfl⟩
      have hwq : IntKind.u8.wrap ((q : Int) / 10) = (t : Int) := by rw [IntKind.wrap_u8]; omega
      obtain ⟨v, hv⟩ : ∃ v, 1 - t = v := ⟨_, rfl⟩
      have hwr : IntKind.u8.wrap (1 - (t : Int)) = (v : Int) := by rw [IntKind.wrap_u8]; omega
      have hv1 : v ≤ 1 := by omega
      have HS := Aside.mk hst.2.2
      rw [ht, hv] at HS
      have hle := hst.1
      obtain ⟨ab, ao, rfl, hca, _⟩ := (HA.out.fr FW.out (fun _ _ _ q => q)).pos (by omega)
      have cx := dgt_cell hca (i := i) (by omega)
      rw [hx] at cx
      have g1 : (i : Int) < (n : Int) := by omega
      have hm1 : i + 1 ≤ 40002 := by omega
      clear hst hca h1 hv
      by_cases h2 : i < n'
      · obtain ⟨bb, bo, rfl, hcb, _⟩ := (HB.out.fr FW.out (fun _ _ _ q => q)).pos (by omega)
        have cy := dgt_cell hcb (i := i) (by omega)
        rw [hy] at cy
        have g2 : (i : Int) < (n' : Int) := by omega
        have hw2 : IntKind.u8.wrap ((p : Int) - (y : Int)) = (q : Int) := by rw [IntKind.wrap_u8]; omega
        clear hcb hp hq hx9 hy9 h2 hz ht hle
        go_upto_region 10 with (at_builtin; go_must (refine wpList_appendB _ rfl (.tmp 32) (.tmp 35) 38 rfl ((hB.out.alloc _).size HG.out) (hB.out.alloc _).bf rfl rfl (Src.oneZ wr _ HZ.out 5) rfl (by omega) ?_; intro a3 c3 w3 k1 k2 k3; have B2 := Aside.mk ((hB.out.alloc _).append k1 k2 k3); clear k1 k2 k3))
        go_wp2_with fail
        go_roundw
        case rel => exact ⟨i + 1, v, c3, a3, _, by go_num, rfl, hv1, by omega, rfl, HS, B2⟩
        case measure => simp [intOf]; omega
      · have e2 : y = 0 := by rw [← hy]; exact dgt_out (by omega)
        have g2 : ¬ (i : Int) < (n' : Int) := by omega
        obtain rfl : p = q := by omega
        clear hp hx9 hy9 h2 hz ht hle e2 hq
        go_upto_region 10 with (at_builtin; go_must (refine wpList_appendB _ rfl (.tmp 32) (.tmp 35) 38 rfl ((hB.out.alloc _).size HG.out) (hB.out.alloc _).bf rfl rfl (Src.oneZ wr _ HZ.out 5) rfl (by omega) ?_; intro a3 c3 w3 k1 k2 k3; have B2 := Aside.mk ((hB.out.alloc _).append k1 k2 k3); clear k1 k2 k3))
        go_wp2_with fail
        go_roundw
        case rel => exact ⟨i + 1, v, c3, a3, _, by go_num, rfl, hv1, by omega, rfl, HS, B2⟩
        case measure => simp [intOf]; omega
theorem less_any {w : World} {a a' : Option Addr} {n c n' c' : Nat} {la lb : List UInt8} (hG : NG ≤ w.heap.size) (h : Bf w a n c la) (h' : Bf w a' n' c' lb) (da : D10 la) (db : D10 lb) (hn : n ≤ 20000) (hn' : n' ≤ 20000) (hle : val lb ≤ val la) :
    Calls Tryz.prog 72 #[.slice a n c, .slice a' n' c'] w fun e1 w' => ∃ a2 m c2, e1 = .returned (.slice a2 m c2) ∧ m ≤ n ∧ Bf w' a2 m c2 (dlow (val la - val lb)) ∧ Fr (fun _ _ => False) w w' := by
  refine (less_out hG h h' da db hn hn' hle).mono ?_
  rintro e1 w' ⟨a2, m, c2, rfl, k1, k2, k3, _⟩
  exact ⟨a2, m, c2, rfl, k1, k2, k3⟩
end Go.Proofs.YtgilnnipephfjaaGreatDoor
namespace Go.Proofs.YtgilnnipephfjaaGreatDoor
open Go.RowKit

theorem val_set {l : List UInt8} {k : Nat} (c : UInt8) (h : k < l.length) : val (l.set k c) + 10 ^ k * (l[k]).toNat = val l + 10 ^ k * c.toNat := by
  induction l generalizing k with
  | nil => simp at h
  | cons x r ih =>
    cases k with
    | zero => simp [val_cons]; omega
    | succ k =>
      have := ih (k := k) (by simpa using h)
      simp only [List.set_cons_succ, List.getElem_cons_succ, val_cons, Nat.pow_succ]
      have e1 : 10 ^ k * 10 * (r[k]'(by simpa using h)).toNat = 10 * (10 ^ k * (r[k]'(by simpa using h)).toNat) := by ac_rfl
      have e2 : 10 ^ k * 10 * c.toNat = 10 * (10 ^ k * c.toNat) := by ac_rfl
      rw [e1, e2]
      omega
/-- A division under way: the places from k on are done. -/
structure Qd (X Y n k : Nat) (ql : List UInt8) (R : Nat) : Prop where
  len : ql.length = n
  d10 : D10 ql
  low : ∀ j (h : j < ql.length), j < k → ql[j] = 0
  vl : val ql = X / 10 ^ k / Y * 10 ^ k
  rem : R = X / 10 ^ k % Y
/-- At place k: t times the divisor is taken away. -/
structure Qi (X Y n k : Nat) (ql : List UInt8) (R t : Nat) : Prop where
  len : ql.length = n
  d10 : D10 ql
  low : ∀ j (h : j < ql.length), j < k → ql[j] = 0
  cur : ∃ h : k < ql.length, (ql[k]).toNat = t
  vl : val ql = X / 10 ^ (k + 1) / Y * 10 ^ (k + 1) + t * 10 ^ k
  rem : R + t * Y = 10 * (X / 10 ^ (k + 1) % Y) + dg X k
theorem val_reps (n : Nat) : val (List.replicate n 0) = 0 := by
  induction n with
  | zero => rfl
  | succ n ih => rw [List.replicate_succ, val_cons, ih]; rfl
theorem Qd.start {X Y n : Nat} (h : X < 10 ^ n) : Qd X Y n n (List.replicate n 0) 0 := by
  refine ⟨by simp, fun x hx => by rw [List.eq_of_mem_replicate hx]; decide, fun j hj _ => by simp, ?_, ?_⟩
  · rw [val_reps, Nat.div_eq_of_lt h, Nat.zero_div, Nat.zero_mul]
  · rw [Nat.div_eq_of_lt h, Nat.zero_mod]
theorem Qd.open {X Y n k R : Nat} {ql : List UInt8} (h : Qd X Y n (k + 1) ql R) (hk : k < n) : Qi X Y n k ql (10 * R + dg X k) 0 := by
  have hl : k < ql.length := by rw [h.len]; exact hk
  refine ⟨h.len, h.d10, fun j hj hjk => h.low j hj (by omega), ⟨hl, by rw [h.low k hl (by omega)]; rfl⟩, ?_, ?_⟩
  · rw [h.vl, Nat.zero_mul]; rfl
  · rw [Nat.zero_mul, ← h.rem]; rfl
theorem Qi.bound {X Y n k R t : Nat} {ql : List UInt8} (h : Qi X Y n k ql R t) (hY : 0 < Y) (hR : Y ≤ R) : t < 9 := by
  have hr := h.rem
  have h1 : X / 10 ^ (k + 1) % Y < Y := Nat.mod_lt _ hY
  have h2 := dg_lt X k
  apply Nat.lt_of_not_le
  intro h9
  have h3 : 9 * Y ≤ t * Y := Nat.mul_le_mul_right _ h9
  omega
theorem Qi.step {X Y n k R t : Nat} {ql : List UInt8} (h : Qi X Y n k ql R t) (hY : 0 < Y) (hR : Y ≤ R) : Qi X Y n k (ql.set k (UInt8.ofNat (t + 1))) (R - Y) (t + 1) := by
  obtain ⟨hk, hc⟩ := h.cur
  have ht := h.bound hY hR
  have e : (UInt8.ofNat (t + 1)).toNat = t + 1 := by rw [UInt8.toNat_ofNat']; omega
  refine ⟨by rw [List.length_set]; exact h.len, fun x hx => ?_, fun j hj hjk => ?_, ⟨by rw [List.length_set]; exact hk, by rw [List.getElem_set, if_pos rfl, e]⟩, ?_, ?_⟩
  · rcases List.mem_or_eq_of_mem_set hx with q | q
    · exact h.d10 x q
    · rw [q, e]; omega
  · rw [List.length_set] at hj
    rw [List.getElem_set, if_neg (by omega)]
    exact h.low j hj hjk
  · have := val_set (UInt8.ofNat (t + 1)) hk
    rw [hc, e, h.vl] at this
    rw [Nat.mul_comm (10 ^ k) t, Nat.mul_comm (10 ^ k) (t + 1)] at this
    omega
  · have hr := h.rem
    rw [Nat.add_mul, Nat.one_mul]
    omega
theorem Qi.close {X Y n k R t : Nat} {ql : List UInt8} (h : Qi X Y n k ql R t) (hR : R < Y) : Qd X Y n k ql R := by
  have hY : 0 < Y := by omega
  have hd : X / 10 ^ k = 10 * (X / 10 ^ (k + 1)) + dg X k := by
    unfold dg
    rw [Nat.pow_succ, ← Nat.div_div_eq_div_mul]
    omega
  have hr := h.rem
  have hm := Nat.div_add_mod (X / 10 ^ (k + 1)) Y
  have key : X / 10 ^ k = Y * (10 * (X / 10 ^ (k + 1) / Y) + t) + R := by
    rw [hd, Nat.mul_add, Nat.mul_comm Y t]
    have e : Y * (10 * (X / 10 ^ (k + 1) / Y)) = 10 * (Y * (X / 10 ^ (k + 1) / Y)) := by ac_rfl
    rw [e]
    omega
  have q1 : X / 10 ^ k / Y = 10 * (X / 10 ^ (k + 1) / Y) + t := by
    rw [key, Nat.mul_add_div hY, Nat.div_eq_of_lt hR, Nat.add_zero]
  have q2 : X / 10 ^ k % Y = R := by
    rw [key, Nat.mul_add_mod, Nat.mod_eq_of_lt hR]
  refine ⟨h.len, h.d10, h.low, ?_, q2.symm⟩
  rw [h.vl, q1, Nat.add_mul, Nat.pow_succ]
  congr 1
  ac_rfl
theorem Qd.done {X Y n R : Nat} {ql : List UInt8} (h : Qd X Y n 0 ql R) : val ql = X / Y ∧ R = X % Y := by
  have h1 := h.vl
  have h2 := h.rem
  rw [Nat.pow_zero, Nat.div_one] at h1 h2
  exact ⟨by rw [h1, Nat.mul_one], h2⟩
end Go.Proofs.YtgilnnipephfjaaGreatDoor
