/- The whole part and the rest; plain laws (for FnModf). The reference's Sign, Zero, Abs. The drawn regions of laws.FnModf. -/
import Derived.Test.YtfhnkcdlphfbpaaGreatDoorT40Md3
import Derived.Test.YtfhnkcdlphfbpaaGreatDoorT46SA2
import Derived.Test.YtfhnkcdlphfbpaaGreatDoorT47SA4
import Derived.Test.YtfhnkcdlphfbpaaGreatDoorS35Quo1
import Derived.Test.YtfhnkcdlphfbpaaGreatDoorM33Eql
set_option linter.unusedSimpArgs false
set_option linter.unusedVariables false
namespace Go.Proofs.YtfhnkcdlphfbpaaGreatDoor
open Go.RowKit

theorem mvE_rng {e : Int} (h0 : -2500 ≤ e) (h1 : e ≤ 2500) : 0 ≤ mvE e ∧ mvE e ≤ 2500 := by unfold mvE; split <;> omega
theorem mvF_rng {e : Int} (h0 : -2500 ≤ e) (h1 : e ≤ 2500) : -2500 ≤ mvF e ∧ mvF e ≤ 0 := by unfold mvF; split <;> omega
/-- The value in parts of 10^-2500. -/
def pv (e : Int) (X : Nat) : Nat := X * 10 ^ (2500 + e).toNat
theorem pv_sum {e : Int} (X : Nat) (h0 : -2500 ≤ e) (h1 : e ≤ 2500) : pv (mvE e) (mvX e X) + pv (mvF e) (mvY e X) = pv e X := by
  unfold pv
  by_cases h : 0 < e
  · obtain ⟨q1, q2, q3, q4⟩ := mv_up h X
    rw [q1, q2, q3, q4, Nat.zero_mul, Nat.add_zero]
  · by_cases h2 : (ndig X : Int) < -e
    · obtain ⟨q1, q2, q3, q4⟩ := mv_lo h h2
      rw [q1, q2, q3, q4, Nat.zero_mul, Nat.zero_add]
    · obtain ⟨q1, q2, q3, q4⟩ := mv_mid h h2
      rw [q1, q2, q3, q4]
      obtain ⟨m, hm⟩ : ∃ m, (-e).toNat = m := ⟨_, rfl⟩
      obtain ⟨k, hk⟩ : ∃ k, (2500 + e).toNat = k := ⟨_, rfl⟩
      rw [hm, hk]
      have e1 : (2500 + (0 : Int)).toNat = m + k := by omega
      rw [e1, Nat.pow_add, ← Nat.mul_assoc, ← Nat.add_mul]
      congr 1
      rw [Nat.mul_comm]
      exact Nat.div_add_mod X (10 ^ m)
theorem pv_rest (e : Int) (X : Nat) (h0 : -2500 ≤ e) (h1 : e ≤ 2500) {N : Nat} (hN : N = 2500) : pv (mvE e) (mvX e X) % 10 ^ N = 0 := by
  unfold pv
  have hr := mvE_rng h0 h1
  obtain ⟨k, hk⟩ : ∃ k, (2500 + mvE e).toNat = N + k := ⟨(mvE e).toNat, by omega⟩
  rw [hk, Nat.pow_add, Nat.mul_comm, Nat.mul_assoc, Nat.mul_mod_right]
theorem pv_small (e : Int) (X : Nat) (h0 : -2500 ≤ e) (h1 : e ≤ 2500) {N : Nat} (hN : N = 2500) : pv (mvF e) (mvY e X) < 10 ^ N := by
  unfold pv
  by_cases h : 0 < e
  · obtain ⟨q1, q2, q3, q4⟩ := mv_up h X
    rw [q4, Nat.zero_mul]
    exact Nat.pow_pos (by omega)
  · obtain ⟨m, hm⟩ : ∃ m, (-e).toNat = m := ⟨_, rfl⟩
    obtain ⟨k, hk⟩ : ∃ k, (2500 + e).toNat = k := ⟨_, rfl⟩
    have e1 : N = m + k := by omega
    have key : ∀ Y, Y < 10 ^ m → Y * 10 ^ k < 10 ^ N := fun Y hY => by
      rw [e1, Nat.pow_add]
      exact Nat.mul_lt_mul_of_pos_right hY (Nat.pow_pos (by omega))
    by_cases h2 : (ndig X : Int) < -e
    · obtain ⟨q1, q2, q3, q4⟩ := mv_lo h h2
      rw [q2, q4, hk]
      exact key X (Nat.lt_of_lt_of_le (lt_ndig X) (Nat.pow_le_pow_right (by omega) (by omega)))
    · obtain ⟨q1, q2, q3, q4⟩ := mv_mid h h2
      rw [q2, q4, hk, hm]
      exact key _ (Nat.mod_lt _ (Nat.pow_pos (by omega)))
theorem addS_same (n : Bool) (X Y : Nat) : addS (sg1 n X) X (sg1 n Y) Y = (sg1 n (X + Y), X + Y) := by
  unfold addS sg1
  cases n
  · simp
  · by_cases hx : X = 0
    · subst hx
      by_cases hy : Y = 0
      · subst hy; simp
      · simp [hy]
    · by_cases hy : Y = 0
      · subst hy; simp [hx]
      · simp [hx, hy]
/-- The sign of a number of the reference's. -/
def nsg (s : Bool) (X : Nat) : Int := if X = 0 then 0 else if s then -1 else 1
theorem nsg_sg1 (n : Bool) (X : Nat) : nsg (sg1 n X) X = if X = 0 then 0 else if n then -1 else 1 := by
  unfold nsg sg1
  by_cases hx : X = 0
  · simp [hx]
  · cases n <;> simp [hx]
theorem len_zero {w : World} {a : Option Addr} {n c X : Nat} (h : Bf w a n c (dlow X)) : ((n : Int) == 0) = decide (X = 0) := by
  have hl := h.len
  by_cases hx : X = 0
  · have := dlow_nil.2 hx
    obtain rfl : n = 0 := by omega
    simp [hx]
  · have : (dlow X).length ≠ 0 := fun q => hx (dlow_nil.1 q)
    simp [hx]; omega
set_option maxRecDepth 100000 in
theorem zero_any {w : World} {a : Option Addr} {n c X : Nat} (s : Bool) (h : Bf w a n c (dlow X)) :
    Calls Tryz.prog 16 #[.agg #[.bool s, .slice a n c]] w fun e1 w' => e1 = .returned (.bool (decide (X = 0))) ∧ Fr (fun _ _ => False) w w' := by
  have hq := len_zero h
  obtain ⟨b, hb⟩ : ∃ b, decide (X = 0) = b := ⟨_, rfl⟩
  rw [hb] at hq ⊢
  have F := Aside.mk ((Fr.refl (fun _ _ => False) w).alloc (.cells #[.bool s, .slice a n c] 30))
  clear h hb
  go_enter Tryz.func16, Tryz.ntmps16
  go_wp2_with fail
  go_ret
  exact ⟨rfl, F.out⟩
set_option maxRecDepth 100000 in
theorem nsign_any {w : World} {a : Option Addr} {n c X : Nat} (s : Bool) (h : Bf w a n c (dlow X)) :
    Calls Tryz.prog 13 #[.agg #[.bool s, .slice a n c]] w fun e1 w' => e1 = .returned (.int .i64 (nsg s X)) ∧ Fr (fun _ _ => False) w w' := by
  have HZ := Lib.hid (fun w1 (f : Fr (fun _ _ => False) w w1) => zero_any s (h.fr f (fun _ _ _ q => q)))
  have F := Aside.mk ((Fr.refl (fun _ _ => False) w).alloc (.cells #[.bool s, .slice a n c] 30))
  by_cases hx : X = 0
  · have hd : decide (X = 0) = true := by simpa using hx
    have hs : nsg s X = 0 := by unfold nsg; rw [if_pos hx]
    rw [hs]
    rw [hd] at HZ
    clear h hx hd hs
    go_enter Tryz.func13, Tryz.ntmps13
    go_wp2_with fail
    refine (HZ.out _ F.out).mono ?_
    rintro e1 w2 ⟨rfl, k⟩
    have K := Aside.mk (F.out.trans k)
    clear k HZ
    go_wp2_with fail
    go_ret
    exact ⟨rfl, K.out⟩
  · have hd : decide (X = 0) = false := by simpa using hx
    rw [hd] at HZ
    have hs : nsg s X = if s then -1 else 1 := by unfold nsg; rw [if_neg hx]
    rw [hs]
    clear h hx hd hs
    cases s <;>
    · go_enter Tryz.func13, Tryz.ntmps13
      go_wp2_with fail
      refine (HZ.out _ F.out).mono ?_
      rintro e1 w2 ⟨rfl, k⟩
      have c0 := (k.cell w.heap.size 0 (by simp) (fun q => q)).trans (World.cell?_alloc_new _ _ _ _)
      have K := Aside.mk (F.out.trans k)
      clear k HZ
      go_wp2_with fail
      go_ret
      exact ⟨rfl, K.out⟩
end Go.Proofs.YtfhnkcdlphfbpaaGreatDoor
namespace Go.Proofs.YtfhnkcdlphfbpaaGreatDoor
open Go.RowKit

noncomputable def mdc (n : Nat) : Code := ((Tryz.f3.body.bind (rgOf n)).getD .skip)
/-- A number of the reference's in a box of its own. -/
def NumIn (W : World) (p : Nat) (s : Bool) (V : Nat) : Prop := ∃ a m c, W.cell? ⟨p, 0, none⟩ = some (.bool s) ∧ W.cell? ⟨p, 1, none⟩ = some (.slice a m c) ∧ m ≤ 30000 ∧ Bf W a m c (dlow V)
theorem NumIn.fr {w w' : World} {p : Nat} {s : Bool} {V : Nat} (h : NumIn w p s V) (f : Fr (fun _ _ => False) w w') : NumIn w' p s V := by
  obtain ⟨a, m, c, h0, h1, h2, h3⟩ := h
  have hl := World.block_lt_of_cell? w _ h0
  exact ⟨a, m, c, (f.cell p 0 hl (fun q => q)).trans h0, (f.cell p 1 hl (fun q => q)).trans h1, h2, h3.fr f (fun _ _ _ q => q)⟩
set_option maxRecDepth 100000 in
set_option maxHeartbeats 8000000 in
theorem mr8 {c : Code} (hc : c = mdc 8) {pa pb VA VB : Nat} {n ya yb : Bool} {eA eB : Int} {sA sB : ByteArray} {w : World}
    (HA : Aside (D4 w pa 0 n eA sA)) (HB : Aside (D4 w pb 0 n eB sB))
    (HV : Hid (∀ w1, Fr (fun _ _ => False) w w1 → Calls Tryz.prog 12 #[.agg #[.int .i64 0, .bool n, .int .i32 eA, .string sA]] w1 fun e1 w2 => ∃ a m c, e1 = .returned (.agg #[.bool ya, .slice a m c]) ∧ m ≤ 30000 ∧ Bf w2 a m c (dlow VA) ∧ Fr (fun _ _ => False) w1 w2))
    (HU : Hid (∀ w1, Fr (fun _ _ => False) w w1 → Calls Tryz.prog 12 #[.agg #[.int .i64 0, .bool n, .int .i32 eB, .string sB]] w1 fun e1 w2 => ∃ a m c, e1 = .returned (.agg #[.bool yb, .slice a m c]) ∧ m ≤ 30000 ∧ Bf w2 a m c (dlow VB) ∧ Fr (fun _ _ => False) w1 w2))
    (u0 u1 u2 u5 u6 u7 u8 u9 u10 u11 u12 u13 u14 u15 u16 u17 u18 u19 u20 u21 u22 u23 u24 u25 u26 u27 u28 u29 u30 u31 u32 u33 u34 u35 u36 u37 u38 u39 u40 u41 u42 u43 u44 u45 u46 u47 u48 u49 u50 u51 u52 u53 u54 u55 u56 u57 u58 u59 u60 u61 u62 u63 u64 u65 u66 u67 u68 u69 u70 u71 u72 u73 u74 u75 u76 u77 u78 u79 u80 u81 u82 u83 u84 u85 u86 u87 u88 u89 u90 u91 u92 u93 u94 u95 u96 u97 u98 u99 u100 u101 u102 u103 u104 u105 u106 u107 u108 u109 u110 u111 u112 u113 u114 u115 u116 u117 u118 u119 u120 u121 u122 u123 u124 u125 : Value) (N : Act → World → Prop)
    (HN : Aside (∀ (p7 p8 : Nat) (v68 v69 v70 v71 : Value) (W : World), NumIn W p7 ya VA → NumIn W p8 yb VB → Fr (fun _ _ => False) w W → N ⟨#[u0, u1, u2, .pointer (some ⟨pa, 0, none⟩), .pointer (some ⟨pb, 0, none⟩), u5, u6, .pointer (some ⟨p7, 0, none⟩), .pointer (some ⟨p8, 0, none⟩), u9, u10, u11, u12, u13, u14, u15, u16, u17, u18, u19, u20, u21, u22, u23, u24, u25, u26, u27, u28, u29, u30, u31, u32, u33, u34, u35, u36, u37, u38, u39, u40, u41, u42, u43, u44, u45, u46, u47, u48, u49, u50, u51, u52, u53, u54, u55, u56, u57, u58, u59, u60, u61, u62, u63, u64, u65, u66, u67, v68, v69, v70, v71, u72, u73, u74, u75, u76, u77, u78, u79, u80, u81, u82, u83, u84, u85, u86, u87, u88, u89, u90, u91, u92, u93, u94, u95, u96, u97, u98, u99, u100, u101, u102, u103, u104, u105, u106, u107, u108, u109, u110, u111, u112, u113, u114, u115, u116, u117, u118, u119, u120, u121, u122, u123, u124, u125], []⟩ W)) :
    Code.wp Tryz.prog c (QN N) ⟨#[u0, u1, u2, .pointer (some ⟨pa, 0, none⟩), .pointer (some ⟨pb, 0, none⟩), u5, u6, u7, u8, u9, u10, u11, u12, u13, u14, u15, u16, u17, u18, u19, u20, u21, u22, u23, u24, u25, u26, u27, u28, u29, u30, u31, u32, u33, u34, u35, u36, u37, u38, u39, u40, u41, u42, u43, u44, u45, u46, u47, u48, u49, u50, u51, u52, u53, u54, u55, u56, u57, u58, u59, u60, u61, u62, u63, u64, u65, u66, u67, u68, u69, u70, u71, u72, u73, u74, u75, u76, u77, u78, u79, u80, u81, u82, u83, u84, u85, u86, u87, u88, u89, u90, u91, u92, u93, u94, u95, u96, u97, u98, u99, u100, u101, u102, u103, u104, u105, u106, u107, u108, u109, u110, u111, u112, u113, u114, u115, u116, u117, u118, u119, u120, u121, u122, u123, u124, u125], []⟩ w := by
  subst hc
  conv => arg 2; whnf
  refine wp_region_held (S := (fun w9 => Fr (fun _ _ => False) w w9)) (by kernel_rfl) ?_
  change wpAnyH _ _ _ _ _ _ _ _ (World.drew _)
  have hfd : Fr (fun _ _ => False) w w.drew := (Fr.refl _ w).drew
  generalize w.drew = wd at hfd ⊢
  refine wpAnyH_take (i := 0) (v := ?_) rfl (by kernel_rfl) (by kernel_rfl) (by kernel_rfl) (fun _ _ _ h => h) (Or.inl ⟨by kernel_rfl, ?_⟩) hfd ?_
  rotate_left 1
  · intro w9 hF9
    obtain ⟨d0, d1, d2, d3, _⟩ := E8.of (HA.out.fr hF9 (fun _ q => q))
    go_simp
    try with_reducible rfl
  try simp only [Act.put, List.setIfInBounds_toArray, List.set_cons_zero, List.set_cons_succ]
  refine wpAnyH_take (i := 2) (v := ?_) rfl (by kernel_rfl) (by kernel_rfl) (by kernel_rfl) (fun _ _ _ h => h) (Or.inl ⟨by kernel_rfl, ?_⟩) hfd ?_
  rotate_left 1
  · intro w9 hF9
    obtain ⟨d0, d1, d2, d3, _⟩ := E8.of (HB.out.fr hF9 (fun _ q => q))
    go_simp
    try with_reducible rfl
  try simp only [Act.put, List.setIfInBounds_toArray, List.set_cons_zero, List.set_cons_succ]
  refine wpAnyH_ready (rs := [1, 4, 5]) (by kernel_rfl) (by simp) ?_
  refine AllReadyH.cons rfl (fun K hK => ?_) (AllReadyH.cons rfl (fun K hK => ?_) (AllReadyH.cons rfl (fun K hK => ?_) AllReadyH.nil))
  · go_simp
    go_must (refine (HV.out _ hfd).mono ?_; rintro e1 w1 ⟨aA, mA, cA, rfl, hmA, hbA, k2⟩)
    have f3 := hfd.trans k2
    refine Shut.out hK _ _ f3 (fun _ => ?_)
    clear hK K
    try simp only [Act.put, List.setIfInBounds_toArray, List.set_cons_zero, List.set_cons_succ]
    refine wpAnyH_ready (rs := [3, 4, 5]) (by kernel_rfl) (by simp) ?_
    refine AllReadyH.cons rfl (fun K hK => ?_) (AllReadyH.cons rfl (fun K hK => ?_) (AllReadyH.cons rfl (fun K hK => ?_) AllReadyH.nil))
    · go_simp
      go_must (refine (HU.out _ f3).mono ?_; rintro e1 w4 ⟨aB, mB, cB, rfl, hmB, hbB, k5⟩)
      have f6 := f3.trans k5
      have f7 := (Fr.refl (fun _ _ => False) w1).trans k5
      refine Shut.out hK _ _ f6 (fun _ => ?_)
      clear hK K
      try simp only [Act.put, List.setIfInBounds_toArray, List.set_cons_zero, List.set_cons_succ]
      refine wpAnyH_ready (rs := [4, 5]) (by kernel_rfl) (by simp) ?_
      refine AllReadyH.cons rfl (fun K hK => ?_) (AllReadyH.cons rfl (fun K hK => ?_) AllReadyH.nil)
      · have g11 := f6.size
        obtain ⟨w8, h9⟩ : ∃ x, w4.alloc (.cells #[.bool false, .slice none 0 0] 30) = x := ⟨_, rfl⟩
        have k10 : Fr (fun _ _ => False) w4 w8 := by rw [← h9]; exact (Fr.refl _ w4).alloc _
        go_simp
        try rw [h9]
        have f12 := f6.trans k10
        have f13 := f7.trans k10
        have f14 := (Fr.refl (fun _ _ => False) w4).trans k10
        refine Shut.out hK _ _ f12 (fun _ => ?_)
        clear hK K
        try simp only [Act.put, List.setIfInBounds_toArray, List.set_cons_zero, List.set_cons_succ]
        refine wpAnyH_ready (rs := [5]) (by kernel_rfl) (by simp) ?_
        refine AllReadyH.cons rfl (fun K hK => ?_) AllReadyH.nil
        have g18 := f12.size
        have n19 : w4.heap.size < w8.heap.size := by have e1 := (Fr.refl (fun _ _ => False) w8).size; have e2 : w8.heap.size = w4.heap.size + 1 := (by rw [← h9]; simp); omega
        obtain ⟨w15, h16⟩ : ∃ x, w8.alloc (.cells #[.bool false, .slice none 0 0] 30) = x := ⟨_, rfl⟩
        have k17 : Fr (fun _ _ => False) w8 w15 := by rw [← h16]; exact (Fr.refl _ w8).alloc _
        go_simp
        try rw [h16]
        have f20 := f12.trans k17
        have f21 := f13.trans k17
        have f22 := f14.trans k17
        have f23 := (Fr.refl (fun _ _ => False) w8).trans k17
        refine Shut.out hK _ _ f20 (fun _ => ?_)
        clear hK K
        try simp only [Act.put, List.setIfInBounds_toArray, List.set_cons_zero, List.set_cons_succ]
        obtain ⟨z0, z1, z2, z3, _⟩ := res2' h9.symm f23 (fun o q => q)
        obtain ⟨y0, y1, y2, y3, _⟩ := res2' h16.symm (Fr.refl (fun _ _ => False) w15) (fun o q => q)
        have hne : ¬ w4.heap.size = w8.heap.size := by omega
        have hne2 : ¬ w8.heap.size = w4.heap.size := by omega
        obtain ⟨t0, t1, t2, t3, t4⟩ := two_nums hne z0 z1 y0 y1 (.bool ya) (.slice aA mA cA) (.bool yb) (.slice aB mB cB)
        have S1 := (f20.setCell w4.heap.size 0 (.bool ya) (fun q => by omega)).setCell w4.heap.size 1 (.slice aA mA cA) (fun q => by omega)
        have S2 := (S1.setCell w8.heap.size 0 (.bool yb) (fun q => by omega)).setCell w8.heap.size 1 (.slice aB mB cB) (fun q => by omega)
        refine wpAnyH_ready (rs := [6]) (by kernel_rfl) (by simp) ?_
        refine AllReadyH.cons rfl (fun K hK => ?_) AllReadyH.nil
        go_simp
        refine Shut.out hK _ _ S1 (fun _ => ?_)
        clear hK K
        try simp only [Act.put, List.setIfInBounds_toArray, List.set_cons_zero, List.set_cons_succ]
        refine wpAnyH_ready (rs := [7]) (by kernel_rfl) (by simp) ?_
        refine AllReadyH.cons rfl (fun K hK => ?_) AllReadyH.nil
        go_simp
        refine Shut.out hK _ _ S2 (fun _ => ?_)
        clear hK K
        try simp only [Act.put, List.setIfInBounds_toArray, List.set_cons_zero, List.set_cons_succ]
        refine wpAnyH_done (by kernel_rfl) ?_ _
        exact HN.out _ _ _ _ _ _ _ ⟨aA, mA, cA, t0, t1, hmA, t4 (hbA.fr f21 (fun _ _ _ q => q))⟩ ⟨aB, mB, cB, t2, t3, hmB, t4 (hbB.fr f22 (fun _ _ _ q => q))⟩ S2
      · have g27 := f6.size
        obtain ⟨w24, h25⟩ : ∃ x, w4.alloc (.cells #[.bool false, .slice none 0 0] 30) = x := ⟨_, rfl⟩
        have k26 : Fr (fun _ _ => False) w4 w24 := by rw [← h25]; exact (Fr.refl _ w4).alloc _
        go_simp
        try rw [h25]
        have f28 := f6.trans k26
        have f29 := f7.trans k26
        have f30 := (Fr.refl (fun _ _ => False) w4).trans k26
        refine Shut.out hK _ _ f28 (fun _ => ?_)
        clear hK K
        try simp only [Act.put, List.setIfInBounds_toArray, List.set_cons_zero, List.set_cons_succ]
        refine wpAnyH_ready (rs := [4]) (by kernel_rfl) (by simp) ?_
        refine AllReadyH.cons rfl (fun K hK => ?_) AllReadyH.nil
        have g34 := f28.size
        have n35 : w4.heap.size < w24.heap.size := by have e1 := (Fr.refl (fun _ _ => False) w24).size; have e2 : w24.heap.size = w4.heap.size + 1 := (by rw [← h25]; simp); omega
        obtain ⟨w31, h32⟩ : ∃ x, w24.alloc (.cells #[.bool false, .slice none 0 0] 30) = x := ⟨_, rfl⟩
        have k33 : Fr (fun _ _ => False) w24 w31 := by rw [← h32]; exact (Fr.refl _ w24).alloc _
        go_simp
        try rw [h32]
        have f36 := f28.trans k33
        have f37 := f29.trans k33
        have f38 := f30.trans k33
        have f39 := (Fr.refl (fun _ _ => False) w24).trans k33
        refine Shut.out hK _ _ f36 (fun _ => ?_)
        clear hK K
        try simp only [Act.put, List.setIfInBounds_toArray, List.set_cons_zero, List.set_cons_succ]
        obtain ⟨z0, z1, z2, z3, _⟩ := res2' h32.symm (Fr.refl (fun _ _ => False) w31) (fun o q => q)
        obtain ⟨y0, y1, y2, y3, _⟩ := res2' h25.symm f39 (fun o q => q)
        have hne : ¬ w24.heap.size = w4.heap.size := by omega
        have hne2 : ¬ w4.heap.size = w24.heap.size := by omega
        obtain ⟨t0, t1, t2, t3, t4⟩ := two_nums hne z0 z1 y0 y1 (.bool ya) (.slice aA mA cA) (.bool yb) (.slice aB mB cB)
        have S1 := (f36.setCell w24.heap.size 0 (.bool ya) (fun q => by omega)).setCell w24.heap.size 1 (.slice aA mA cA) (fun q => by omega)
        have S2 := (S1.setCell w4.heap.size 0 (.bool yb) (fun q => by omega)).setCell w4.heap.size 1 (.slice aB mB cB) (fun q => by omega)
        refine wpAnyH_ready (rs := [6]) (by kernel_rfl) (by simp) ?_
        refine AllReadyH.cons rfl (fun K hK => ?_) AllReadyH.nil
        go_simp
        refine Shut.out hK _ _ S1 (fun _ => ?_)
        clear hK K
        try simp only [Act.put, List.setIfInBounds_toArray, List.set_cons_zero, List.set_cons_succ]
        refine wpAnyH_ready (rs := [7]) (by kernel_rfl) (by simp) ?_
        refine AllReadyH.cons rfl (fun K hK => ?_) AllReadyH.nil
        go_simp
        refine Shut.out hK _ _ S2 (fun _ => ?_)
        clear hK K
        try simp only [Act.put, List.setIfInBounds_toArray, List.set_cons_zero, List.set_cons_succ]
        refine wpAnyH_done (by kernel_rfl) ?_ _
        exact HN.out _ _ _ _ _ _ _ ⟨aA, mA, cA, t0, t1, hmA, t4 (hbA.fr f37 (fun _ _ _ q => q))⟩ ⟨aB, mB, cB, t2, t3, hmB, t4 (hbB.fr f38 (fun _ _ _ q => q))⟩ S2
    · have g43 := f3.size
      obtain ⟨w40, h41⟩ : ∃ x, w1.alloc (.cells #[.bool false, .slice none 0 0] 30) = x := ⟨_, rfl⟩
      have k42 : Fr (fun _ _ => False) w1 w40 := by rw [← h41]; exact (Fr.refl _ w1).alloc _
      go_simp
      try rw [h41]
      have f44 := f3.trans k42
      have f45 := (Fr.refl (fun _ _ => False) w1).trans k42
      refine Shut.out hK _ _ f44 (fun _ => ?_)
      clear hK K
      try simp only [Act.put, List.setIfInBounds_toArray, List.set_cons_zero, List.set_cons_succ]
      refine wpAnyH_ready (rs := [3, 5]) (by kernel_rfl) (by simp) ?_
      refine AllReadyH.cons rfl (fun K hK => ?_) (AllReadyH.cons rfl (fun K hK => ?_) AllReadyH.nil)
      · go_simp
        go_must (refine (HU.out _ f44).mono ?_; rintro e1 w46 ⟨aB, mB, cB, rfl, hmB, hbB, k47⟩)
        have f48 := f44.trans k47
        have f49 := f45.trans k47
        have f50 := (Fr.refl (fun _ _ => False) w40).trans k47
        refine Shut.out hK _ _ f48 (fun _ => ?_)
        clear hK K
        try simp only [Act.put, List.setIfInBounds_toArray, List.set_cons_zero, List.set_cons_succ]
        refine wpAnyH_ready (rs := [5]) (by kernel_rfl) (by simp) ?_
        refine AllReadyH.cons rfl (fun K hK => ?_) AllReadyH.nil
        have g54 := f48.size
        have n55 : w1.heap.size < w46.heap.size := by have e1 := f50.size; have e2 : w40.heap.size = w1.heap.size + 1 := (by rw [← h41]; simp); omega
        obtain ⟨w51, h52⟩ : ∃ x, w46.alloc (.cells #[.bool false, .slice none 0 0] 30) = x := ⟨_, rfl⟩
        have k53 : Fr (fun _ _ => False) w46 w51 := by rw [← h52]; exact (Fr.refl _ w46).alloc _
        go_simp
        try rw [h52]
        have f56 := f48.trans k53
        have f57 := f49.trans k53
        have f58 := f50.trans k53
        have f59 := (Fr.refl (fun _ _ => False) w46).trans k53
        refine Shut.out hK _ _ f56 (fun _ => ?_)
        clear hK K
        try simp only [Act.put, List.setIfInBounds_toArray, List.set_cons_zero, List.set_cons_succ]
        obtain ⟨z0, z1, z2, z3, _⟩ := res2' h41.symm f58 (fun o q => q)
        obtain ⟨y0, y1, y2, y3, _⟩ := res2' h52.symm (Fr.refl (fun _ _ => False) w51) (fun o q => q)
        have hne : ¬ w1.heap.size = w46.heap.size := by omega
        have hne2 : ¬ w46.heap.size = w1.heap.size := by omega
        obtain ⟨t0, t1, t2, t3, t4⟩ := two_nums hne z0 z1 y0 y1 (.bool ya) (.slice aA mA cA) (.bool yb) (.slice aB mB cB)
        have S1 := (f56.setCell w1.heap.size 0 (.bool ya) (fun q => by omega)).setCell w1.heap.size 1 (.slice aA mA cA) (fun q => by omega)
        have S2 := (S1.setCell w46.heap.size 0 (.bool yb) (fun q => by omega)).setCell w46.heap.size 1 (.slice aB mB cB) (fun q => by omega)
        refine wpAnyH_ready (rs := [6]) (by kernel_rfl) (by simp) ?_
        refine AllReadyH.cons rfl (fun K hK => ?_) AllReadyH.nil
        go_simp
        refine Shut.out hK _ _ S1 (fun _ => ?_)
        clear hK K
        try simp only [Act.put, List.setIfInBounds_toArray, List.set_cons_zero, List.set_cons_succ]
        refine wpAnyH_ready (rs := [7]) (by kernel_rfl) (by simp) ?_
        refine AllReadyH.cons rfl (fun K hK => ?_) AllReadyH.nil
        go_simp
        refine Shut.out hK _ _ S2 (fun _ => ?_)
        clear hK K
        try simp only [Act.put, List.setIfInBounds_toArray, List.set_cons_zero, List.set_cons_succ]
        refine wpAnyH_done (by kernel_rfl) ?_ _
        exact HN.out _ _ _ _ _ _ _ ⟨aA, mA, cA, t0, t1, hmA, t4 (hbA.fr f57 (fun _ _ _ q => q))⟩ ⟨aB, mB, cB, t2, t3, hmB, t4 (hbB.fr f59 (fun _ _ _ q => q))⟩ S2
      · have g63 := f44.size
        have n64 : w1.heap.size < w40.heap.size := by have e1 := (Fr.refl (fun _ _ => False) w40).size; have e2 : w40.heap.size = w1.heap.size + 1 := (by rw [← h41]; simp); omega
        obtain ⟨w60, h61⟩ : ∃ x, w40.alloc (.cells #[.bool false, .slice none 0 0] 30) = x := ⟨_, rfl⟩
        have k62 : Fr (fun _ _ => False) w40 w60 := by rw [← h61]; exact (Fr.refl _ w40).alloc _
        go_simp
        try rw [h61]
        have f65 := f44.trans k62
        have f66 := f45.trans k62
        have f67 := (Fr.refl (fun _ _ => False) w40).trans k62
        refine Shut.out hK _ _ f65 (fun _ => ?_)
        clear hK K
        try simp only [Act.put, List.setIfInBounds_toArray, List.set_cons_zero, List.set_cons_succ]
        refine wpAnyH_ready (rs := [3]) (by kernel_rfl) (by simp) ?_
        refine AllReadyH.cons rfl (fun K hK => ?_) AllReadyH.nil
        go_simp
        go_must (refine (HU.out _ f65).mono ?_; rintro e1 w68 ⟨aB, mB, cB, rfl, hmB, hbB, k69⟩)
        have f70 := f65.trans k69
        have f71 := f66.trans k69
        have f72 := f67.trans k69
        have f73 := (Fr.refl (fun _ _ => False) w60).trans k69
        refine Shut.out hK _ _ f70 (fun _ => ?_)
        clear hK K
        try simp only [Act.put, List.setIfInBounds_toArray, List.set_cons_zero, List.set_cons_succ]
        obtain ⟨z0, z1, z2, z3, _⟩ := res2' h41.symm f72 (fun o q => q)
        obtain ⟨y0, y1, y2, y3, _⟩ := res2' h61.symm f73 (fun o q => q)
        have hne : ¬ w1.heap.size = w40.heap.size := by omega
        have hne2 : ¬ w40.heap.size = w1.heap.size := by omega
        obtain ⟨t0, t1, t2, t3, t4⟩ := two_nums hne z0 z1 y0 y1 (.bool ya) (.slice aA mA cA) (.bool yb) (.slice aB mB cB)
        have S1 := (f70.setCell w1.heap.size 0 (.bool ya) (fun q => by omega)).setCell w1.heap.size 1 (.slice aA mA cA) (fun q => by omega)
        have S2 := (S1.setCell w40.heap.size 0 (.bool yb) (fun q => by omega)).setCell w40.heap.size 1 (.slice aB mB cB) (fun q => by omega)
        refine wpAnyH_ready (rs := [6]) (by kernel_rfl) (by simp) ?_
        refine AllReadyH.cons rfl (fun K hK => ?_) AllReadyH.nil
        go_simp
        refine Shut.out hK _ _ S1 (fun _ => ?_)
        clear hK K
        try simp only [Act.put, List.setIfInBounds_toArray, List.set_cons_zero, List.set_cons_succ]
        refine wpAnyH_ready (rs := [7]) (by kernel_rfl) (by simp) ?_
        refine AllReadyH.cons rfl (fun K hK => ?_) AllReadyH.nil
        go_simp
        refine Shut.out hK _ _ S2 (fun _ => ?_)
        clear hK K
        try simp only [Act.put, List.setIfInBounds_toArray, List.set_cons_zero, List.set_cons_succ]
        refine wpAnyH_done (by kernel_rfl) ?_ _
        exact HN.out _ _ _ _ _ _ _ ⟨aA, mA, cA, t0, t1, hmA, t4 (hbA.fr f71 (fun _ _ _ q => q))⟩ ⟨aB, mB, cB, t2, t3, hmB, t4 (hbB.fr (Fr.refl (fun _ _ => False) w68) (fun _ _ _ q => q))⟩ S2
    · have g77 := f3.size
      obtain ⟨w74, h75⟩ : ∃ x, w1.alloc (.cells #[.bool false, .slice none 0 0] 30) = x := ⟨_, rfl⟩
      have k76 : Fr (fun _ _ => False) w1 w74 := by rw [← h75]; exact (Fr.refl _ w1).alloc _
      go_simp
      try rw [h75]
      have f78 := f3.trans k76
      have f79 := (Fr.refl (fun _ _ => False) w1).trans k76
      refine Shut.out hK _ _ f78 (fun _ => ?_)
      clear hK K
      try simp only [Act.put, List.setIfInBounds_toArray, List.set_cons_zero, List.set_cons_succ]
      refine wpAnyH_ready (rs := [3, 4]) (by kernel_rfl) (by simp) ?_
      refine AllReadyH.cons rfl (fun K hK => ?_) (AllReadyH.cons rfl (fun K hK => ?_) AllReadyH.nil)
      · go_simp
        go_must (refine (HU.out _ f78).mono ?_; rintro e1 w80 ⟨aB, mB, cB, rfl, hmB, hbB, k81⟩)
        have f82 := f78.trans k81
        have f83 := f79.trans k81
        have f84 := (Fr.refl (fun _ _ => False) w74).trans k81
        refine Shut.out hK _ _ f82 (fun _ => ?_)
        clear hK K
        try simp only [Act.put, List.setIfInBounds_toArray, List.set_cons_zero, List.set_cons_succ]
        refine wpAnyH_ready (rs := [4]) (by kernel_rfl) (by simp) ?_
        refine AllReadyH.cons rfl (fun K hK => ?_) AllReadyH.nil
        have g88 := f82.size
        have n89 : w1.heap.size < w80.heap.size := by have e1 := f84.size; have e2 : w74.heap.size = w1.heap.size + 1 := (by rw [← h75]; simp); omega
        obtain ⟨w85, h86⟩ : ∃ x, w80.alloc (.cells #[.bool false, .slice none 0 0] 30) = x := ⟨_, rfl⟩
        have k87 : Fr (fun _ _ => False) w80 w85 := by rw [← h86]; exact (Fr.refl _ w80).alloc _
        go_simp
        try rw [h86]
        have f90 := f82.trans k87
        have f91 := f83.trans k87
        have f92 := f84.trans k87
        have f93 := (Fr.refl (fun _ _ => False) w80).trans k87
        refine Shut.out hK _ _ f90 (fun _ => ?_)
        clear hK K
        try simp only [Act.put, List.setIfInBounds_toArray, List.set_cons_zero, List.set_cons_succ]
        obtain ⟨z0, z1, z2, z3, _⟩ := res2' h86.symm (Fr.refl (fun _ _ => False) w85) (fun o q => q)
        obtain ⟨y0, y1, y2, y3, _⟩ := res2' h75.symm f92 (fun o q => q)
        have hne : ¬ w80.heap.size = w1.heap.size := by omega
        have hne2 : ¬ w1.heap.size = w80.heap.size := by omega
        obtain ⟨t0, t1, t2, t3, t4⟩ := two_nums hne z0 z1 y0 y1 (.bool ya) (.slice aA mA cA) (.bool yb) (.slice aB mB cB)
        have S1 := (f90.setCell w80.heap.size 0 (.bool ya) (fun q => by omega)).setCell w80.heap.size 1 (.slice aA mA cA) (fun q => by omega)
        have S2 := (S1.setCell w1.heap.size 0 (.bool yb) (fun q => by omega)).setCell w1.heap.size 1 (.slice aB mB cB) (fun q => by omega)
        refine wpAnyH_ready (rs := [6]) (by kernel_rfl) (by simp) ?_
        refine AllReadyH.cons rfl (fun K hK => ?_) AllReadyH.nil
        go_simp
        refine Shut.out hK _ _ S1 (fun _ => ?_)
        clear hK K
        try simp only [Act.put, List.setIfInBounds_toArray, List.set_cons_zero, List.set_cons_succ]
        refine wpAnyH_ready (rs := [7]) (by kernel_rfl) (by simp) ?_
        refine AllReadyH.cons rfl (fun K hK => ?_) AllReadyH.nil
        go_simp
        refine Shut.out hK _ _ S2 (fun _ => ?_)
        clear hK K
        try simp only [Act.put, List.setIfInBounds_toArray, List.set_cons_zero, List.set_cons_succ]
        refine wpAnyH_done (by kernel_rfl) ?_ _
        exact HN.out _ _ _ _ _ _ _ ⟨aA, mA, cA, t0, t1, hmA, t4 (hbA.fr f91 (fun _ _ _ q => q))⟩ ⟨aB, mB, cB, t2, t3, hmB, t4 (hbB.fr f93 (fun _ _ _ q => q))⟩ S2
      · have g97 := f78.size
        have n98 : w1.heap.size < w74.heap.size := by have e1 := (Fr.refl (fun _ _ => False) w74).size; have e2 : w74.heap.size = w1.heap.size + 1 := (by rw [← h75]; simp); omega
        obtain ⟨w94, h95⟩ : ∃ x, w74.alloc (.cells #[.bool false, .slice none 0 0] 30) = x := ⟨_, rfl⟩
        have k96 : Fr (fun _ _ => False) w74 w94 := by rw [← h95]; exact (Fr.refl _ w74).alloc _
        go_simp
        try rw [h95]
        have f99 := f78.trans k96
        have f100 := f79.trans k96
        have f101 := (Fr.refl (fun _ _ => False) w74).trans k96
        refine Shut.out hK _ _ f99 (fun _ => ?_)
        clear hK K
        try simp only [Act.put, List.setIfInBounds_toArray, List.set_cons_zero, List.set_cons_succ]
        refine wpAnyH_ready (rs := [3]) (by kernel_rfl) (by simp) ?_
        refine AllReadyH.cons rfl (fun K hK => ?_) AllReadyH.nil
        go_simp
        go_must (refine (HU.out _ f99).mono ?_; rintro e1 w102 ⟨aB, mB, cB, rfl, hmB, hbB, k103⟩)
        have f104 := f99.trans k103
        have f105 := f100.trans k103
        have f106 := f101.trans k103
        have f107 := (Fr.refl (fun _ _ => False) w94).trans k103
        refine Shut.out hK _ _ f104 (fun _ => ?_)
        clear hK K
        try simp only [Act.put, List.setIfInBounds_toArray, List.set_cons_zero, List.set_cons_succ]
        obtain ⟨z0, z1, z2, z3, _⟩ := res2' h95.symm f107 (fun o q => q)
        obtain ⟨y0, y1, y2, y3, _⟩ := res2' h75.symm f106 (fun o q => q)
        have hne : ¬ w74.heap.size = w1.heap.size := by omega
        have hne2 : ¬ w1.heap.size = w74.heap.size := by omega
        obtain ⟨t0, t1, t2, t3, t4⟩ := two_nums hne z0 z1 y0 y1 (.bool ya) (.slice aA mA cA) (.bool yb) (.slice aB mB cB)
        have S1 := (f104.setCell w74.heap.size 0 (.bool ya) (fun q => by omega)).setCell w74.heap.size 1 (.slice aA mA cA) (fun q => by omega)
        have S2 := (S1.setCell w1.heap.size 0 (.bool yb) (fun q => by omega)).setCell w1.heap.size 1 (.slice aB mB cB) (fun q => by omega)
        refine wpAnyH_ready (rs := [6]) (by kernel_rfl) (by simp) ?_
        refine AllReadyH.cons rfl (fun K hK => ?_) AllReadyH.nil
        go_simp
        refine Shut.out hK _ _ S1 (fun _ => ?_)
        clear hK K
        try simp only [Act.put, List.setIfInBounds_toArray, List.set_cons_zero, List.set_cons_succ]
        refine wpAnyH_ready (rs := [7]) (by kernel_rfl) (by simp) ?_
        refine AllReadyH.cons rfl (fun K hK => ?_) AllReadyH.nil
        go_simp
        refine Shut.out hK _ _ S2 (fun _ => ?_)
        clear hK K
        try simp only [Act.put, List.setIfInBounds_toArray, List.set_cons_zero, List.set_cons_succ]
        refine wpAnyH_done (by kernel_rfl) ?_ _
        exact HN.out _ _ _ _ _ _ _ ⟨aA, mA, cA, t0, t1, hmA, t4 (hbA.fr f105 (fun _ _ _ q => q))⟩ ⟨aB, mB, cB, t2, t3, hmB, t4 (hbB.fr (Fr.refl (fun _ _ => False) w102) (fun _ _ _ q => q))⟩ S2
  · have g111 := hfd.size
    obtain ⟨w108, h109⟩ : ∃ x, wd.alloc (.cells #[.bool false, .slice none 0 0] 30) = x := ⟨_, rfl⟩
    have k110 : Fr (fun _ _ => False) wd w108 := by rw [← h109]; exact (Fr.refl _ wd).alloc _
    go_simp
    try rw [h109]
    have f112 := hfd.trans k110
    refine Shut.out hK _ _ f112 (fun _ => ?_)
    clear hK K
    try simp only [Act.put, List.setIfInBounds_toArray, List.set_cons_zero, List.set_cons_succ]
    refine wpAnyH_ready (rs := [1, 5]) (by kernel_rfl) (by simp) ?_
    refine AllReadyH.cons rfl (fun K hK => ?_) (AllReadyH.cons rfl (fun K hK => ?_) AllReadyH.nil)
    · go_simp
      go_must (refine (HV.out _ f112).mono ?_; rintro e1 w113 ⟨aA, mA, cA, rfl, hmA, hbA, k114⟩)
      have f115 := f112.trans k114
      have f116 := (Fr.refl (fun _ _ => False) w108).trans k114
      refine Shut.out hK _ _ f115 (fun _ => ?_)
      clear hK K
      try simp only [Act.put, List.setIfInBounds_toArray, List.set_cons_zero, List.set_cons_succ]
      refine wpAnyH_ready (rs := [3, 5]) (by kernel_rfl) (by simp) ?_
      refine AllReadyH.cons rfl (fun K hK => ?_) (AllReadyH.cons rfl (fun K hK => ?_) AllReadyH.nil)
      · go_simp
        go_must (refine (HU.out _ f115).mono ?_; rintro e1 w117 ⟨aB, mB, cB, rfl, hmB, hbB, k118⟩)
        have f119 := f115.trans k118
        have f120 := f116.trans k118
        have f121 := (Fr.refl (fun _ _ => False) w113).trans k118
        refine Shut.out hK _ _ f119 (fun _ => ?_)
        clear hK K
        try simp only [Act.put, List.setIfInBounds_toArray, List.set_cons_zero, List.set_cons_succ]
        refine wpAnyH_ready (rs := [5]) (by kernel_rfl) (by simp) ?_
        refine AllReadyH.cons rfl (fun K hK => ?_) AllReadyH.nil
        have g125 := f119.size
        have n126 : wd.heap.size < w117.heap.size := by have e1 := f120.size; have e2 : w108.heap.size = wd.heap.size + 1 := (by rw [← h109]; simp); omega
        obtain ⟨w122, h123⟩ : ∃ x, w117.alloc (.cells #[.bool false, .slice none 0 0] 30) = x := ⟨_, rfl⟩
        have k124 : Fr (fun _ _ => False) w117 w122 := by rw [← h123]; exact (Fr.refl _ w117).alloc _
        go_simp
        try rw [h123]
        have f127 := f119.trans k124
        have f128 := f120.trans k124
        have f129 := f121.trans k124
        have f130 := (Fr.refl (fun _ _ => False) w117).trans k124
        refine Shut.out hK _ _ f127 (fun _ => ?_)
        clear hK K
        try simp only [Act.put, List.setIfInBounds_toArray, List.set_cons_zero, List.set_cons_succ]
        obtain ⟨z0, z1, z2, z3, _⟩ := res2' h109.symm f128 (fun o q => q)
        obtain ⟨y0, y1, y2, y3, _⟩ := res2' h123.symm (Fr.refl (fun _ _ => False) w122) (fun o q => q)
        have hne : ¬ wd.heap.size = w117.heap.size := by omega
        have hne2 : ¬ w117.heap.size = wd.heap.size := by omega
        obtain ⟨t0, t1, t2, t3, t4⟩ := two_nums hne z0 z1 y0 y1 (.bool ya) (.slice aA mA cA) (.bool yb) (.slice aB mB cB)
        have S1 := (f127.setCell wd.heap.size 0 (.bool ya) (fun q => by omega)).setCell wd.heap.size 1 (.slice aA mA cA) (fun q => by omega)
        have S2 := (S1.setCell w117.heap.size 0 (.bool yb) (fun q => by omega)).setCell w117.heap.size 1 (.slice aB mB cB) (fun q => by omega)
        refine wpAnyH_ready (rs := [6]) (by kernel_rfl) (by simp) ?_
        refine AllReadyH.cons rfl (fun K hK => ?_) AllReadyH.nil
        go_simp
        refine Shut.out hK _ _ S1 (fun _ => ?_)
        clear hK K
        try simp only [Act.put, List.setIfInBounds_toArray, List.set_cons_zero, List.set_cons_succ]
        refine wpAnyH_ready (rs := [7]) (by kernel_rfl) (by simp) ?_
        refine AllReadyH.cons rfl (fun K hK => ?_) AllReadyH.nil
        go_simp
        refine Shut.out hK _ _ S2 (fun _ => ?_)
        clear hK K
        try simp only [Act.put, List.setIfInBounds_toArray, List.set_cons_zero, List.set_cons_succ]
        refine wpAnyH_done (by kernel_rfl) ?_ _
        exact HN.out _ _ _ _ _ _ _ ⟨aA, mA, cA, t0, t1, hmA, t4 (hbA.fr f129 (fun _ _ _ q => q))⟩ ⟨aB, mB, cB, t2, t3, hmB, t4 (hbB.fr f130 (fun _ _ _ q => q))⟩ S2
      · have g134 := f115.size
        have n135 : wd.heap.size < w113.heap.size := by have e1 := f116.size; have e2 : w108.heap.size = wd.heap.size + 1 := (by rw [← h109]; simp); omega
        obtain ⟨w131, h132⟩ : ∃ x, w113.alloc (.cells #[.bool false, .slice none 0 0] 30) = x := ⟨_, rfl⟩
        have k133 : Fr (fun _ _ => False) w113 w131 := by rw [← h132]; exact (Fr.refl _ w113).alloc _
        go_simp
        try rw [h132]
        have f136 := f115.trans k133
        have f137 := f116.trans k133
        have f138 := (Fr.refl (fun _ _ => False) w113).trans k133
        refine Shut.out hK _ _ f136 (fun _ => ?_)
        clear hK K
        try simp only [Act.put, List.setIfInBounds_toArray, List.set_cons_zero, List.set_cons_succ]
        refine wpAnyH_ready (rs := [3]) (by kernel_rfl) (by simp) ?_
        refine AllReadyH.cons rfl (fun K hK => ?_) AllReadyH.nil
        go_simp
        go_must (refine (HU.out _ f136).mono ?_; rintro e1 w139 ⟨aB, mB, cB, rfl, hmB, hbB, k140⟩)
        have f141 := f136.trans k140
        have f142 := f137.trans k140
        have f143 := f138.trans k140
        have f144 := (Fr.refl (fun _ _ => False) w131).trans k140
        refine Shut.out hK _ _ f141 (fun _ => ?_)
        clear hK K
        try simp only [Act.put, List.setIfInBounds_toArray, List.set_cons_zero, List.set_cons_succ]
        obtain ⟨z0, z1, z2, z3, _⟩ := res2' h109.symm f142 (fun o q => q)
        obtain ⟨y0, y1, y2, y3, _⟩ := res2' h132.symm f144 (fun o q => q)
        have hne : ¬ wd.heap.size = w113.heap.size := by omega
        have hne2 : ¬ w113.heap.size = wd.heap.size := by omega
        obtain ⟨t0, t1, t2, t3, t4⟩ := two_nums hne z0 z1 y0 y1 (.bool ya) (.slice aA mA cA) (.bool yb) (.slice aB mB cB)
        have S1 := (f141.setCell wd.heap.size 0 (.bool ya) (fun q => by omega)).setCell wd.heap.size 1 (.slice aA mA cA) (fun q => by omega)
        have S2 := (S1.setCell w113.heap.size 0 (.bool yb) (fun q => by omega)).setCell w113.heap.size 1 (.slice aB mB cB) (fun q => by omega)
        refine wpAnyH_ready (rs := [6]) (by kernel_rfl) (by simp) ?_
        refine AllReadyH.cons rfl (fun K hK => ?_) AllReadyH.nil
        go_simp
        refine Shut.out hK _ _ S1 (fun _ => ?_)
        clear hK K
        try simp only [Act.put, List.setIfInBounds_toArray, List.set_cons_zero, List.set_cons_succ]
        refine wpAnyH_ready (rs := [7]) (by kernel_rfl) (by simp) ?_
        refine AllReadyH.cons rfl (fun K hK => ?_) AllReadyH.nil
        go_simp
        refine Shut.out hK _ _ S2 (fun _ => ?_)
        clear hK K
        try simp only [Act.put, List.setIfInBounds_toArray, List.set_cons_zero, List.set_cons_succ]
        refine wpAnyH_done (by kernel_rfl) ?_ _
        exact HN.out _ _ _ _ _ _ _ ⟨aA, mA, cA, t0, t1, hmA, t4 (hbA.fr f143 (fun _ _ _ q => q))⟩ ⟨aB, mB, cB, t2, t3, hmB, t4 (hbB.fr (Fr.refl (fun _ _ => False) w139) (fun _ _ _ q => q))⟩ S2
    · have g148 := f112.size
      have n149 : wd.heap.size < w108.heap.size := by have e1 := (Fr.refl (fun _ _ => False) w108).size; have e2 : w108.heap.size = wd.heap.size + 1 := (by rw [← h109]; simp); omega
      obtain ⟨w145, h146⟩ : ∃ x, w108.alloc (.cells #[.bool false, .slice none 0 0] 30) = x := ⟨_, rfl⟩
      have k147 : Fr (fun _ _ => False) w108 w145 := by rw [← h146]; exact (Fr.refl _ w108).alloc _
      go_simp
      try rw [h146]
      have f150 := f112.trans k147
      have f151 := (Fr.refl (fun _ _ => False) w108).trans k147
      refine Shut.out hK _ _ f150 (fun _ => ?_)
      clear hK K
      try simp only [Act.put, List.setIfInBounds_toArray, List.set_cons_zero, List.set_cons_succ]
      refine wpAnyH_ready (rs := [1]) (by kernel_rfl) (by simp) ?_
      refine AllReadyH.cons rfl (fun K hK => ?_) AllReadyH.nil
      go_simp
      go_must (refine (HV.out _ f150).mono ?_; rintro e1 w152 ⟨aA, mA, cA, rfl, hmA, hbA, k153⟩)
      have f154 := f150.trans k153
      have f155 := f151.trans k153
      have f156 := (Fr.refl (fun _ _ => False) w145).trans k153
      refine Shut.out hK _ _ f154 (fun _ => ?_)
      clear hK K
      try simp only [Act.put, List.setIfInBounds_toArray, List.set_cons_zero, List.set_cons_succ]
      refine wpAnyH_ready (rs := [3]) (by kernel_rfl) (by simp) ?_
      refine AllReadyH.cons rfl (fun K hK => ?_) AllReadyH.nil
      go_simp
      go_must (refine (HU.out _ f154).mono ?_; rintro e1 w157 ⟨aB, mB, cB, rfl, hmB, hbB, k158⟩)
      have f159 := f154.trans k158
      have f160 := f155.trans k158
      have f161 := f156.trans k158
      have f162 := (Fr.refl (fun _ _ => False) w152).trans k158
      refine Shut.out hK _ _ f159 (fun _ => ?_)
      clear hK K
      try simp only [Act.put, List.setIfInBounds_toArray, List.set_cons_zero, List.set_cons_succ]
      obtain ⟨z0, z1, z2, z3, _⟩ := res2' h109.symm f160 (fun o q => q)
      obtain ⟨y0, y1, y2, y3, _⟩ := res2' h146.symm f161 (fun o q => q)
      have hne : ¬ wd.heap.size = w108.heap.size := by omega
      have hne2 : ¬ w108.heap.size = wd.heap.size := by omega
      obtain ⟨t0, t1, t2, t3, t4⟩ := two_nums hne z0 z1 y0 y1 (.bool ya) (.slice aA mA cA) (.bool yb) (.slice aB mB cB)
      have S1 := (f159.setCell wd.heap.size 0 (.bool ya) (fun q => by omega)).setCell wd.heap.size 1 (.slice aA mA cA) (fun q => by omega)
      have S2 := (S1.setCell w108.heap.size 0 (.bool yb) (fun q => by omega)).setCell w108.heap.size 1 (.slice aB mB cB) (fun q => by omega)
      refine wpAnyH_ready (rs := [6]) (by kernel_rfl) (by simp) ?_
      refine AllReadyH.cons rfl (fun K hK => ?_) AllReadyH.nil
      go_simp
      refine Shut.out hK _ _ S1 (fun _ => ?_)
      clear hK K
      try simp only [Act.put, List.setIfInBounds_toArray, List.set_cons_zero, List.set_cons_succ]
      refine wpAnyH_ready (rs := [7]) (by kernel_rfl) (by simp) ?_
      refine AllReadyH.cons rfl (fun K hK => ?_) AllReadyH.nil
      go_simp
      refine Shut.out hK _ _ S2 (fun _ => ?_)
      clear hK K
      try simp only [Act.put, List.setIfInBounds_toArray, List.set_cons_zero, List.set_cons_succ]
      refine wpAnyH_done (by kernel_rfl) ?_ _
      exact HN.out _ _ _ _ _ _ _ ⟨aA, mA, cA, t0, t1, hmA, t4 (hbA.fr f162 (fun _ _ _ q => q))⟩ ⟨aB, mB, cB, t2, t3, hmB, t4 (hbB.fr (Fr.refl (fun _ _ => False) w157) (fun _ _ _ q => q))⟩ S2
  · have g166 := hfd.size
    obtain ⟨w163, h164⟩ : ∃ x, wd.alloc (.cells #[.bool false, .slice none 0 0] 30) = x := ⟨_, rfl⟩
    have k165 : Fr (fun _ _ => False) wd w163 := by rw [← h164]; exact (Fr.refl _ wd).alloc _
    go_simp
    try rw [h164]
    have f167 := hfd.trans k165
    refine Shut.out hK _ _ f167 (fun _ => ?_)
    clear hK K
    try simp only [Act.put, List.setIfInBounds_toArray, List.set_cons_zero, List.set_cons_succ]
    refine wpAnyH_ready (rs := [1, 4]) (by kernel_rfl) (by simp) ?_
    refine AllReadyH.cons rfl (fun K hK => ?_) (AllReadyH.cons rfl (fun K hK => ?_) AllReadyH.nil)
    · go_simp
      go_must (refine (HV.out _ f167).mono ?_; rintro e1 w168 ⟨aA, mA, cA, rfl, hmA, hbA, k169⟩)
      have f170 := f167.trans k169
      have f171 := (Fr.refl (fun _ _ => False) w163).trans k169
      refine Shut.out hK _ _ f170 (fun _ => ?_)
      clear hK K
      try simp only [Act.put, List.setIfInBounds_toArray, List.set_cons_zero, List.set_cons_succ]
      refine wpAnyH_ready (rs := [3, 4]) (by kernel_rfl) (by simp) ?_
      refine AllReadyH.cons rfl (fun K hK => ?_) (AllReadyH.cons rfl (fun K hK => ?_) AllReadyH.nil)
      · go_simp
        go_must (refine (HU.out _ f170).mono ?_; rintro e1 w172 ⟨aB, mB, cB, rfl, hmB, hbB, k173⟩)
        have f174 := f170.trans k173
        have f175 := f171.trans k173
        have f176 := (Fr.refl (fun _ _ => False) w168).trans k173
        refine Shut.out hK _ _ f174 (fun _ => ?_)
        clear hK K
        try simp only [Act.put, List.setIfInBounds_toArray, List.set_cons_zero, List.set_cons_succ]
        refine wpAnyH_ready (rs := [4]) (by kernel_rfl) (by simp) ?_
        refine AllReadyH.cons rfl (fun K hK => ?_) AllReadyH.nil
        have g180 := f174.size
        have n181 : wd.heap.size < w172.heap.size := by have e1 := f175.size; have e2 : w163.heap.size = wd.heap.size + 1 := (by rw [← h164]; simp); omega
        obtain ⟨w177, h178⟩ : ∃ x, w172.alloc (.cells #[.bool false, .slice none 0 0] 30) = x := ⟨_, rfl⟩
        have k179 : Fr (fun _ _ => False) w172 w177 := by rw [← h178]; exact (Fr.refl _ w172).alloc _
        go_simp
        try rw [h178]
        have f182 := f174.trans k179
        have f183 := f175.trans k179
        have f184 := f176.trans k179
        have f185 := (Fr.refl (fun _ _ => False) w172).trans k179
        refine Shut.out hK _ _ f182 (fun _ => ?_)
        clear hK K
        try simp only [Act.put, List.setIfInBounds_toArray, List.set_cons_zero, List.set_cons_succ]
        obtain ⟨z0, z1, z2, z3, _⟩ := res2' h178.symm (Fr.refl (fun _ _ => False) w177) (fun o q => q)
        obtain ⟨y0, y1, y2, y3, _⟩ := res2' h164.symm f183 (fun o q => q)
        have hne : ¬ w172.heap.size = wd.heap.size := by omega
        have hne2 : ¬ wd.heap.size = w172.heap.size := by omega
        obtain ⟨t0, t1, t2, t3, t4⟩ := two_nums hne z0 z1 y0 y1 (.bool ya) (.slice aA mA cA) (.bool yb) (.slice aB mB cB)
        have S1 := (f182.setCell w172.heap.size 0 (.bool ya) (fun q => by omega)).setCell w172.heap.size 1 (.slice aA mA cA) (fun q => by omega)
        have S2 := (S1.setCell wd.heap.size 0 (.bool yb) (fun q => by omega)).setCell wd.heap.size 1 (.slice aB mB cB) (fun q => by omega)
        refine wpAnyH_ready (rs := [6]) (by kernel_rfl) (by simp) ?_
        refine AllReadyH.cons rfl (fun K hK => ?_) AllReadyH.nil
        go_simp
        refine Shut.out hK _ _ S1 (fun _ => ?_)
        clear hK K
        try simp only [Act.put, List.setIfInBounds_toArray, List.set_cons_zero, List.set_cons_succ]
        refine wpAnyH_ready (rs := [7]) (by kernel_rfl) (by simp) ?_
        refine AllReadyH.cons rfl (fun K hK => ?_) AllReadyH.nil
        go_simp
        refine Shut.out hK _ _ S2 (fun _ => ?_)
        clear hK K
        try simp only [Act.put, List.setIfInBounds_toArray, List.set_cons_zero, List.set_cons_succ]
        refine wpAnyH_done (by kernel_rfl) ?_ _
        exact HN.out _ _ _ _ _ _ _ ⟨aA, mA, cA, t0, t1, hmA, t4 (hbA.fr f184 (fun _ _ _ q => q))⟩ ⟨aB, mB, cB, t2, t3, hmB, t4 (hbB.fr f185 (fun _ _ _ q => q))⟩ S2
      · have g189 := f170.size
        have n190 : wd.heap.size < w168.heap.size := by have e1 := f171.size; have e2 : w163.heap.size = wd.heap.size + 1 := (by rw [← h164]; simp); omega
        obtain ⟨w186, h187⟩ : ∃ x, w168.alloc (.cells #[.bool false, .slice none 0 0] 30) = x := ⟨_, rfl⟩
        have k188 : Fr (fun _ _ => False) w168 w186 := by rw [← h187]; exact (Fr.refl _ w168).alloc _
        go_simp
        try rw [h187]
        have f191 := f170.trans k188
        have f192 := f171.trans k188
        have f193 := (Fr.refl (fun _ _ => False) w168).trans k188
        refine Shut.out hK _ _ f191 (fun _ => ?_)
        clear hK K
        try simp only [Act.put, List.setIfInBounds_toArray, List.set_cons_zero, List.set_cons_succ]
        refine wpAnyH_ready (rs := [3]) (by kernel_rfl) (by simp) ?_
        refine AllReadyH.cons rfl (fun K hK => ?_) AllReadyH.nil
        go_simp
        go_must (refine (HU.out _ f191).mono ?_; rintro e1 w194 ⟨aB, mB, cB, rfl, hmB, hbB, k195⟩)
        have f196 := f191.trans k195
        have f197 := f192.trans k195
        have f198 := f193.trans k195
        have f199 := (Fr.refl (fun _ _ => False) w186).trans k195
        refine Shut.out hK _ _ f196 (fun _ => ?_)
        clear hK K
        try simp only [Act.put, List.setIfInBounds_toArray, List.set_cons_zero, List.set_cons_succ]
        obtain ⟨z0, z1, z2, z3, _⟩ := res2' h187.symm f199 (fun o q => q)
        obtain ⟨y0, y1, y2, y3, _⟩ := res2' h164.symm f197 (fun o q => q)
        have hne : ¬ w168.heap.size = wd.heap.size := by omega
        have hne2 : ¬ wd.heap.size = w168.heap.size := by omega
        obtain ⟨t0, t1, t2, t3, t4⟩ := two_nums hne z0 z1 y0 y1 (.bool ya) (.slice aA mA cA) (.bool yb) (.slice aB mB cB)
        have S1 := (f196.setCell w168.heap.size 0 (.bool ya) (fun q => by omega)).setCell w168.heap.size 1 (.slice aA mA cA) (fun q => by omega)
        have S2 := (S1.setCell wd.heap.size 0 (.bool yb) (fun q => by omega)).setCell wd.heap.size 1 (.slice aB mB cB) (fun q => by omega)
        refine wpAnyH_ready (rs := [6]) (by kernel_rfl) (by simp) ?_
        refine AllReadyH.cons rfl (fun K hK => ?_) AllReadyH.nil
        go_simp
        refine Shut.out hK _ _ S1 (fun _ => ?_)
        clear hK K
        try simp only [Act.put, List.setIfInBounds_toArray, List.set_cons_zero, List.set_cons_succ]
        refine wpAnyH_ready (rs := [7]) (by kernel_rfl) (by simp) ?_
        refine AllReadyH.cons rfl (fun K hK => ?_) AllReadyH.nil
        go_simp
        refine Shut.out hK _ _ S2 (fun _ => ?_)
        clear hK K
        try simp only [Act.put, List.setIfInBounds_toArray, List.set_cons_zero, List.set_cons_succ]
        refine wpAnyH_done (by kernel_rfl) ?_ _
        exact HN.out _ _ _ _ _ _ _ ⟨aA, mA, cA, t0, t1, hmA, t4 (hbA.fr f198 (fun _ _ _ q => q))⟩ ⟨aB, mB, cB, t2, t3, hmB, t4 (hbB.fr (Fr.refl (fun _ _ => False) w194) (fun _ _ _ q => q))⟩ S2
    · have g203 := f167.size
      have n204 : wd.heap.size < w163.heap.size := by have e1 := (Fr.refl (fun _ _ => False) w163).size; have e2 : w163.heap.size = wd.heap.size + 1 := (by rw [← h164]; simp); omega
      obtain ⟨w200, h201⟩ : ∃ x, w163.alloc (.cells #[.bool false, .slice none 0 0] 30) = x := ⟨_, rfl⟩
      have k202 : Fr (fun _ _ => False) w163 w200 := by rw [← h201]; exact (Fr.refl _ w163).alloc _
      go_simp
      try rw [h201]
      have f205 := f167.trans k202
      have f206 := (Fr.refl (fun _ _ => False) w163).trans k202
      refine Shut.out hK _ _ f205 (fun _ => ?_)
      clear hK K
      try simp only [Act.put, List.setIfInBounds_toArray, List.set_cons_zero, List.set_cons_succ]
      refine wpAnyH_ready (rs := [1]) (by kernel_rfl) (by simp) ?_
      refine AllReadyH.cons rfl (fun K hK => ?_) AllReadyH.nil
      go_simp
      go_must (refine (HV.out _ f205).mono ?_; rintro e1 w207 ⟨aA, mA, cA, rfl, hmA, hbA, k208⟩)
      have f209 := f205.trans k208
      have f210 := f206.trans k208
      have f211 := (Fr.refl (fun _ _ => False) w200).trans k208
      refine Shut.out hK _ _ f209 (fun _ => ?_)
      clear hK K
      try simp only [Act.put, List.setIfInBounds_toArray, List.set_cons_zero, List.set_cons_succ]
      refine wpAnyH_ready (rs := [3]) (by kernel_rfl) (by simp) ?_
      refine AllReadyH.cons rfl (fun K hK => ?_) AllReadyH.nil
      go_simp
      go_must (refine (HU.out _ f209).mono ?_; rintro e1 w212 ⟨aB, mB, cB, rfl, hmB, hbB, k213⟩)
      have f214 := f209.trans k213
      have f215 := f210.trans k213
      have f216 := f211.trans k213
      have f217 := (Fr.refl (fun _ _ => False) w207).trans k213
      refine Shut.out hK _ _ f214 (fun _ => ?_)
      clear hK K
      try simp only [Act.put, List.setIfInBounds_toArray, List.set_cons_zero, List.set_cons_succ]
      obtain ⟨z0, z1, z2, z3, _⟩ := res2' h201.symm f216 (fun o q => q)
      obtain ⟨y0, y1, y2, y3, _⟩ := res2' h164.symm f215 (fun o q => q)
      have hne : ¬ w163.heap.size = wd.heap.size := by omega
      have hne2 : ¬ wd.heap.size = w163.heap.size := by omega
      obtain ⟨t0, t1, t2, t3, t4⟩ := two_nums hne z0 z1 y0 y1 (.bool ya) (.slice aA mA cA) (.bool yb) (.slice aB mB cB)
      have S1 := (f214.setCell w163.heap.size 0 (.bool ya) (fun q => by omega)).setCell w163.heap.size 1 (.slice aA mA cA) (fun q => by omega)
      have S2 := (S1.setCell wd.heap.size 0 (.bool yb) (fun q => by omega)).setCell wd.heap.size 1 (.slice aB mB cB) (fun q => by omega)
      refine wpAnyH_ready (rs := [6]) (by kernel_rfl) (by simp) ?_
      refine AllReadyH.cons rfl (fun K hK => ?_) AllReadyH.nil
      go_simp
      refine Shut.out hK _ _ S1 (fun _ => ?_)
      clear hK K
      try simp only [Act.put, List.setIfInBounds_toArray, List.set_cons_zero, List.set_cons_succ]
      refine wpAnyH_ready (rs := [7]) (by kernel_rfl) (by simp) ?_
      refine AllReadyH.cons rfl (fun K hK => ?_) AllReadyH.nil
      go_simp
      refine Shut.out hK _ _ S2 (fun _ => ?_)
      clear hK K
      try simp only [Act.put, List.setIfInBounds_toArray, List.set_cons_zero, List.set_cons_succ]
      refine wpAnyH_done (by kernel_rfl) ?_ _
      exact HN.out _ _ _ _ _ _ _ ⟨aA, mA, cA, t0, t1, hmA, t4 (hbA.fr f217 (fun _ _ _ q => q))⟩ ⟨aB, mB, cB, t2, t3, hmB, t4 (hbB.fr (Fr.refl (fun _ _ => False) w212) (fun _ _ _ q => q))⟩ S2
set_option maxRecDepth 100000 in
set_option maxHeartbeats 8000000 in
theorem mr11 {c : Code} (hc : c = mdc 11) {p7 mX cX R : Nat} {aX : Option Addr} {sX yq yr : Bool} {w : World} (hlt : p7 < w.heap.size) (x0 : w.cell? ⟨p7, 0, none⟩ = some (.bool sX)) (x1 : w.cell? ⟨p7, 1, none⟩ = some (.slice aX mX cX))
    (HT : Hid (∀ w1, Fr (fun _ _ => False) w w1 → Calls Tryz.prog 15 #[.int .i64 2500] w1 fun e1 w2 => ∃ b mb cb, e1 = .returned (.agg #[.bool false, .slice b mb cb]) ∧
      Hid (∀ w3, Fr (fun _ _ => False) w2 w3 → Calls Tryz.prog 14 #[.agg #[.bool sX, .slice aX mX cX], .agg #[.bool false, .slice b mb cb]] w3 fun e1 w4 => ∃ qa qm qc ra rm rc, e1 = .returned (.tuple #[.agg #[.bool yq, .slice qa qm qc], .agg #[.bool yr, .slice ra rm rc]]) ∧ (rm ≤ 30000 ∧ Bf w4 ra rm rc (dlow R)) ∧ Fr (fun _ _ => False) w3 w4) ∧ Fr (fun _ _ => False) w1 w2))
    (u0 u1 u2 u3 u4 u5 u6 u8 u9 u10 u11 u12 u13 u14 u15 u16 u17 u18 u19 u20 u21 u22 u23 u24 u25 u26 u27 u28 u29 u30 u31 u32 u33 u34 u35 u36 u37 u38 u39 u40 u41 u42 u43 u44 u45 u46 u47 u48 u49 u50 u51 u52 u53 u54 u55 u56 u57 u58 u59 u60 u61 u62 u63 u64 u65 u66 u67 u68 u69 u70 u71 u72 u73 u74 u75 u76 u77 u78 u79 u80 u81 u82 u83 u84 u85 u86 u87 u88 u89 u90 u91 u92 u93 u94 u95 u96 u97 u98 u99 u100 u101 u102 u103 u104 u105 u106 u107 u108 u109 u110 u111 u112 u113 u114 u115 u116 u117 u118 u119 u120 u121 u122 u123 u124 u125 : Value) (N : Act → World → Prop)
    (HN : Aside (∀ (p10 : Nat) (v100 v101 v102 v99 v103 v104 v9 : Value) (W : World), NumIn W p10 yr R → Fr (fun _ _ => False) w W → N ⟨#[u0, u1, u2, u3, u4, u5, u6, .pointer (some ⟨p7, 0, none⟩), u8, v9, .pointer (some ⟨p10, 0, none⟩), u11, u12, u13, u14, u15, u16, u17, u18, u19, u20, u21, u22, u23, u24, u25, u26, u27, u28, u29, u30, u31, u32, u33, u34, u35, u36, u37, u38, u39, u40, u41, u42, u43, u44, u45, u46, u47, u48, u49, u50, u51, u52, u53, u54, u55, u56, u57, u58, u59, u60, u61, u62, u63, u64, u65, u66, u67, u68, u69, u70, u71, u72, u73, u74, u75, u76, u77, u78, u79, u80, u81, u82, u83, u84, u85, u86, u87, u88, u89, u90, u91, u92, u93, u94, u95, u96, u97, u98, v99, v100, v101, v102, v103, v104, u105, u106, u107, u108, u109, u110, u111, u112, u113, u114, u115, u116, u117, u118, u119, u120, u121, u122, u123, u124, u125], []⟩ W)) :
    Code.wp Tryz.prog c (QN N) ⟨#[u0, u1, u2, u3, u4, u5, u6, .pointer (some ⟨p7, 0, none⟩), u8, u9, u10, u11, u12, u13, u14, u15, u16, u17, u18, u19, u20, u21, u22, u23, u24, u25, u26, u27, u28, u29, u30, u31, u32, u33, u34, u35, u36, u37, u38, u39, u40, u41, u42, u43, u44, u45, u46, u47, u48, u49, u50, u51, u52, u53, u54, u55, u56, u57, u58, u59, u60, u61, u62, u63, u64, u65, u66, u67, u68, u69, u70, u71, u72, u73, u74, u75, u76, u77, u78, u79, u80, u81, u82, u83, u84, u85, u86, u87, u88, u89, u90, u91, u92, u93, u94, u95, u96, u97, u98, u99, u100, u101, u102, u103, u104, u105, u106, u107, u108, u109, u110, u111, u112, u113, u114, u115, u116, u117, u118, u119, u120, u121, u122, u123, u124, u125], []⟩ w := by
  subst hc
  conv => arg 2; whnf
  refine wp_region_held (S := (fun w9 => Fr (fun _ _ => False) w w9)) (by kernel_rfl) ?_
  change wpAnyH _ _ _ _ _ _ _ _ (World.drew _)
  have hfd : Fr (fun _ _ => False) w w.drew := (Fr.refl _ w).drew
  generalize w.drew = wd at hfd ⊢
  refine wpAnyH_take (i := 0) (v := ?_) rfl (by kernel_rfl) (by kernel_rfl) (by kernel_rfl) (fun _ _ _ h => h) (Or.inl ⟨by kernel_rfl, ?_⟩) hfd ?_
  rotate_left 1
  · intro w9 hF9
    have d0 := (hF9.cell p7 0 hlt (fun q => q)).trans x0
    have d1 := (hF9.cell p7 1 hlt (fun q => q)).trans x1
    go_simp
    try with_reducible rfl
  try simp only [Act.put, List.setIfInBounds_toArray, List.set_cons_zero, List.set_cons_succ]
  refine wpAnyH_ready (rs := [1, 6, 7]) (by kernel_rfl) (by simp) ?_
  refine AllReadyH.cons rfl (fun K hK => ?_) (AllReadyH.cons rfl (fun K hK => ?_) (AllReadyH.cons rfl (fun K hK => ?_) AllReadyH.nil))
  · go_simp
    go_must (refine (HT.out _ hfd).mono ?_; rintro e1 w218 ⟨b, mb, cb, rfl, HQ, k219⟩)
    have f220 := hfd.trans k219
    refine Shut.out hK _ _ f220 (fun _ => ?_)
    clear hK K
    try simp only [Act.put, List.setIfInBounds_toArray, List.set_cons_zero, List.set_cons_succ]
    refine wpAnyH_ready (rs := [2, 6, 7]) (by kernel_rfl) (by simp) ?_
    refine AllReadyH.cons rfl (fun K hK => ?_) (AllReadyH.cons rfl (fun K hK => ?_) (AllReadyH.cons rfl (fun K hK => ?_) AllReadyH.nil))
    · go_simp
      go_must (refine (HQ.out _ (Fr.refl (fun _ _ => False) w218)).mono ?_; rintro e1 w221 ⟨qa, qm, qc, ra, rm, rc, rfl, hr, k222⟩)
      have f223 := f220.trans k222
      have f224 := (Fr.refl (fun _ _ => False) w218).trans k222
      refine Shut.out hK _ _ f223 (fun _ => ?_)
      clear hK K
      try simp only [Act.put, List.setIfInBounds_toArray, List.set_cons_zero, List.set_cons_succ]
      refine wpAnyH_take (i := 3) (v := ?_) rfl (by kernel_rfl) (by kernel_rfl) (by kernel_rfl) (fun _ _ _ h => h) (Or.inl ⟨by kernel_rfl, ?_⟩) f223 ?_
      rotate_left 1
      · intro w9 hF9
        go_simp
        try with_reducible rfl
      try simp only [Act.put, List.setIfInBounds_toArray, List.set_cons_zero, List.set_cons_succ]
      refine wpAnyH_take (i := 4) (v := ?_) rfl (by kernel_rfl) (by kernel_rfl) (by kernel_rfl) (fun _ _ _ h => h) (Or.inl ⟨by kernel_rfl, ?_⟩) f223 ?_
      rotate_left 1
      · intro w9 hF9
        go_simp
        try with_reducible rfl
      try simp only [Act.put, List.setIfInBounds_toArray, List.set_cons_zero, List.set_cons_succ]
      refine wpAnyH_take (i := 5) (v := ?_) rfl (by kernel_rfl) (by kernel_rfl) (by kernel_rfl) (fun _ _ _ h => h) (Or.inl ⟨by kernel_rfl, ?_⟩) f223 ?_
      rotate_left 1
      · intro w9 hF9
        go_simp
        try with_reducible rfl
      try simp only [Act.put, List.setIfInBounds_toArray, List.set_cons_zero, List.set_cons_succ]
      refine wpAnyH_ready (rs := [6, 7]) (by kernel_rfl) (by simp) ?_
      refine AllReadyH.cons rfl (fun K hK => ?_) (AllReadyH.cons rfl (fun K hK => ?_) AllReadyH.nil)
      · have g228 := f223.size
        obtain ⟨w225, h226⟩ : ∃ x, w221.alloc (.cells #[.bool false, .slice none 0 0] 30) = x := ⟨_, rfl⟩
        have k227 : Fr (fun _ _ => False) w221 w225 := by rw [← h226]; exact (Fr.refl _ w221).alloc _
        go_simp
        try rw [h226]
        have f229 := f223.trans k227
        have f230 := f224.trans k227
        have f231 := (Fr.refl (fun _ _ => False) w221).trans k227
        refine Shut.out hK _ _ f229 (fun _ => ?_)
        clear hK K
        try simp only [Act.put, List.setIfInBounds_toArray, List.set_cons_zero, List.set_cons_succ]
        refine wpAnyH_ready (rs := [7]) (by kernel_rfl) (by simp) ?_
        refine AllReadyH.cons rfl (fun K hK => ?_) AllReadyH.nil
        have g235 := f229.size
        have n236 : w221.heap.size < w225.heap.size := by have e1 := (Fr.refl (fun _ _ => False) w225).size; have e2 : w225.heap.size = w221.heap.size + 1 := (by rw [← h226]; simp); omega
        obtain ⟨w232, h233⟩ : ∃ x, w225.alloc (.cells #[.bool false, .slice none 0 0] 30) = x := ⟨_, rfl⟩
        have k234 : Fr (fun _ _ => False) w225 w232 := by rw [← h233]; exact (Fr.refl _ w225).alloc _
        go_simp
        try rw [h233]
        have f237 := f229.trans k234
        have f238 := f230.trans k234
        have f239 := f231.trans k234
        have f240 := (Fr.refl (fun _ _ => False) w225).trans k234
        refine Shut.out hK _ _ f237 (fun _ => ?_)
        clear hK K
        try simp only [Act.put, List.setIfInBounds_toArray, List.set_cons_zero, List.set_cons_succ]
        obtain ⟨z0, z1, z2, z3, _⟩ := res2' h226.symm f240 (fun o q => q)
        obtain ⟨y0, y1, y2, y3, _⟩ := res2' h233.symm (Fr.refl (fun _ _ => False) w232) (fun o q => q)
        have hne : ¬ w221.heap.size = w225.heap.size := by omega
        have hne2 : ¬ w225.heap.size = w221.heap.size := by omega
        obtain ⟨t0, t1, t2, t3, t4⟩ := two_nums hne z0 z1 y0 y1 (.bool yq) (.slice qa qm qc) (.bool yr) (.slice ra rm rc)
        have S1 := (f237.setCell w221.heap.size 0 (.bool yq) (fun q => by omega)).setCell w221.heap.size 1 (.slice qa qm qc) (fun q => by omega)
        have S2 := (S1.setCell w225.heap.size 0 (.bool yr) (fun q => by omega)).setCell w225.heap.size 1 (.slice ra rm rc) (fun q => by omega)
        refine wpAnyH_ready (rs := [8]) (by kernel_rfl) (by simp) ?_
        refine AllReadyH.cons rfl (fun K hK => ?_) AllReadyH.nil
        go_simp
        refine Shut.out hK _ _ S1 (fun _ => ?_)
        clear hK K
        try simp only [Act.put, List.setIfInBounds_toArray, List.set_cons_zero, List.set_cons_succ]
        refine wpAnyH_ready (rs := [9]) (by kernel_rfl) (by simp) ?_
        refine AllReadyH.cons rfl (fun K hK => ?_) AllReadyH.nil
        go_simp
        refine Shut.out hK _ _ S2 (fun _ => ?_)
        clear hK K
        try simp only [Act.put, List.setIfInBounds_toArray, List.set_cons_zero, List.set_cons_succ]
        refine wpAnyH_done (by kernel_rfl) ?_ _
        exact HN.out _ _ _ _ _ _ _ _ _ ⟨ra, rm, rc, t2, t3, hr.1, t4 (hr.2.fr f239 (fun _ _ _ q => q))⟩ S2
      · have g244 := f223.size
        obtain ⟨w241, h242⟩ : ∃ x, w221.alloc (.cells #[.bool false, .slice none 0 0] 30) = x := ⟨_, rfl⟩
        have k243 : Fr (fun _ _ => False) w221 w241 := by rw [← h242]; exact (Fr.refl _ w221).alloc _
        go_simp
        try rw [h242]
        have f245 := f223.trans k243
        have f246 := f224.trans k243
        have f247 := (Fr.refl (fun _ _ => False) w221).trans k243
        refine Shut.out hK _ _ f245 (fun _ => ?_)
        clear hK K
        try simp only [Act.put, List.setIfInBounds_toArray, List.set_cons_zero, List.set_cons_succ]
        refine wpAnyH_ready (rs := [6]) (by kernel_rfl) (by simp) ?_
        refine AllReadyH.cons rfl (fun K hK => ?_) AllReadyH.nil
        have g251 := f245.size
        have n252 : w221.heap.size < w241.heap.size := by have e1 := (Fr.refl (fun _ _ => False) w241).size; have e2 : w241.heap.size = w221.heap.size + 1 := (by rw [← h242]; simp); omega
        obtain ⟨w248, h249⟩ : ∃ x, w241.alloc (.cells #[.bool false, .slice none 0 0] 30) = x := ⟨_, rfl⟩
        have k250 : Fr (fun _ _ => False) w241 w248 := by rw [← h249]; exact (Fr.refl _ w241).alloc _
        go_simp
        try rw [h249]
        have f253 := f245.trans k250
        have f254 := f246.trans k250
        have f255 := f247.trans k250
        have f256 := (Fr.refl (fun _ _ => False) w241).trans k250
        refine Shut.out hK _ _ f253 (fun _ => ?_)
        clear hK K
        try simp only [Act.put, List.setIfInBounds_toArray, List.set_cons_zero, List.set_cons_succ]
        obtain ⟨z0, z1, z2, z3, _⟩ := res2' h249.symm (Fr.refl (fun _ _ => False) w248) (fun o q => q)
        obtain ⟨y0, y1, y2, y3, _⟩ := res2' h242.symm f256 (fun o q => q)
        have hne : ¬ w241.heap.size = w221.heap.size := by omega
        have hne2 : ¬ w221.heap.size = w241.heap.size := by omega
        obtain ⟨t0, t1, t2, t3, t4⟩ := two_nums hne z0 z1 y0 y1 (.bool yq) (.slice qa qm qc) (.bool yr) (.slice ra rm rc)
        have S1 := (f253.setCell w241.heap.size 0 (.bool yq) (fun q => by omega)).setCell w241.heap.size 1 (.slice qa qm qc) (fun q => by omega)
        have S2 := (S1.setCell w221.heap.size 0 (.bool yr) (fun q => by omega)).setCell w221.heap.size 1 (.slice ra rm rc) (fun q => by omega)
        refine wpAnyH_ready (rs := [8]) (by kernel_rfl) (by simp) ?_
        refine AllReadyH.cons rfl (fun K hK => ?_) AllReadyH.nil
        go_simp
        refine Shut.out hK _ _ S1 (fun _ => ?_)
        clear hK K
        try simp only [Act.put, List.setIfInBounds_toArray, List.set_cons_zero, List.set_cons_succ]
        refine wpAnyH_ready (rs := [9]) (by kernel_rfl) (by simp) ?_
        refine AllReadyH.cons rfl (fun K hK => ?_) AllReadyH.nil
        go_simp
        refine Shut.out hK _ _ S2 (fun _ => ?_)
        clear hK K
        try simp only [Act.put, List.setIfInBounds_toArray, List.set_cons_zero, List.set_cons_succ]
        refine wpAnyH_done (by kernel_rfl) ?_ _
        exact HN.out _ _ _ _ _ _ _ _ _ ⟨ra, rm, rc, t2, t3, hr.1, t4 (hr.2.fr f255 (fun _ _ _ q => q))⟩ S2
    · have g260 := f220.size
      obtain ⟨w257, h258⟩ : ∃ x, w218.alloc (.cells #[.bool false, .slice none 0 0] 30) = x := ⟨_, rfl⟩
      have k259 : Fr (fun _ _ => False) w218 w257 := by rw [← h258]; exact (Fr.refl _ w218).alloc _
      go_simp
      try rw [h258]
      have f261 := f220.trans k259
      have f262 := (Fr.refl (fun _ _ => False) w218).trans k259
      refine Shut.out hK _ _ f261 (fun _ => ?_)
      clear hK K
      try simp only [Act.put, List.setIfInBounds_toArray, List.set_cons_zero, List.set_cons_succ]
      refine wpAnyH_ready (rs := [2, 7]) (by kernel_rfl) (by simp) ?_
      refine AllReadyH.cons rfl (fun K hK => ?_) (AllReadyH.cons rfl (fun K hK => ?_) AllReadyH.nil)
      · go_simp
        go_must (refine (HQ.out _ f262).mono ?_; rintro e1 w263 ⟨qa, qm, qc, ra, rm, rc, rfl, hr, k264⟩)
        have f265 := f261.trans k264
        have f266 := f262.trans k264
        have f267 := (Fr.refl (fun _ _ => False) w257).trans k264
        refine Shut.out hK _ _ f265 (fun _ => ?_)
        clear hK K
        try simp only [Act.put, List.setIfInBounds_toArray, List.set_cons_zero, List.set_cons_succ]
        refine wpAnyH_take (i := 3) (v := ?_) rfl (by kernel_rfl) (by kernel_rfl) (by kernel_rfl) (fun _ _ _ h => h) (Or.inl ⟨by kernel_rfl, ?_⟩) f265 ?_
        rotate_left 1
        · intro w9 hF9
          go_simp
          try with_reducible rfl
        try simp only [Act.put, List.setIfInBounds_toArray, List.set_cons_zero, List.set_cons_succ]
        refine wpAnyH_take (i := 4) (v := ?_) rfl (by kernel_rfl) (by kernel_rfl) (by kernel_rfl) (fun _ _ _ h => h) (Or.inl ⟨by kernel_rfl, ?_⟩) f265 ?_
        rotate_left 1
        · intro w9 hF9
          go_simp
          try with_reducible rfl
        try simp only [Act.put, List.setIfInBounds_toArray, List.set_cons_zero, List.set_cons_succ]
        refine wpAnyH_take (i := 5) (v := ?_) rfl (by kernel_rfl) (by kernel_rfl) (by kernel_rfl) (fun _ _ _ h => h) (Or.inl ⟨by kernel_rfl, ?_⟩) f265 ?_
        rotate_left 1
        · intro w9 hF9
          go_simp
          try with_reducible rfl
        try simp only [Act.put, List.setIfInBounds_toArray, List.set_cons_zero, List.set_cons_succ]
        refine wpAnyH_ready (rs := [7]) (by kernel_rfl) (by simp) ?_
        refine AllReadyH.cons rfl (fun K hK => ?_) AllReadyH.nil
        have g271 := f265.size
        have n272 : w218.heap.size < w263.heap.size := by have e1 := f267.size; have e2 : w257.heap.size = w218.heap.size + 1 := (by rw [← h258]; simp); omega
        obtain ⟨w268, h269⟩ : ∃ x, w263.alloc (.cells #[.bool false, .slice none 0 0] 30) = x := ⟨_, rfl⟩
        have k270 : Fr (fun _ _ => False) w263 w268 := by rw [← h269]; exact (Fr.refl _ w263).alloc _
        go_simp
        try rw [h269]
        have f273 := f265.trans k270
        have f274 := f266.trans k270
        have f275 := f267.trans k270
        have f276 := (Fr.refl (fun _ _ => False) w263).trans k270
        refine Shut.out hK _ _ f273 (fun _ => ?_)
        clear hK K
        try simp only [Act.put, List.setIfInBounds_toArray, List.set_cons_zero, List.set_cons_succ]
        obtain ⟨z0, z1, z2, z3, _⟩ := res2' h258.symm f275 (fun o q => q)
        obtain ⟨y0, y1, y2, y3, _⟩ := res2' h269.symm (Fr.refl (fun _ _ => False) w268) (fun o q => q)
        have hne : ¬ w218.heap.size = w263.heap.size := by omega
        have hne2 : ¬ w263.heap.size = w218.heap.size := by omega
        obtain ⟨t0, t1, t2, t3, t4⟩ := two_nums hne z0 z1 y0 y1 (.bool yq) (.slice qa qm qc) (.bool yr) (.slice ra rm rc)
        have S1 := (f273.setCell w218.heap.size 0 (.bool yq) (fun q => by omega)).setCell w218.heap.size 1 (.slice qa qm qc) (fun q => by omega)
        have S2 := (S1.setCell w263.heap.size 0 (.bool yr) (fun q => by omega)).setCell w263.heap.size 1 (.slice ra rm rc) (fun q => by omega)
        refine wpAnyH_ready (rs := [8]) (by kernel_rfl) (by simp) ?_
        refine AllReadyH.cons rfl (fun K hK => ?_) AllReadyH.nil
        go_simp
        refine Shut.out hK _ _ S1 (fun _ => ?_)
        clear hK K
        try simp only [Act.put, List.setIfInBounds_toArray, List.set_cons_zero, List.set_cons_succ]
        refine wpAnyH_ready (rs := [9]) (by kernel_rfl) (by simp) ?_
        refine AllReadyH.cons rfl (fun K hK => ?_) AllReadyH.nil
        go_simp
        refine Shut.out hK _ _ S2 (fun _ => ?_)
        clear hK K
        try simp only [Act.put, List.setIfInBounds_toArray, List.set_cons_zero, List.set_cons_succ]
        refine wpAnyH_done (by kernel_rfl) ?_ _
        exact HN.out _ _ _ _ _ _ _ _ _ ⟨ra, rm, rc, t2, t3, hr.1, t4 (hr.2.fr f276 (fun _ _ _ q => q))⟩ S2
      · have g280 := f261.size
        have n281 : w218.heap.size < w257.heap.size := by have e1 := (Fr.refl (fun _ _ => False) w257).size; have e2 : w257.heap.size = w218.heap.size + 1 := (by rw [← h258]; simp); omega
        obtain ⟨w277, h278⟩ : ∃ x, w257.alloc (.cells #[.bool false, .slice none 0 0] 30) = x := ⟨_, rfl⟩
        have k279 : Fr (fun _ _ => False) w257 w277 := by rw [← h278]; exact (Fr.refl _ w257).alloc _
        go_simp
        try rw [h278]
        have f282 := f261.trans k279
        have f283 := f262.trans k279
        have f284 := (Fr.refl (fun _ _ => False) w257).trans k279
        refine Shut.out hK _ _ f282 (fun _ => ?_)
        clear hK K
        try simp only [Act.put, List.setIfInBounds_toArray, List.set_cons_zero, List.set_cons_succ]
        refine wpAnyH_ready (rs := [2]) (by kernel_rfl) (by simp) ?_
        refine AllReadyH.cons rfl (fun K hK => ?_) AllReadyH.nil
        go_simp
        go_must (refine (HQ.out _ f283).mono ?_; rintro e1 w285 ⟨qa, qm, qc, ra, rm, rc, rfl, hr, k286⟩)
        have f287 := f282.trans k286
        have f288 := f283.trans k286
        have f289 := f284.trans k286
        have f290 := (Fr.refl (fun _ _ => False) w277).trans k286
        refine Shut.out hK _ _ f287 (fun _ => ?_)
        clear hK K
        try simp only [Act.put, List.setIfInBounds_toArray, List.set_cons_zero, List.set_cons_succ]
        refine wpAnyH_take (i := 3) (v := ?_) rfl (by kernel_rfl) (by kernel_rfl) (by kernel_rfl) (fun _ _ _ h => h) (Or.inl ⟨by kernel_rfl, ?_⟩) f287 ?_
        rotate_left 1
        · intro w9 hF9
          go_simp
          try with_reducible rfl
        try simp only [Act.put, List.setIfInBounds_toArray, List.set_cons_zero, List.set_cons_succ]
        refine wpAnyH_take (i := 4) (v := ?_) rfl (by kernel_rfl) (by kernel_rfl) (by kernel_rfl) (fun _ _ _ h => h) (Or.inl ⟨by kernel_rfl, ?_⟩) f287 ?_
        rotate_left 1
        · intro w9 hF9
          go_simp
          try with_reducible rfl
        try simp only [Act.put, List.setIfInBounds_toArray, List.set_cons_zero, List.set_cons_succ]
        refine wpAnyH_take (i := 5) (v := ?_) rfl (by kernel_rfl) (by kernel_rfl) (by kernel_rfl) (fun _ _ _ h => h) (Or.inl ⟨by kernel_rfl, ?_⟩) f287 ?_
        rotate_left 1
        · intro w9 hF9
          go_simp
          try with_reducible rfl
        try simp only [Act.put, List.setIfInBounds_toArray, List.set_cons_zero, List.set_cons_succ]
        obtain ⟨z0, z1, z2, z3, _⟩ := res2' h258.symm f289 (fun o q => q)
        obtain ⟨y0, y1, y2, y3, _⟩ := res2' h278.symm f290 (fun o q => q)
        have hne : ¬ w218.heap.size = w257.heap.size := by omega
        have hne2 : ¬ w257.heap.size = w218.heap.size := by omega
        obtain ⟨t0, t1, t2, t3, t4⟩ := two_nums hne z0 z1 y0 y1 (.bool yq) (.slice qa qm qc) (.bool yr) (.slice ra rm rc)
        have S1 := (f287.setCell w218.heap.size 0 (.bool yq) (fun q => by omega)).setCell w218.heap.size 1 (.slice qa qm qc) (fun q => by omega)
        have S2 := (S1.setCell w257.heap.size 0 (.bool yr) (fun q => by omega)).setCell w257.heap.size 1 (.slice ra rm rc) (fun q => by omega)
        refine wpAnyH_ready (rs := [8]) (by kernel_rfl) (by simp) ?_
        refine AllReadyH.cons rfl (fun K hK => ?_) AllReadyH.nil
        go_simp
        refine Shut.out hK _ _ S1 (fun _ => ?_)
        clear hK K
        try simp only [Act.put, List.setIfInBounds_toArray, List.set_cons_zero, List.set_cons_succ]
        refine wpAnyH_ready (rs := [9]) (by kernel_rfl) (by simp) ?_
        refine AllReadyH.cons rfl (fun K hK => ?_) AllReadyH.nil
        go_simp
        refine Shut.out hK _ _ S2 (fun _ => ?_)
        clear hK K
        try simp only [Act.put, List.setIfInBounds_toArray, List.set_cons_zero, List.set_cons_succ]
        refine wpAnyH_done (by kernel_rfl) ?_ _
        exact HN.out _ _ _ _ _ _ _ _ _ ⟨ra, rm, rc, t2, t3, hr.1, t4 (hr.2.fr (Fr.refl (fun _ _ => False) w285) (fun _ _ _ q => q))⟩ S2
    · have g294 := f220.size
      obtain ⟨w291, h292⟩ : ∃ x, w218.alloc (.cells #[.bool false, .slice none 0 0] 30) = x := ⟨_, rfl⟩
      have k293 : Fr (fun _ _ => False) w218 w291 := by rw [← h292]; exact (Fr.refl _ w218).alloc _
      go_simp
      try rw [h292]
      have f295 := f220.trans k293
      have f296 := (Fr.refl (fun _ _ => False) w218).trans k293
      refine Shut.out hK _ _ f295 (fun _ => ?_)
      clear hK K
      try simp only [Act.put, List.setIfInBounds_toArray, List.set_cons_zero, List.set_cons_succ]
      refine wpAnyH_ready (rs := [2, 6]) (by kernel_rfl) (by simp) ?_
      refine AllReadyH.cons rfl (fun K hK => ?_) (AllReadyH.cons rfl (fun K hK => ?_) AllReadyH.nil)
      · go_simp
        go_must (refine (HQ.out _ f296).mono ?_; rintro e1 w297 ⟨qa, qm, qc, ra, rm, rc, rfl, hr, k298⟩)
        have f299 := f295.trans k298
        have f300 := f296.trans k298
        have f301 := (Fr.refl (fun _ _ => False) w291).trans k298
        refine Shut.out hK _ _ f299 (fun _ => ?_)
        clear hK K
        try simp only [Act.put, List.setIfInBounds_toArray, List.set_cons_zero, List.set_cons_succ]
        refine wpAnyH_take (i := 3) (v := ?_) rfl (by kernel_rfl) (by kernel_rfl) (by kernel_rfl) (fun _ _ _ h => h) (Or.inl ⟨by kernel_rfl, ?_⟩) f299 ?_
        rotate_left 1
        · intro w9 hF9
          go_simp
          try with_reducible rfl
        try simp only [Act.put, List.setIfInBounds_toArray, List.set_cons_zero, List.set_cons_succ]
        refine wpAnyH_take (i := 4) (v := ?_) rfl (by kernel_rfl) (by kernel_rfl) (by kernel_rfl) (fun _ _ _ h => h) (Or.inl ⟨by kernel_rfl, ?_⟩) f299 ?_
        rotate_left 1
        · intro w9 hF9
          go_simp
          try with_reducible rfl
        try simp only [Act.put, List.setIfInBounds_toArray, List.set_cons_zero, List.set_cons_succ]
        refine wpAnyH_take (i := 5) (v := ?_) rfl (by kernel_rfl) (by kernel_rfl) (by kernel_rfl) (fun _ _ _ h => h) (Or.inl ⟨by kernel_rfl, ?_⟩) f299 ?_
        rotate_left 1
        · intro w9 hF9
          go_simp
          try with_reducible rfl
        try simp only [Act.put, List.setIfInBounds_toArray, List.set_cons_zero, List.set_cons_succ]
        refine wpAnyH_ready (rs := [6]) (by kernel_rfl) (by simp) ?_
        refine AllReadyH.cons rfl (fun K hK => ?_) AllReadyH.nil
        have g305 := f299.size
        have n306 : w218.heap.size < w297.heap.size := by have e1 := f301.size; have e2 : w291.heap.size = w218.heap.size + 1 := (by rw [← h292]; simp); omega
        obtain ⟨w302, h303⟩ : ∃ x, w297.alloc (.cells #[.bool false, .slice none 0 0] 30) = x := ⟨_, rfl⟩
        have k304 : Fr (fun _ _ => False) w297 w302 := by rw [← h303]; exact (Fr.refl _ w297).alloc _
        go_simp
        try rw [h303]
        have f307 := f299.trans k304
        have f308 := f300.trans k304
        have f309 := f301.trans k304
        have f310 := (Fr.refl (fun _ _ => False) w297).trans k304
        refine Shut.out hK _ _ f307 (fun _ => ?_)
        clear hK K
        try simp only [Act.put, List.setIfInBounds_toArray, List.set_cons_zero, List.set_cons_succ]
        obtain ⟨z0, z1, z2, z3, _⟩ := res2' h303.symm (Fr.refl (fun _ _ => False) w302) (fun o q => q)
        obtain ⟨y0, y1, y2, y3, _⟩ := res2' h292.symm f309 (fun o q => q)
        have hne : ¬ w297.heap.size = w218.heap.size := by omega
        have hne2 : ¬ w218.heap.size = w297.heap.size := by omega
        obtain ⟨t0, t1, t2, t3, t4⟩ := two_nums hne z0 z1 y0 y1 (.bool yq) (.slice qa qm qc) (.bool yr) (.slice ra rm rc)
        have S1 := (f307.setCell w297.heap.size 0 (.bool yq) (fun q => by omega)).setCell w297.heap.size 1 (.slice qa qm qc) (fun q => by omega)
        have S2 := (S1.setCell w218.heap.size 0 (.bool yr) (fun q => by omega)).setCell w218.heap.size 1 (.slice ra rm rc) (fun q => by omega)
        refine wpAnyH_ready (rs := [8]) (by kernel_rfl) (by simp) ?_
        refine AllReadyH.cons rfl (fun K hK => ?_) AllReadyH.nil
        go_simp
        refine Shut.out hK _ _ S1 (fun _ => ?_)
        clear hK K
        try simp only [Act.put, List.setIfInBounds_toArray, List.set_cons_zero, List.set_cons_succ]
        refine wpAnyH_ready (rs := [9]) (by kernel_rfl) (by simp) ?_
        refine AllReadyH.cons rfl (fun K hK => ?_) AllReadyH.nil
        go_simp
        refine Shut.out hK _ _ S2 (fun _ => ?_)
        clear hK K
        try simp only [Act.put, List.setIfInBounds_toArray, List.set_cons_zero, List.set_cons_succ]
        refine wpAnyH_done (by kernel_rfl) ?_ _
        exact HN.out _ _ _ _ _ _ _ _ _ ⟨ra, rm, rc, t2, t3, hr.1, t4 (hr.2.fr f310 (fun _ _ _ q => q))⟩ S2
      · have g314 := f295.size
        have n315 : w218.heap.size < w291.heap.size := by have e1 := (Fr.refl (fun _ _ => False) w291).size; have e2 : w291.heap.size = w218.heap.size + 1 := (by rw [← h292]; simp); omega
        obtain ⟨w311, h312⟩ : ∃ x, w291.alloc (.cells #[.bool false, .slice none 0 0] 30) = x := ⟨_, rfl⟩
        have k313 : Fr (fun _ _ => False) w291 w311 := by rw [← h312]; exact (Fr.refl _ w291).alloc _
        go_simp
        try rw [h312]
        have f316 := f295.trans k313
        have f317 := f296.trans k313
        have f318 := (Fr.refl (fun _ _ => False) w291).trans k313
        refine Shut.out hK _ _ f316 (fun _ => ?_)
        clear hK K
        try simp only [Act.put, List.setIfInBounds_toArray, List.set_cons_zero, List.set_cons_succ]
        refine wpAnyH_ready (rs := [2]) (by kernel_rfl) (by simp) ?_
        refine AllReadyH.cons rfl (fun K hK => ?_) AllReadyH.nil
        go_simp
        go_must (refine (HQ.out _ f317).mono ?_; rintro e1 w319 ⟨qa, qm, qc, ra, rm, rc, rfl, hr, k320⟩)
        have f321 := f316.trans k320
        have f322 := f317.trans k320
        have f323 := f318.trans k320
        have f324 := (Fr.refl (fun _ _ => False) w311).trans k320
        refine Shut.out hK _ _ f321 (fun _ => ?_)
        clear hK K
        try simp only [Act.put, List.setIfInBounds_toArray, List.set_cons_zero, List.set_cons_succ]
        refine wpAnyH_take (i := 3) (v := ?_) rfl (by kernel_rfl) (by kernel_rfl) (by kernel_rfl) (fun _ _ _ h => h) (Or.inl ⟨by kernel_rfl, ?_⟩) f321 ?_
        rotate_left 1
        · intro w9 hF9
          go_simp
          try with_reducible rfl
        try simp only [Act.put, List.setIfInBounds_toArray, List.set_cons_zero, List.set_cons_succ]
        refine wpAnyH_take (i := 4) (v := ?_) rfl (by kernel_rfl) (by kernel_rfl) (by kernel_rfl) (fun _ _ _ h => h) (Or.inl ⟨by kernel_rfl, ?_⟩) f321 ?_
        rotate_left 1
        · intro w9 hF9
          go_simp
          try with_reducible rfl
        try simp only [Act.put, List.setIfInBounds_toArray, List.set_cons_zero, List.set_cons_succ]
        refine wpAnyH_take (i := 5) (v := ?_) rfl (by kernel_rfl) (by kernel_rfl) (by kernel_rfl) (fun _ _ _ h => h) (Or.inl ⟨by kernel_rfl, ?_⟩) f321 ?_
        rotate_left 1
        · intro w9 hF9
          go_simp
          try with_reducible rfl
        try simp only [Act.put, List.setIfInBounds_toArray, List.set_cons_zero, List.set_cons_succ]
        obtain ⟨z0, z1, z2, z3, _⟩ := res2' h312.symm f324 (fun o q => q)
        obtain ⟨y0, y1, y2, y3, _⟩ := res2' h292.symm f323 (fun o q => q)
        have hne : ¬ w291.heap.size = w218.heap.size := by omega
        have hne2 : ¬ w218.heap.size = w291.heap.size := by omega
        obtain ⟨t0, t1, t2, t3, t4⟩ := two_nums hne z0 z1 y0 y1 (.bool yq) (.slice qa qm qc) (.bool yr) (.slice ra rm rc)
        have S1 := (f321.setCell w291.heap.size 0 (.bool yq) (fun q => by omega)).setCell w291.heap.size 1 (.slice qa qm qc) (fun q => by omega)
        have S2 := (S1.setCell w218.heap.size 0 (.bool yr) (fun q => by omega)).setCell w218.heap.size 1 (.slice ra rm rc) (fun q => by omega)
        refine wpAnyH_ready (rs := [8]) (by kernel_rfl) (by simp) ?_
        refine AllReadyH.cons rfl (fun K hK => ?_) AllReadyH.nil
        go_simp
        refine Shut.out hK _ _ S1 (fun _ => ?_)
        clear hK K
        try simp only [Act.put, List.setIfInBounds_toArray, List.set_cons_zero, List.set_cons_succ]
        refine wpAnyH_ready (rs := [9]) (by kernel_rfl) (by simp) ?_
        refine AllReadyH.cons rfl (fun K hK => ?_) AllReadyH.nil
        go_simp
        refine Shut.out hK _ _ S2 (fun _ => ?_)
        clear hK K
        try simp only [Act.put, List.setIfInBounds_toArray, List.set_cons_zero, List.set_cons_succ]
        refine wpAnyH_done (by kernel_rfl) ?_ _
        exact HN.out _ _ _ _ _ _ _ _ _ ⟨ra, rm, rc, t2, t3, hr.1, t4 (hr.2.fr (Fr.refl (fun _ _ => False) w319) (fun _ _ _ q => q))⟩ S2
  · have g328 := hfd.size
    obtain ⟨w325, h326⟩ : ∃ x, wd.alloc (.cells #[.bool false, .slice none 0 0] 30) = x := ⟨_, rfl⟩
    have k327 : Fr (fun _ _ => False) wd w325 := by rw [← h326]; exact (Fr.refl _ wd).alloc _
    go_simp
    try rw [h326]
    have f329 := hfd.trans k327
    refine Shut.out hK _ _ f329 (fun _ => ?_)
    clear hK K
    try simp only [Act.put, List.setIfInBounds_toArray, List.set_cons_zero, List.set_cons_succ]
    refine wpAnyH_ready (rs := [1, 7]) (by kernel_rfl) (by simp) ?_
    refine AllReadyH.cons rfl (fun K hK => ?_) (AllReadyH.cons rfl (fun K hK => ?_) AllReadyH.nil)
    · go_simp
      go_must (refine (HT.out _ f329).mono ?_; rintro e1 w330 ⟨b, mb, cb, rfl, HQ, k331⟩)
      have f332 := f329.trans k331
      have f333 := (Fr.refl (fun _ _ => False) w325).trans k331
      refine Shut.out hK _ _ f332 (fun _ => ?_)
      clear hK K
      try simp only [Act.put, List.setIfInBounds_toArray, List.set_cons_zero, List.set_cons_succ]
      refine wpAnyH_ready (rs := [2, 7]) (by kernel_rfl) (by simp) ?_
      refine AllReadyH.cons rfl (fun K hK => ?_) (AllReadyH.cons rfl (fun K hK => ?_) AllReadyH.nil)
      · go_simp
        go_must (refine (HQ.out _ (Fr.refl (fun _ _ => False) w330)).mono ?_; rintro e1 w334 ⟨qa, qm, qc, ra, rm, rc, rfl, hr, k335⟩)
        have f336 := f332.trans k335
        have f337 := f333.trans k335
        have f338 := (Fr.refl (fun _ _ => False) w330).trans k335
        refine Shut.out hK _ _ f336 (fun _ => ?_)
        clear hK K
        try simp only [Act.put, List.setIfInBounds_toArray, List.set_cons_zero, List.set_cons_succ]
        refine wpAnyH_take (i := 3) (v := ?_) rfl (by kernel_rfl) (by kernel_rfl) (by kernel_rfl) (fun _ _ _ h => h) (Or.inl ⟨by kernel_rfl, ?_⟩) f336 ?_
        rotate_left 1
        · intro w9 hF9
          go_simp
          try with_reducible rfl
        try simp only [Act.put, List.setIfInBounds_toArray, List.set_cons_zero, List.set_cons_succ]
        refine wpAnyH_take (i := 4) (v := ?_) rfl (by kernel_rfl) (by kernel_rfl) (by kernel_rfl) (fun _ _ _ h => h) (Or.inl ⟨by kernel_rfl, ?_⟩) f336 ?_
        rotate_left 1
        · intro w9 hF9
          go_simp
          try with_reducible rfl
        try simp only [Act.put, List.setIfInBounds_toArray, List.set_cons_zero, List.set_cons_succ]
        refine wpAnyH_take (i := 5) (v := ?_) rfl (by kernel_rfl) (by kernel_rfl) (by kernel_rfl) (fun _ _ _ h => h) (Or.inl ⟨by kernel_rfl, ?_⟩) f336 ?_
        rotate_left 1
        · intro w9 hF9
          go_simp
          try with_reducible rfl
        try simp only [Act.put, List.setIfInBounds_toArray, List.set_cons_zero, List.set_cons_succ]
        refine wpAnyH_ready (rs := [7]) (by kernel_rfl) (by simp) ?_
        refine AllReadyH.cons rfl (fun K hK => ?_) AllReadyH.nil
        have g342 := f336.size
        have n343 : wd.heap.size < w334.heap.size := by have e1 := f337.size; have e2 : w325.heap.size = wd.heap.size + 1 := (by rw [← h326]; simp); omega
        obtain ⟨w339, h340⟩ : ∃ x, w334.alloc (.cells #[.bool false, .slice none 0 0] 30) = x := ⟨_, rfl⟩
        have k341 : Fr (fun _ _ => False) w334 w339 := by rw [← h340]; exact (Fr.refl _ w334).alloc _
        go_simp
        try rw [h340]
        have f344 := f336.trans k341
        have f345 := f337.trans k341
        have f346 := f338.trans k341
        have f347 := (Fr.refl (fun _ _ => False) w334).trans k341
        refine Shut.out hK _ _ f344 (fun _ => ?_)
        clear hK K
        try simp only [Act.put, List.setIfInBounds_toArray, List.set_cons_zero, List.set_cons_succ]
        obtain ⟨z0, z1, z2, z3, _⟩ := res2' h326.symm f345 (fun o q => q)
        obtain ⟨y0, y1, y2, y3, _⟩ := res2' h340.symm (Fr.refl (fun _ _ => False) w339) (fun o q => q)
        have hne : ¬ wd.heap.size = w334.heap.size := by omega
        have hne2 : ¬ w334.heap.size = wd.heap.size := by omega
        obtain ⟨t0, t1, t2, t3, t4⟩ := two_nums hne z0 z1 y0 y1 (.bool yq) (.slice qa qm qc) (.bool yr) (.slice ra rm rc)
        have S1 := (f344.setCell wd.heap.size 0 (.bool yq) (fun q => by omega)).setCell wd.heap.size 1 (.slice qa qm qc) (fun q => by omega)
        have S2 := (S1.setCell w334.heap.size 0 (.bool yr) (fun q => by omega)).setCell w334.heap.size 1 (.slice ra rm rc) (fun q => by omega)
        refine wpAnyH_ready (rs := [8]) (by kernel_rfl) (by simp) ?_
        refine AllReadyH.cons rfl (fun K hK => ?_) AllReadyH.nil
        go_simp
        refine Shut.out hK _ _ S1 (fun _ => ?_)
        clear hK K
        try simp only [Act.put, List.setIfInBounds_toArray, List.set_cons_zero, List.set_cons_succ]
        refine wpAnyH_ready (rs := [9]) (by kernel_rfl) (by simp) ?_
        refine AllReadyH.cons rfl (fun K hK => ?_) AllReadyH.nil
        go_simp
        refine Shut.out hK _ _ S2 (fun _ => ?_)
        clear hK K
        try simp only [Act.put, List.setIfInBounds_toArray, List.set_cons_zero, List.set_cons_succ]
        refine wpAnyH_done (by kernel_rfl) ?_ _
        exact HN.out _ _ _ _ _ _ _ _ _ ⟨ra, rm, rc, t2, t3, hr.1, t4 (hr.2.fr f347 (fun _ _ _ q => q))⟩ S2
      · have g351 := f332.size
        have n352 : wd.heap.size < w330.heap.size := by have e1 := f333.size; have e2 : w325.heap.size = wd.heap.size + 1 := (by rw [← h326]; simp); omega
        obtain ⟨w348, h349⟩ : ∃ x, w330.alloc (.cells #[.bool false, .slice none 0 0] 30) = x := ⟨_, rfl⟩
        have k350 : Fr (fun _ _ => False) w330 w348 := by rw [← h349]; exact (Fr.refl _ w330).alloc _
        go_simp
        try rw [h349]
        have f353 := f332.trans k350
        have f354 := f333.trans k350
        have f355 := (Fr.refl (fun _ _ => False) w330).trans k350
        refine Shut.out hK _ _ f353 (fun _ => ?_)
        clear hK K
        try simp only [Act.put, List.setIfInBounds_toArray, List.set_cons_zero, List.set_cons_succ]
        refine wpAnyH_ready (rs := [2]) (by kernel_rfl) (by simp) ?_
        refine AllReadyH.cons rfl (fun K hK => ?_) AllReadyH.nil
        go_simp
        go_must (refine (HQ.out _ f355).mono ?_; rintro e1 w356 ⟨qa, qm, qc, ra, rm, rc, rfl, hr, k357⟩)
        have f358 := f353.trans k357
        have f359 := f354.trans k357
        have f360 := f355.trans k357
        have f361 := (Fr.refl (fun _ _ => False) w348).trans k357
        refine Shut.out hK _ _ f358 (fun _ => ?_)
        clear hK K
        try simp only [Act.put, List.setIfInBounds_toArray, List.set_cons_zero, List.set_cons_succ]
        refine wpAnyH_take (i := 3) (v := ?_) rfl (by kernel_rfl) (by kernel_rfl) (by kernel_rfl) (fun _ _ _ h => h) (Or.inl ⟨by kernel_rfl, ?_⟩) f358 ?_
        rotate_left 1
        · intro w9 hF9
          go_simp
          try with_reducible rfl
        try simp only [Act.put, List.setIfInBounds_toArray, List.set_cons_zero, List.set_cons_succ]
        refine wpAnyH_take (i := 4) (v := ?_) rfl (by kernel_rfl) (by kernel_rfl) (by kernel_rfl) (fun _ _ _ h => h) (Or.inl ⟨by kernel_rfl, ?_⟩) f358 ?_
        rotate_left 1
        · intro w9 hF9
          go_simp
          try with_reducible rfl
        try simp only [Act.put, List.setIfInBounds_toArray, List.set_cons_zero, List.set_cons_succ]
        refine wpAnyH_take (i := 5) (v := ?_) rfl (by kernel_rfl) (by kernel_rfl) (by kernel_rfl) (fun _ _ _ h => h) (Or.inl ⟨by kernel_rfl, ?_⟩) f358 ?_
        rotate_left 1
        · intro w9 hF9
          go_simp
          try with_reducible rfl
        try simp only [Act.put, List.setIfInBounds_toArray, List.set_cons_zero, List.set_cons_succ]
        obtain ⟨z0, z1, z2, z3, _⟩ := res2' h326.symm f359 (fun o q => q)
        obtain ⟨y0, y1, y2, y3, _⟩ := res2' h349.symm f361 (fun o q => q)
        have hne : ¬ wd.heap.size = w330.heap.size := by omega
        have hne2 : ¬ w330.heap.size = wd.heap.size := by omega
        obtain ⟨t0, t1, t2, t3, t4⟩ := two_nums hne z0 z1 y0 y1 (.bool yq) (.slice qa qm qc) (.bool yr) (.slice ra rm rc)
        have S1 := (f358.setCell wd.heap.size 0 (.bool yq) (fun q => by omega)).setCell wd.heap.size 1 (.slice qa qm qc) (fun q => by omega)
        have S2 := (S1.setCell w330.heap.size 0 (.bool yr) (fun q => by omega)).setCell w330.heap.size 1 (.slice ra rm rc) (fun q => by omega)
        refine wpAnyH_ready (rs := [8]) (by kernel_rfl) (by simp) ?_
        refine AllReadyH.cons rfl (fun K hK => ?_) AllReadyH.nil
        go_simp
        refine Shut.out hK _ _ S1 (fun _ => ?_)
        clear hK K
        try simp only [Act.put, List.setIfInBounds_toArray, List.set_cons_zero, List.set_cons_succ]
        refine wpAnyH_ready (rs := [9]) (by kernel_rfl) (by simp) ?_
        refine AllReadyH.cons rfl (fun K hK => ?_) AllReadyH.nil
        go_simp
        refine Shut.out hK _ _ S2 (fun _ => ?_)
        clear hK K
        try simp only [Act.put, List.setIfInBounds_toArray, List.set_cons_zero, List.set_cons_succ]
        refine wpAnyH_done (by kernel_rfl) ?_ _
        exact HN.out _ _ _ _ _ _ _ _ _ ⟨ra, rm, rc, t2, t3, hr.1, t4 (hr.2.fr (Fr.refl (fun _ _ => False) w356) (fun _ _ _ q => q))⟩ S2
    · have g365 := f329.size
      have n366 : wd.heap.size < w325.heap.size := by have e1 := (Fr.refl (fun _ _ => False) w325).size; have e2 : w325.heap.size = wd.heap.size + 1 := (by rw [← h326]; simp); omega
      obtain ⟨w362, h363⟩ : ∃ x, w325.alloc (.cells #[.bool false, .slice none 0 0] 30) = x := ⟨_, rfl⟩
      have k364 : Fr (fun _ _ => False) w325 w362 := by rw [← h363]; exact (Fr.refl _ w325).alloc _
      go_simp
      try rw [h363]
      have f367 := f329.trans k364
      have f368 := (Fr.refl (fun _ _ => False) w325).trans k364
      refine Shut.out hK _ _ f367 (fun _ => ?_)
      clear hK K
      try simp only [Act.put, List.setIfInBounds_toArray, List.set_cons_zero, List.set_cons_succ]
      refine wpAnyH_ready (rs := [1]) (by kernel_rfl) (by simp) ?_
      refine AllReadyH.cons rfl (fun K hK => ?_) AllReadyH.nil
      go_simp
      go_must (refine (HT.out _ f367).mono ?_; rintro e1 w369 ⟨b, mb, cb, rfl, HQ, k370⟩)
      have f371 := f367.trans k370
      have f372 := f368.trans k370
      have f373 := (Fr.refl (fun _ _ => False) w362).trans k370
      refine Shut.out hK _ _ f371 (fun _ => ?_)
      clear hK K
      try simp only [Act.put, List.setIfInBounds_toArray, List.set_cons_zero, List.set_cons_succ]
      refine wpAnyH_ready (rs := [2]) (by kernel_rfl) (by simp) ?_
      refine AllReadyH.cons rfl (fun K hK => ?_) AllReadyH.nil
      go_simp
      go_must (refine (HQ.out _ (Fr.refl (fun _ _ => False) w369)).mono ?_; rintro e1 w374 ⟨qa, qm, qc, ra, rm, rc, rfl, hr, k375⟩)
      have f376 := f371.trans k375
      have f377 := f372.trans k375
      have f378 := f373.trans k375
      have f379 := (Fr.refl (fun _ _ => False) w369).trans k375
      refine Shut.out hK _ _ f376 (fun _ => ?_)
      clear hK K
      try simp only [Act.put, List.setIfInBounds_toArray, List.set_cons_zero, List.set_cons_succ]
      refine wpAnyH_take (i := 3) (v := ?_) rfl (by kernel_rfl) (by kernel_rfl) (by kernel_rfl) (fun _ _ _ h => h) (Or.inl ⟨by kernel_rfl, ?_⟩) f376 ?_
      rotate_left 1
      · intro w9 hF9
        go_simp
        try with_reducible rfl
      try simp only [Act.put, List.setIfInBounds_toArray, List.set_cons_zero, List.set_cons_succ]
      refine wpAnyH_take (i := 4) (v := ?_) rfl (by kernel_rfl) (by kernel_rfl) (by kernel_rfl) (fun _ _ _ h => h) (Or.inl ⟨by kernel_rfl, ?_⟩) f376 ?_
      rotate_left 1
      · intro w9 hF9
        go_simp
        try with_reducible rfl
      try simp only [Act.put, List.setIfInBounds_toArray, List.set_cons_zero, List.set_cons_succ]
      refine wpAnyH_take (i := 5) (v := ?_) rfl (by kernel_rfl) (by kernel_rfl) (by kernel_rfl) (fun _ _ _ h => h) (Or.inl ⟨by kernel_rfl, ?_⟩) f376 ?_
      rotate_left 1
      · intro w9 hF9
        go_simp
        try with_reducible rfl
      try simp only [Act.put, List.setIfInBounds_toArray, List.set_cons_zero, List.set_cons_succ]
      obtain ⟨z0, z1, z2, z3, _⟩ := res2' h326.symm f377 (fun o q => q)
      obtain ⟨y0, y1, y2, y3, _⟩ := res2' h363.symm f378 (fun o q => q)
      have hne : ¬ wd.heap.size = w325.heap.size := by omega
      have hne2 : ¬ w325.heap.size = wd.heap.size := by omega
      obtain ⟨t0, t1, t2, t3, t4⟩ := two_nums hne z0 z1 y0 y1 (.bool yq) (.slice qa qm qc) (.bool yr) (.slice ra rm rc)
      have S1 := (f376.setCell wd.heap.size 0 (.bool yq) (fun q => by omega)).setCell wd.heap.size 1 (.slice qa qm qc) (fun q => by omega)
      have S2 := (S1.setCell w325.heap.size 0 (.bool yr) (fun q => by omega)).setCell w325.heap.size 1 (.slice ra rm rc) (fun q => by omega)
      refine wpAnyH_ready (rs := [8]) (by kernel_rfl) (by simp) ?_
      refine AllReadyH.cons rfl (fun K hK => ?_) AllReadyH.nil
      go_simp
      refine Shut.out hK _ _ S1 (fun _ => ?_)
      clear hK K
      try simp only [Act.put, List.setIfInBounds_toArray, List.set_cons_zero, List.set_cons_succ]
      refine wpAnyH_ready (rs := [9]) (by kernel_rfl) (by simp) ?_
      refine AllReadyH.cons rfl (fun K hK => ?_) AllReadyH.nil
      go_simp
      refine Shut.out hK _ _ S2 (fun _ => ?_)
      clear hK K
      try simp only [Act.put, List.setIfInBounds_toArray, List.set_cons_zero, List.set_cons_succ]
      refine wpAnyH_done (by kernel_rfl) ?_ _
      exact HN.out _ _ _ _ _ _ _ _ _ ⟨ra, rm, rc, t2, t3, hr.1, t4 (hr.2.fr (Fr.refl (fun _ _ => False) w374) (fun _ _ _ q => q))⟩ S2
  · have g383 := hfd.size
    obtain ⟨w380, h381⟩ : ∃ x, wd.alloc (.cells #[.bool false, .slice none 0 0] 30) = x := ⟨_, rfl⟩
    have k382 : Fr (fun _ _ => False) wd w380 := by rw [← h381]; exact (Fr.refl _ wd).alloc _
    go_simp
    try rw [h381]
    have f384 := hfd.trans k382
    refine Shut.out hK _ _ f384 (fun _ => ?_)
    clear hK K
    try simp only [Act.put, List.setIfInBounds_toArray, List.set_cons_zero, List.set_cons_succ]
    refine wpAnyH_ready (rs := [1, 6]) (by kernel_rfl) (by simp) ?_
    refine AllReadyH.cons rfl (fun K hK => ?_) (AllReadyH.cons rfl (fun K hK => ?_) AllReadyH.nil)
    · go_simp
      go_must (refine (HT.out _ f384).mono ?_; rintro e1 w385 ⟨b, mb, cb, rfl, HQ, k386⟩)
      have f387 := f384.trans k386
      have f388 := (Fr.refl (fun _ _ => False) w380).trans k386
      refine Shut.out hK _ _ f387 (fun _ => ?_)
      clear hK K
      try simp only [Act.put, List.setIfInBounds_toArray, List.set_cons_zero, List.set_cons_succ]
      refine wpAnyH_ready (rs := [2, 6]) (by kernel_rfl) (by simp) ?_
      refine AllReadyH.cons rfl (fun K hK => ?_) (AllReadyH.cons rfl (fun K hK => ?_) AllReadyH.nil)
      · go_simp
        go_must (refine (HQ.out _ (Fr.refl (fun _ _ => False) w385)).mono ?_; rintro e1 w389 ⟨qa, qm, qc, ra, rm, rc, rfl, hr, k390⟩)
        have f391 := f387.trans k390
        have f392 := f388.trans k390
        have f393 := (Fr.refl (fun _ _ => False) w385).trans k390
        refine Shut.out hK _ _ f391 (fun _ => ?_)
        clear hK K
        try simp only [Act.put, List.setIfInBounds_toArray, List.set_cons_zero, List.set_cons_succ]
        refine wpAnyH_take (i := 3) (v := ?_) rfl (by kernel_rfl) (by kernel_rfl) (by kernel_rfl) (fun _ _ _ h => h) (Or.inl ⟨by kernel_rfl, ?_⟩) f391 ?_
        rotate_left 1
        · intro w9 hF9
          go_simp
          try with_reducible rfl
        try simp only [Act.put, List.setIfInBounds_toArray, List.set_cons_zero, List.set_cons_succ]
        refine wpAnyH_take (i := 4) (v := ?_) rfl (by kernel_rfl) (by kernel_rfl) (by kernel_rfl) (fun _ _ _ h => h) (Or.inl ⟨by kernel_rfl, ?_⟩) f391 ?_
        rotate_left 1
        · intro w9 hF9
          go_simp
          try with_reducible rfl
        try simp only [Act.put, List.setIfInBounds_toArray, List.set_cons_zero, List.set_cons_succ]
        refine wpAnyH_take (i := 5) (v := ?_) rfl (by kernel_rfl) (by kernel_rfl) (by kernel_rfl) (fun _ _ _ h => h) (Or.inl ⟨by kernel_rfl, ?_⟩) f391 ?_
        rotate_left 1
        · intro w9 hF9
          go_simp
          try with_reducible rfl
        try simp only [Act.put, List.setIfInBounds_toArray, List.set_cons_zero, List.set_cons_succ]
        refine wpAnyH_ready (rs := [6]) (by kernel_rfl) (by simp) ?_
        refine AllReadyH.cons rfl (fun K hK => ?_) AllReadyH.nil
        have g397 := f391.size
        have n398 : wd.heap.size < w389.heap.size := by have e1 := f392.size; have e2 : w380.heap.size = wd.heap.size + 1 := (by rw [← h381]; simp); omega
        obtain ⟨w394, h395⟩ : ∃ x, w389.alloc (.cells #[.bool false, .slice none 0 0] 30) = x := ⟨_, rfl⟩
        have k396 : Fr (fun _ _ => False) w389 w394 := by rw [← h395]; exact (Fr.refl _ w389).alloc _
        go_simp
        try rw [h395]
        have f399 := f391.trans k396
        have f400 := f392.trans k396
        have f401 := f393.trans k396
        have f402 := (Fr.refl (fun _ _ => False) w389).trans k396
        refine Shut.out hK _ _ f399 (fun _ => ?_)
        clear hK K
        try simp only [Act.put, List.setIfInBounds_toArray, List.set_cons_zero, List.set_cons_succ]
        obtain ⟨z0, z1, z2, z3, _⟩ := res2' h395.symm (Fr.refl (fun _ _ => False) w394) (fun o q => q)
        obtain ⟨y0, y1, y2, y3, _⟩ := res2' h381.symm f400 (fun o q => q)
        have hne : ¬ w389.heap.size = wd.heap.size := by omega
        have hne2 : ¬ wd.heap.size = w389.heap.size := by omega
        obtain ⟨t0, t1, t2, t3, t4⟩ := two_nums hne z0 z1 y0 y1 (.bool yq) (.slice qa qm qc) (.bool yr) (.slice ra rm rc)
        have S1 := (f399.setCell w389.heap.size 0 (.bool yq) (fun q => by omega)).setCell w389.heap.size 1 (.slice qa qm qc) (fun q => by omega)
        have S2 := (S1.setCell wd.heap.size 0 (.bool yr) (fun q => by omega)).setCell wd.heap.size 1 (.slice ra rm rc) (fun q => by omega)
        refine wpAnyH_ready (rs := [8]) (by kernel_rfl) (by simp) ?_
        refine AllReadyH.cons rfl (fun K hK => ?_) AllReadyH.nil
        go_simp
        refine Shut.out hK _ _ S1 (fun _ => ?_)
        clear hK K
        try simp only [Act.put, List.setIfInBounds_toArray, List.set_cons_zero, List.set_cons_succ]
        refine wpAnyH_ready (rs := [9]) (by kernel_rfl) (by simp) ?_
        refine AllReadyH.cons rfl (fun K hK => ?_) AllReadyH.nil
        go_simp
        refine Shut.out hK _ _ S2 (fun _ => ?_)
        clear hK K
        try simp only [Act.put, List.setIfInBounds_toArray, List.set_cons_zero, List.set_cons_succ]
        refine wpAnyH_done (by kernel_rfl) ?_ _
        exact HN.out _ _ _ _ _ _ _ _ _ ⟨ra, rm, rc, t2, t3, hr.1, t4 (hr.2.fr f402 (fun _ _ _ q => q))⟩ S2
      · have g406 := f387.size
        have n407 : wd.heap.size < w385.heap.size := by have e1 := f388.size; have e2 : w380.heap.size = wd.heap.size + 1 := (by rw [← h381]; simp); omega
        obtain ⟨w403, h404⟩ : ∃ x, w385.alloc (.cells #[.bool false, .slice none 0 0] 30) = x := ⟨_, rfl⟩
        have k405 : Fr (fun _ _ => False) w385 w403 := by rw [← h404]; exact (Fr.refl _ w385).alloc _
        go_simp
        try rw [h404]
        have f408 := f387.trans k405
        have f409 := f388.trans k405
        have f410 := (Fr.refl (fun _ _ => False) w385).trans k405
        refine Shut.out hK _ _ f408 (fun _ => ?_)
        clear hK K
        try simp only [Act.put, List.setIfInBounds_toArray, List.set_cons_zero, List.set_cons_succ]
        refine wpAnyH_ready (rs := [2]) (by kernel_rfl) (by simp) ?_
        refine AllReadyH.cons rfl (fun K hK => ?_) AllReadyH.nil
        go_simp
        go_must (refine (HQ.out _ f410).mono ?_; rintro e1 w411 ⟨qa, qm, qc, ra, rm, rc, rfl, hr, k412⟩)
        have f413 := f408.trans k412
        have f414 := f409.trans k412
        have f415 := f410.trans k412
        have f416 := (Fr.refl (fun _ _ => False) w403).trans k412
        refine Shut.out hK _ _ f413 (fun _ => ?_)
        clear hK K
        try simp only [Act.put, List.setIfInBounds_toArray, List.set_cons_zero, List.set_cons_succ]
        refine wpAnyH_take (i := 3) (v := ?_) rfl (by kernel_rfl) (by kernel_rfl) (by kernel_rfl) (fun _ _ _ h => h) (Or.inl ⟨by kernel_rfl, ?_⟩) f413 ?_
        rotate_left 1
        · intro w9 hF9
          go_simp
          try with_reducible rfl
        try simp only [Act.put, List.setIfInBounds_toArray, List.set_cons_zero, List.set_cons_succ]
        refine wpAnyH_take (i := 4) (v := ?_) rfl (by kernel_rfl) (by kernel_rfl) (by kernel_rfl) (fun _ _ _ h => h) (Or.inl ⟨by kernel_rfl, ?_⟩) f413 ?_
        rotate_left 1
        · intro w9 hF9
          go_simp
          try with_reducible rfl
        try simp only [Act.put, List.setIfInBounds_toArray, List.set_cons_zero, List.set_cons_succ]
        refine wpAnyH_take (i := 5) (v := ?_) rfl (by kernel_rfl) (by kernel_rfl) (by kernel_rfl) (fun _ _ _ h => h) (Or.inl ⟨by kernel_rfl, ?_⟩) f413 ?_
        rotate_left 1
        · intro w9 hF9
          go_simp
          try with_reducible rfl
        try simp only [Act.put, List.setIfInBounds_toArray, List.set_cons_zero, List.set_cons_succ]
        obtain ⟨z0, z1, z2, z3, _⟩ := res2' h404.symm f416 (fun o q => q)
        obtain ⟨y0, y1, y2, y3, _⟩ := res2' h381.symm f414 (fun o q => q)
        have hne : ¬ w385.heap.size = wd.heap.size := by omega
        have hne2 : ¬ wd.heap.size = w385.heap.size := by omega
        obtain ⟨t0, t1, t2, t3, t4⟩ := two_nums hne z0 z1 y0 y1 (.bool yq) (.slice qa qm qc) (.bool yr) (.slice ra rm rc)
        have S1 := (f413.setCell w385.heap.size 0 (.bool yq) (fun q => by omega)).setCell w385.heap.size 1 (.slice qa qm qc) (fun q => by omega)
        have S2 := (S1.setCell wd.heap.size 0 (.bool yr) (fun q => by omega)).setCell wd.heap.size 1 (.slice ra rm rc) (fun q => by omega)
        refine wpAnyH_ready (rs := [8]) (by kernel_rfl) (by simp) ?_
        refine AllReadyH.cons rfl (fun K hK => ?_) AllReadyH.nil
        go_simp
        refine Shut.out hK _ _ S1 (fun _ => ?_)
        clear hK K
        try simp only [Act.put, List.setIfInBounds_toArray, List.set_cons_zero, List.set_cons_succ]
        refine wpAnyH_ready (rs := [9]) (by kernel_rfl) (by simp) ?_
        refine AllReadyH.cons rfl (fun K hK => ?_) AllReadyH.nil
        go_simp
        refine Shut.out hK _ _ S2 (fun _ => ?_)
        clear hK K
        try simp only [Act.put, List.setIfInBounds_toArray, List.set_cons_zero, List.set_cons_succ]
        refine wpAnyH_done (by kernel_rfl) ?_ _
        exact HN.out _ _ _ _ _ _ _ _ _ ⟨ra, rm, rc, t2, t3, hr.1, t4 (hr.2.fr (Fr.refl (fun _ _ => False) w411) (fun _ _ _ q => q))⟩ S2
    · have g420 := f384.size
      have n421 : wd.heap.size < w380.heap.size := by have e1 := (Fr.refl (fun _ _ => False) w380).size; have e2 : w380.heap.size = wd.heap.size + 1 := (by rw [← h381]; simp); omega
      obtain ⟨w417, h418⟩ : ∃ x, w380.alloc (.cells #[.bool false, .slice none 0 0] 30) = x := ⟨_, rfl⟩
      have k419 : Fr (fun _ _ => False) w380 w417 := by rw [← h418]; exact (Fr.refl _ w380).alloc _
      go_simp
      try rw [h418]
      have f422 := f384.trans k419
      have f423 := (Fr.refl (fun _ _ => False) w380).trans k419
      refine Shut.out hK _ _ f422 (fun _ => ?_)
      clear hK K
      try simp only [Act.put, List.setIfInBounds_toArray, List.set_cons_zero, List.set_cons_succ]
      refine wpAnyH_ready (rs := [1]) (by kernel_rfl) (by simp) ?_
      refine AllReadyH.cons rfl (fun K hK => ?_) AllReadyH.nil
      go_simp
      go_must (refine (HT.out _ f422).mono ?_; rintro e1 w424 ⟨b, mb, cb, rfl, HQ, k425⟩)
      have f426 := f422.trans k425
      have f427 := f423.trans k425
      have f428 := (Fr.refl (fun _ _ => False) w417).trans k425
      refine Shut.out hK _ _ f426 (fun _ => ?_)
      clear hK K
      try simp only [Act.put, List.setIfInBounds_toArray, List.set_cons_zero, List.set_cons_succ]
      refine wpAnyH_ready (rs := [2]) (by kernel_rfl) (by simp) ?_
      refine AllReadyH.cons rfl (fun K hK => ?_) AllReadyH.nil
      go_simp
      go_must (refine (HQ.out _ (Fr.refl (fun _ _ => False) w424)).mono ?_; rintro e1 w429 ⟨qa, qm, qc, ra, rm, rc, rfl, hr, k430⟩)
      have f431 := f426.trans k430
      have f432 := f427.trans k430
      have f433 := f428.trans k430
      have f434 := (Fr.refl (fun _ _ => False) w424).trans k430
      refine Shut.out hK _ _ f431 (fun _ => ?_)
      clear hK K
      try simp only [Act.put, List.setIfInBounds_toArray, List.set_cons_zero, List.set_cons_succ]
      refine wpAnyH_take (i := 3) (v := ?_) rfl (by kernel_rfl) (by kernel_rfl) (by kernel_rfl) (fun _ _ _ h => h) (Or.inl ⟨by kernel_rfl, ?_⟩) f431 ?_
      rotate_left 1
      · intro w9 hF9
        go_simp
        try with_reducible rfl
      try simp only [Act.put, List.setIfInBounds_toArray, List.set_cons_zero, List.set_cons_succ]
      refine wpAnyH_take (i := 4) (v := ?_) rfl (by kernel_rfl) (by kernel_rfl) (by kernel_rfl) (fun _ _ _ h => h) (Or.inl ⟨by kernel_rfl, ?_⟩) f431 ?_
      rotate_left 1
      · intro w9 hF9
        go_simp
        try with_reducible rfl
      try simp only [Act.put, List.setIfInBounds_toArray, List.set_cons_zero, List.set_cons_succ]
      refine wpAnyH_take (i := 5) (v := ?_) rfl (by kernel_rfl) (by kernel_rfl) (by kernel_rfl) (fun _ _ _ h => h) (Or.inl ⟨by kernel_rfl, ?_⟩) f431 ?_
      rotate_left 1
      · intro w9 hF9
        go_simp
        try with_reducible rfl
      try simp only [Act.put, List.setIfInBounds_toArray, List.set_cons_zero, List.set_cons_succ]
      obtain ⟨z0, z1, z2, z3, _⟩ := res2' h418.symm f433 (fun o q => q)
      obtain ⟨y0, y1, y2, y3, _⟩ := res2' h381.symm f432 (fun o q => q)
      have hne : ¬ w380.heap.size = wd.heap.size := by omega
      have hne2 : ¬ wd.heap.size = w380.heap.size := by omega
      obtain ⟨t0, t1, t2, t3, t4⟩ := two_nums hne z0 z1 y0 y1 (.bool yq) (.slice qa qm qc) (.bool yr) (.slice ra rm rc)
      have S1 := (f431.setCell w380.heap.size 0 (.bool yq) (fun q => by omega)).setCell w380.heap.size 1 (.slice qa qm qc) (fun q => by omega)
      have S2 := (S1.setCell wd.heap.size 0 (.bool yr) (fun q => by omega)).setCell wd.heap.size 1 (.slice ra rm rc) (fun q => by omega)
      refine wpAnyH_ready (rs := [8]) (by kernel_rfl) (by simp) ?_
      refine AllReadyH.cons rfl (fun K hK => ?_) AllReadyH.nil
      go_simp
      refine Shut.out hK _ _ S1 (fun _ => ?_)
      clear hK K
      try simp only [Act.put, List.setIfInBounds_toArray, List.set_cons_zero, List.set_cons_succ]
      refine wpAnyH_ready (rs := [9]) (by kernel_rfl) (by simp) ?_
      refine AllReadyH.cons rfl (fun K hK => ?_) AllReadyH.nil
      go_simp
      refine Shut.out hK _ _ S2 (fun _ => ?_)
      clear hK K
      try simp only [Act.put, List.setIfInBounds_toArray, List.set_cons_zero, List.set_cons_succ]
      refine wpAnyH_done (by kernel_rfl) ?_ _
      exact HN.out _ _ _ _ _ _ _ _ _ ⟨ra, rm, rc, t2, t3, hr.1, t4 (hr.2.fr (Fr.refl (fun _ _ => False) w429) (fun _ _ _ q => q))⟩ S2
set_option maxRecDepth 100000 in
set_option maxHeartbeats 8000000 in
theorem mr12 {c : Code} (hc : c = mdc 12) {pd p7 p8 p10 mX cX mY cY mR cR : Nat} {aX aY aR : Option Addr} {sX sY sR n : Bool} {e : Int} {s : ByteArray} {w : World} (HD : Aside (D4 w pd 0 n e s))
    (l7 : p7 < w.heap.size) (x0 : w.cell? ⟨p7, 0, none⟩ = some (.bool sX)) (x1 : w.cell? ⟨p7, 1, none⟩ = some (.slice aX mX cX)) (l8 : p8 < w.heap.size) (y0 : w.cell? ⟨p8, 0, none⟩ = some (.bool sY)) (y1 : w.cell? ⟨p8, 1, none⟩ = some (.slice aY mY cY))
    (l10 : p10 < w.heap.size) (r0 : w.cell? ⟨p10, 0, none⟩ = some (.bool sR)) (r1 : w.cell? ⟨p10, 1, none⟩ = some (.slice aR mR cR))
    (H0 : Hid (∀ w1, Fr (fun _ _ => False) w w1 → Calls Tryz.prog 10 #[] w1 fun e1 w2 => e1 = .returned (.bool true) ∧ Fr (fun _ _ => False) w1 w2))
    (HZ : Hid (∀ w1, Fr (fun _ _ => False) w w1 → Calls Tryz.prog 16 #[.agg #[.bool sR, .slice aR mR cR]] w1 fun e1 w2 => e1 = .returned (.bool true) ∧ Fr (fun _ _ => False) w1 w2))
    (HC : Hid (∀ w1, Fr (fun _ _ => False) w w1 → Calls Tryz.prog 17 #[.agg #[.bool sY, .slice aY mY cY]] w1 fun e1 w2 => ∃ b1 b2 b3 b4, e1 = .returned (.agg #[.bool b1, .slice b2 b3 b4]) ∧
      Hid (∀ w3, Fr (fun _ _ => False) w2 w3 → Calls Tryz.prog 15 #[.int .i64 2500] w3 fun e1 w4 => ∃ c1 c2 c3 c4, e1 = .returned (.agg #[.bool c1, .slice c2 c3 c4]) ∧
      Hid (∀ w5, Fr (fun _ _ => False) w4 w5 → Calls Tryz.prog 18 #[.agg #[.bool b1, .slice b2 b3 b4], .agg #[.bool c1, .slice c2 c3 c4]] w5 fun e1 w6 => e1 = .returned (.int .i64 (-1)) ∧ Fr (fun _ _ => False) w5 w6) ∧ Fr (fun _ _ => False) w3 w4) ∧ Fr (fun _ _ => False) w1 w2))
    (HS : Hid (∀ w1, Fr (fun _ _ => False) w w1 → Calls Tryz.prog 19 #[.agg #[.bool sX, .slice aX mX cX], .agg #[.bool sY, .slice aY mY cY]] w1 fun e1 w2 => ∃ b1 b2 b3 b4, e1 = .returned (.agg #[.bool b1, .slice b2 b3 b4]) ∧
      Hid (∀ w3, Fr (fun _ _ => False) w2 w3 → Calls Tryz.prog 12 #[.agg #[.int .i64 0, .bool n, .int .i32 e, .string s]] w3 fun e1 w4 => ∃ c1 c2 c3 c4, e1 = .returned (.agg #[.bool c1, .slice c2 c3 c4]) ∧
      Hid (∀ w5, Fr (fun _ _ => False) w4 w5 → Calls Tryz.prog 18 #[.agg #[.bool b1, .slice b2 b3 b4], .agg #[.bool c1, .slice c2 c3 c4]] w5 fun e1 w6 => e1 = .returned (.int .i64 0) ∧ Fr (fun _ _ => False) w5 w6) ∧ Fr (fun _ _ => False) w3 w4) ∧ Fr (fun _ _ => False) w1 w2))
    (u0 u2 u3 u4 u5 u6 u9 u11 u12 u13 u14 u15 u16 u17 u18 u19 u20 u21 u22 u23 u24 u25 u26 u27 u28 u29 u30 u31 u32 u33 u34 u35 u36 u37 u38 u39 u40 u41 u42 u43 u44 u45 u46 u47 u48 u49 u50 u51 u52 u53 u54 u55 u56 u57 u58 u59 u60 u61 u62 u63 u64 u65 u66 u67 u68 u69 u70 u71 u72 u73 u74 u75 u76 u77 u78 u79 u80 u81 u82 u83 u84 u85 u86 u87 u88 u89 u90 u91 u92 u93 u94 u95 u96 u97 u98 u99 u100 u101 u102 u103 u104 u105 u106 u107 u108 u109 u110 u111 u112 u113 u114 u115 u116 u117 u118 u119 u120 u121 u122 u123 u124 u125 : Value) (N : Act → World → Prop)
    (HN : Aside (∀ (v105 v106 v107 v108 v109 v110 v111 v112 v113 v114 v115 v116 v117 v118 v119 v120 v121 v122 v123 v124 v125 : Value) (W : World), Fr (fun _ _ => False) w W → N ⟨#[u0, .pointer (some ⟨pd, 0, none⟩), .bool true, u3, u4, u5, u6, .pointer (some ⟨p7, 0, none⟩), .pointer (some ⟨p8, 0, none⟩), u9, .pointer (some ⟨p10, 0, none⟩), u11, u12, u13, u14, u15, u16, u17, u18, u19, u20, u21, u22, u23, u24, u25, u26, u27, u28, u29, u30, u31, u32, u33, u34, u35, u36, u37, u38, u39, u40, u41, u42, u43, u44, u45, u46, u47, u48, u49, u50, u51, u52, u53, u54, u55, u56, u57, u58, u59, u60, u61, u62, u63, u64, u65, u66, u67, u68, u69, u70, u71, u72, u73, u74, u75, u76, u77, u78, u79, u80, u81, u82, u83, u84, u85, u86, u87, u88, u89, u90, u91, u92, u93, u94, u95, u96, u97, u98, u99, u100, u101, u102, u103, u104, v105, v106, v107, v108, v109, v110, v111, v112, v113, v114, v115, v116, v117, v118, v119, v120, v121, v122, v123, v124, v125], []⟩ W)) :
    Code.wp Tryz.prog c (QN N) ⟨#[u0, .pointer (some ⟨pd, 0, none⟩), u2, u3, u4, u5, u6, .pointer (some ⟨p7, 0, none⟩), .pointer (some ⟨p8, 0, none⟩), u9, .pointer (some ⟨p10, 0, none⟩), u11, u12, u13, u14, u15, u16, u17, u18, u19, u20, u21, u22, u23, u24, u25, u26, u27, u28, u29, u30, u31, u32, u33, u34, u35, u36, u37, u38, u39, u40, u41, u42, u43, u44, u45, u46, u47, u48, u49, u50, u51, u52, u53, u54, u55, u56, u57, u58, u59, u60, u61, u62, u63, u64, u65, u66, u67, u68, u69, u70, u71, u72, u73, u74, u75, u76, u77, u78, u79, u80, u81, u82, u83, u84, u85, u86, u87, u88, u89, u90, u91, u92, u93, u94, u95, u96, u97, u98, u99, u100, u101, u102, u103, u104, u105, u106, u107, u108, u109, u110, u111, u112, u113, u114, u115, u116, u117, u118, u119, u120, u121, u122, u123, u124, u125], []⟩ w := by
  subst hc
  conv => arg 2; whnf
  refine wp_region_held (S := (fun w9 => Fr (fun _ _ => False) w w9)) (by kernel_rfl) ?_
  change wpAnyH _ _ _ _ _ _ _ _ (World.drew _)
  have hfd : Fr (fun _ _ => False) w w.drew := (Fr.refl _ w).drew
  generalize w.drew = wd at hfd ⊢
  refine wpAnyH_ready (rs := [0]) (by kernel_rfl) (by simp) ?_
  refine AllReadyH.cons rfl (fun K hK => ?_) AllReadyH.nil
  go_simp
  go_must (refine (H0.out _ hfd).mono ?_; rintro e1 w435 ⟨rfl, k436⟩)
  have f437 := hfd.trans k436
  refine Shut.out hK _ _ f437 (fun _ => ?_)
  clear hK K
  try simp only [Act.put, List.setIfInBounds_toArray, List.set_cons_zero, List.set_cons_succ]
  refine wpAnyH_take (i := 1) (v := ?_) rfl (by kernel_rfl) (by kernel_rfl) (by kernel_rfl) (fun _ _ _ h => h) (Or.inl ⟨by kernel_rfl, ?_⟩) f437 ?_
  rotate_left 1
  · intro w9 hF9
    go_simp
    try with_reducible rfl
  try simp only [Act.put, List.setIfInBounds_toArray, List.set_cons_zero, List.set_cons_succ]
  refine wpAnyH_take (i := 2) (v := ?_) rfl (by kernel_rfl) (by kernel_rfl) (by kernel_rfl) (fun _ _ _ h => h) (Or.inl ⟨by kernel_rfl, ?_⟩) f437 ?_
  rotate_left 1
  · intro w9 hF9
    have q0 := (hF9.cell p10 0 l10 (fun q => q)).trans r0
    have q1 := (hF9.cell p10 1 l10 (fun q => q)).trans r1
    go_simp
    try with_reducible rfl
  try simp only [Act.put, List.setIfInBounds_toArray, List.set_cons_zero, List.set_cons_succ]
  refine wpAnyH_ready (rs := [3]) (by kernel_rfl) (by simp) ?_
  refine AllReadyH.cons rfl (fun K hK => ?_) AllReadyH.nil
  go_simp
  go_must (refine (HZ.out _ f437).mono ?_; rintro e1 w438 ⟨rfl, k439⟩)
  have f440 := f437.trans k439
  refine Shut.out hK _ _ f440 (fun _ => ?_)
  clear hK K
  try simp only [Act.put, List.setIfInBounds_toArray, List.set_cons_zero, List.set_cons_succ]
  refine wpAnyH_take (i := 4) (v := ?_) rfl (by kernel_rfl) (by kernel_rfl) (by kernel_rfl) (fun _ _ _ h => h) (Or.inl ⟨by kernel_rfl, ?_⟩) f440 ?_
  rotate_left 1
  · intro w9 hF9
    go_simp
    try with_reducible rfl
  try simp only [Act.put, List.setIfInBounds_toArray, List.set_cons_zero, List.set_cons_succ]
  refine wpAnyH_take (i := 5) (v := ?_) rfl (by kernel_rfl) (by kernel_rfl) (by kernel_rfl) (fun _ _ _ h => h) (Or.inl ⟨by kernel_rfl, ?_⟩) f440 ?_
  rotate_left 1
  · intro w9 hF9
    go_simp
    try with_reducible rfl
  try simp only [Act.put, List.setIfInBounds_toArray, List.set_cons_zero, List.set_cons_succ]
  refine wpAnyH_take (i := 6) (v := ?_) rfl (by kernel_rfl) (by kernel_rfl) (by kernel_rfl) (fun _ _ _ h => h) (Or.inl ⟨by kernel_rfl, ?_⟩) f440 ?_
  rotate_left 1
  · intro w9 hF9
    have q0 := (hF9.cell p8 0 l8 (fun q => q)).trans y0
    have q1 := (hF9.cell p8 1 l8 (fun q => q)).trans y1
    go_simp
    try with_reducible rfl
  try simp only [Act.put, List.setIfInBounds_toArray, List.set_cons_zero, List.set_cons_succ]
  refine wpAnyH_ready (rs := [7]) (by kernel_rfl) (by simp) ?_
  refine AllReadyH.cons rfl (fun K hK => ?_) AllReadyH.nil
  go_simp
  go_must (refine (HC.out _ f440).mono ?_; rintro e1 w441 ⟨b1, b2, b3, b4, rfl, HC2, k442⟩)
  have f443 := f440.trans k442
  refine Shut.out hK _ _ f443 (fun _ => ?_)
  clear hK K
  try simp only [Act.put, List.setIfInBounds_toArray, List.set_cons_zero, List.set_cons_succ]
  refine wpAnyH_ready (rs := [8]) (by kernel_rfl) (by simp) ?_
  refine AllReadyH.cons rfl (fun K hK => ?_) AllReadyH.nil
  go_simp
  go_must (refine (HC2.out _ (Fr.refl (fun _ _ => False) w441)).mono ?_; rintro e1 w444 ⟨c1, c2, c3, c4, rfl, HC3, k445⟩)
  have f446 := f443.trans k445
  have f447 := (Fr.refl (fun _ _ => False) w441).trans k445
  refine Shut.out hK _ _ f446 (fun _ => ?_)
  clear hK K
  try simp only [Act.put, List.setIfInBounds_toArray, List.set_cons_zero, List.set_cons_succ]
  refine wpAnyH_ready (rs := [9]) (by kernel_rfl) (by simp) ?_
  refine AllReadyH.cons rfl (fun K hK => ?_) AllReadyH.nil
  go_simp
  go_must (refine (HC3.out _ (Fr.refl (fun _ _ => False) w444)).mono ?_; rintro e1 w448 ⟨rfl, k449⟩)
  have f450 := f446.trans k449
  have f451 := f447.trans k449
  have f452 := (Fr.refl (fun _ _ => False) w444).trans k449
  refine Shut.out hK _ _ f450 (fun _ => ?_)
  clear hK K
  try simp only [Act.put, List.setIfInBounds_toArray, List.set_cons_zero, List.set_cons_succ]
  refine wpAnyH_take (i := 10) (v := ?_) rfl (by kernel_rfl) (by kernel_rfl) (by kernel_rfl) (fun _ _ _ h => h) (Or.inl ⟨by kernel_rfl, ?_⟩) f450 ?_
  rotate_left 1
  · intro w9 hF9
    go_simp
    try with_reducible rfl
  try simp only [Act.put, List.setIfInBounds_toArray, List.set_cons_zero, List.set_cons_succ]
  refine wpAnyH_take (i := 11) (v := ?_) rfl (by kernel_rfl) (by kernel_rfl) (by kernel_rfl) (fun _ _ _ h => h) (Or.inl ⟨by kernel_rfl, ?_⟩) f450 ?_
  rotate_left 1
  · intro w9 hF9
    go_simp
    try with_reducible rfl
  try simp only [Act.put, List.setIfInBounds_toArray, List.set_cons_zero, List.set_cons_succ]
  refine wpAnyH_take (i := 12) (v := ?_) rfl (by kernel_rfl) (by kernel_rfl) (by kernel_rfl) (fun _ _ _ h => h) (Or.inl ⟨by kernel_rfl, ?_⟩) f450 ?_
  rotate_left 1
  · intro w9 hF9
    go_simp
    try with_reducible rfl
  try simp only [Act.put, List.setIfInBounds_toArray, List.set_cons_zero, List.set_cons_succ]
  refine wpAnyH_take (i := 13) (v := ?_) rfl (by kernel_rfl) (by kernel_rfl) (by kernel_rfl) (fun _ _ _ h => h) (Or.inl ⟨by kernel_rfl, ?_⟩) f450 ?_
  rotate_left 1
  · intro w9 hF9
    have q0 := (hF9.cell p7 0 l7 (fun q => q)).trans x0
    have q1 := (hF9.cell p7 1 l7 (fun q => q)).trans x1
    go_simp
    try with_reducible rfl
  try simp only [Act.put, List.setIfInBounds_toArray, List.set_cons_zero, List.set_cons_succ]
  refine wpAnyH_take (i := 14) (v := ?_) rfl (by kernel_rfl) (by kernel_rfl) (by kernel_rfl) (fun _ _ _ h => h) (Or.inl ⟨by kernel_rfl, ?_⟩) f450 ?_
  rotate_left 1
  · intro w9 hF9
    have q0 := (hF9.cell p8 0 l8 (fun q => q)).trans y0
    have q1 := (hF9.cell p8 1 l8 (fun q => q)).trans y1
    go_simp
    try with_reducible rfl
  try simp only [Act.put, List.setIfInBounds_toArray, List.set_cons_zero, List.set_cons_succ]
  refine wpAnyH_take (i := 16) (v := ?_) rfl (by kernel_rfl) (by kernel_rfl) (by kernel_rfl) (fun _ _ _ h => h) (Or.inl ⟨by kernel_rfl, ?_⟩) f450 ?_
  rotate_left 1
  · intro w9 hF9
    obtain ⟨d0, d1, d2, d3, _⟩ := E8.of (HD.out.fr hF9 (fun _ q => q))
    go_simp
    try with_reducible rfl
  try simp only [Act.put, List.setIfInBounds_toArray, List.set_cons_zero, List.set_cons_succ]
  refine wpAnyH_ready (rs := [15]) (by kernel_rfl) (by simp) ?_
  refine AllReadyH.cons rfl (fun K hK => ?_) AllReadyH.nil
  go_simp
  go_must (refine (HS.out _ f450).mono ?_; rintro e1 w453 ⟨b5, b6, b7, b8, rfl, HS2, k454⟩)
  have f455 := f450.trans k454
  have f456 := f451.trans k454
  have f457 := f452.trans k454
  refine Shut.out hK _ _ f455 (fun _ => ?_)
  clear hK K
  try simp only [Act.put, List.setIfInBounds_toArray, List.set_cons_zero, List.set_cons_succ]
  refine wpAnyH_ready (rs := [17]) (by kernel_rfl) (by simp) ?_
  refine AllReadyH.cons rfl (fun K hK => ?_) AllReadyH.nil
  go_simp
  go_must (refine (HS2.out _ (Fr.refl (fun _ _ => False) w453)).mono ?_; rintro e1 w458 ⟨c5, c6, c7, c8, rfl, HS3, k459⟩)
  have f460 := f455.trans k459
  have f461 := f456.trans k459
  have f462 := f457.trans k459
  have f463 := (Fr.refl (fun _ _ => False) w453).trans k459
  refine Shut.out hK _ _ f460 (fun _ => ?_)
  clear hK K
  try simp only [Act.put, List.setIfInBounds_toArray, List.set_cons_zero, List.set_cons_succ]
  refine wpAnyH_ready (rs := [18]) (by kernel_rfl) (by simp) ?_
  refine AllReadyH.cons rfl (fun K hK => ?_) AllReadyH.nil
  go_simp
  go_must (refine (HS3.out _ (Fr.refl (fun _ _ => False) w458)).mono ?_; rintro e1 w464 ⟨rfl, k465⟩)
  have f466 := f460.trans k465
  have f467 := f461.trans k465
  have f468 := f462.trans k465
  have f469 := f463.trans k465
  have f470 := (Fr.refl (fun _ _ => False) w458).trans k465
  refine Shut.out hK _ _ f466 (fun _ => ?_)
  clear hK K
  try simp only [Act.put, List.setIfInBounds_toArray, List.set_cons_zero, List.set_cons_succ]
  refine wpAnyH_take (i := 19) (v := ?_) rfl (by kernel_rfl) (by kernel_rfl) (by kernel_rfl) (fun _ _ _ h => h) (Or.inl ⟨by kernel_rfl, ?_⟩) f466 ?_
  rotate_left 1
  · intro w9 hF9
    go_simp
    try with_reducible rfl
  try simp only [Act.put, List.setIfInBounds_toArray, List.set_cons_zero, List.set_cons_succ]
  refine wpAnyH_take (i := 20) (v := ?_) rfl (by kernel_rfl) (by kernel_rfl) (by kernel_rfl) (fun _ _ _ h => h) (Or.inl ⟨by kernel_rfl, ?_⟩) f466 ?_
  rotate_left 1
  · intro w9 hF9
    go_simp
    try with_reducible rfl
  try simp only [Act.put, List.setIfInBounds_toArray, List.set_cons_zero, List.set_cons_succ]
  refine wpAnyH_ready (rs := [21]) (by kernel_rfl) (by simp) ?_
  refine AllReadyH.cons rfl (fun K hK => ?_) AllReadyH.nil
  go_simp
  refine Shut.out hK _ _ f466 (fun _ => ?_)
  clear hK K
  try simp only [Act.put, List.setIfInBounds_toArray, List.set_cons_zero, List.set_cons_succ]
  refine wpAnyH_done (by kernel_rfl) ?_ _
  exact HN.out _ _ _ _ _ _ _ _ _ _ _ _ _ _ _ _ _ _ _ _ _ _ f466
end Go.Proofs.YtfhnkcdlphfbpaaGreatDoor
