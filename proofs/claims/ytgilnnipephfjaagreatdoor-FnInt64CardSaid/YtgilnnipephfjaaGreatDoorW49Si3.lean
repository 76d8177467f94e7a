/- The reference's Zero. The drawn region of spec.Integer: a division by ten. The reference's numbers: Of with its sign, Small. spec.Integer. -/
import Derived.Test.YtgilnnipephfjaaGreatDoorT46SA2
import Derived.Test.YtgilnnipephfjaaGreatDoorT47SA4
import Derived.Test.YtgilnnipephfjaaGreatDoorS35Quo1
import Derived.Test.YtgilnnipephfjaaGreatDoorT44SN7
import Derived.Test.YtgilnnipephfjaaGreatDoorW44In3
import Derived.Test.YtgilnnipephfjaaGreatDoorT43SN4
import Derived.Test.YtgilnnipephfjaaGreatDoorM33Eql
set_option linter.unusedSimpArgs false
set_option linter.unusedVariables false
namespace Go.Proofs.YtgilnnipephfjaaGreatDoor
open Go.RowKit

theorem len_zero {w : World} {a : Option Addr} {n c X : Nat} (h : Bf w a n c (dlow X)) : ((n : Int) == 0) = decide (X = 0) := by
  have hl := h.len
  by_cases hx : X = 0
  · have := dlow_nil.2 hx
    obtain rfl : n = 0 := by omega
    simp [hx]
  · have : (dlow X).length ≠ 0 := fun q => hx (dlow_nil.1 q)
    simp [hx]; omega
set_option maxRecDepth 100000 in
theorem zero_any {w : World} {a : Option Addr} {n c X : Nat} (s : Bool) (h : Bf w a n c (dlow X)) :
    Calls Tryz.prog 33 #[.agg #[.bool s, .slice a n c]] w fun e1 w' => e1 = .returned (.bool (decide (X = 0))) ∧ Fr (fun _ _ => False) w w' := by
  have hq := len_zero h
  obtain ⟨b, hb⟩ : ∃ b, decide (X = 0) = b := ⟨_, rfl⟩
  rw [hb] at hq ⊢
  have F := Aside.mk ((Fr.refl (fun _ _ => False) w).alloc (.cells #[.bool s, .slice a n c] 45))
  clear h hb
  go_enter Tryz.func33, Tryz.ntmps33
  go_wp2_with fail
  go_ret
  exact ⟨rfl, F.out⟩
end Go.Proofs.YtgilnnipephfjaaGreatDoor
namespace Go.Proofs.YtgilnnipephfjaaGreatDoor
open Go.RowKit

noncomputable def sic (n : Nat) : Code := ((Tryz.f12.body.bind (rgOf n)).getD .skip)
/-- A number of the reference's in a box of its own. -/
def NumIn (W : World) (p : Nat) (s : Bool) (V : Nat) : Prop := ∃ a m c, W.cell? ⟨p, 0, none⟩ = some (.bool s) ∧ W.cell? ⟨p, 1, none⟩ = some (.slice a m c) ∧ m ≤ 14000 ∧ Bf W a m c (dlow V)
theorem NumIn.fr {w w' : World} {p : Nat} {s : Bool} {V : Nat} (h : NumIn w p s V) (f : Fr (fun _ _ => False) w w') : NumIn w' p s V := by
  obtain ⟨a, m, c, h0, h1, h2, h3⟩ := h
  have hl := World.block_lt_of_cell? w _ h0
  exact ⟨a, m, c, (f.cell p 0 hl (fun q => q)).trans h0, (f.cell p 1 hl (fun q => q)).trans h1, h2, h3.fr f (fun _ _ _ q => q)⟩
set_option maxRecDepth 100000 in
set_option maxHeartbeats 8000000 in
theorem sr7 {c : Code} (hc : c = sic 7) {p7 mX cX Q R : Nat} {aX : Option Addr} {sX yq yr : Bool} {w : World} (hlt : p7 < w.heap.size) (x0 : w.cell? ⟨p7, 0, none⟩ = some (.bool sX)) (x1 : w.cell? ⟨p7, 1, none⟩ = some (.slice aX mX cX))
    (HT : Hid (∀ w1, Fr (fun _ _ => False) w w1 → Calls Tryz.prog 35 #[.int .i64 10] w1 fun e1 w2 => ∃ bs b mb cb, e1 = .returned (.agg #[.bool bs, .slice b mb cb]) ∧
      Hid (∀ w3, Fr (fun _ _ => False) w2 w3 → Calls Tryz.prog 34 #[.agg #[.bool sX, .slice aX mX cX], .agg #[.bool bs, .slice b mb cb]] w3 fun e1 w4 => ∃ qa qm qc ra rm rc, e1 = .returned (.tuple #[.agg #[.bool yq, .slice qa qm qc], .agg #[.bool yr, .slice ra rm rc]]) ∧ (qm ≤ 14000 ∧ rm ≤ 14000 ∧ Bf w4 qa qm qc (dlow Q) ∧ Bf w4 ra rm rc (dlow R)) ∧ Fr (fun _ _ => False) w3 w4) ∧ Fr (fun _ _ => False) w1 w2))
    (u0 u1 u2 u3 u5 u6 u7 u8 u9 u10 u11 u12 u13 u14 u15 u16 u17 u18 u19 u20 u21 u22 u23 u24 u25 u26 u27 u28 u29 u30 u31 u32 u33 u34 u35 u36 u37 u38 u39 u40 u41 u42 u43 u44 u45 u46 u47 : Value) (N : Act → World → Prop)
    (HN : Aside (∀ (p9 p10 : Nat) (v25 v26 v27 v24 v28 v29 : Value) (W : World), NumIn W p9 yq Q → NumIn W p10 yr R → w.heap.size ≤ p9 → w.heap.size ≤ p10 → Fr (fun _ _ => False) w W → N ⟨#[u0, u1, u2, u3, .pointer (some ⟨p7, 0, none⟩), u5, u6, .pointer (some ⟨p9, 0, none⟩), .pointer (some ⟨p10, 0, none⟩), u9, u10, u11, u12, u13, u14, u15, u16, u17, u18, u19, u20, u21, u22, u23, v24, v25, v26, v27, v28, v29, u30, u31, u32, u33, u34, u35, u36, u37, u38, u39, u40, u41, u42, u43, u44, u45, u46, u47], []⟩ W)) :
    Code.wp Tryz.prog c (QN N) ⟨#[u0, u1, u2, u3, .pointer (some ⟨p7, 0, none⟩), u5, u6, u7, u8, u9, u10, u11, u12, u13, u14, u15, u16, u17, u18, u19, u20, u21, u22, u23, u24, u25, u26, u27, u28, u29, u30, u31, u32, u33, u34, u35, u36, u37, u38, u39, u40, u41, u42, u43, u44, u45, u46, u47], []⟩ w := by
  subst hc
  conv => arg 2; whnf
  refine wp_region_held (S := (fun w9 => Fr (fun _ _ => False) w w9)) (by kernel_rfl) ?_
  change wpAnyH _ _ _ _ _ _ _ _ (World.drew _)
  have hfd : Fr (fun _ _ => False) w w.drew := (Fr.refl _ w).drew
  generalize w.drew = wd at hfd ⊢
  refine wpAnyH_take (i := 0) (v := ?_) rfl (by kernel_rfl) (by kernel_rfl) (by kernel_rfl) (fun _ _ _ h => h) (Or.inl ⟨by kernel_rfl, ?_⟩) hfd ?_
  rotate_left 1
  · intro w9 hF9
    have d0 := (hF9.cell p7 0 hlt (fun q => q)).trans x0
    have d1 := (hF9.cell p7 1 hlt (fun q => q)).trans x1
    go_simp
    try with_reducible rfl
  try simp only [Act.put, List.setIfInBounds_toArray, List.set_cons_zero, List.set_cons_succ]
  refine wpAnyH_ready (rs := [1, 6, 7]) (by kernel_rfl) (by simp) ?_
  refine AllReadyH.cons rfl (fun K hK => ?_) (AllReadyH.cons rfl (fun K hK => ?_) (AllReadyH.cons rfl (fun K hK => ?_) AllReadyH.nil))
  · go_simp
    go_must (refine (HT.out _ hfd).mono ?_; rintro e1 w1 ⟨bs, b, mb, cb, rfl, HQ, k2⟩)
    have f3 := hfd.trans k2
    refine Shut.out hK _ _ f3 (fun _ => ?_)
    clear hK K
    try simp only [Act.put, List.setIfInBounds_toArray, List.set_cons_zero, List.set_cons_succ]
    refine wpAnyH_ready (rs := [2, 6, 7]) (by kernel_rfl) (by simp) ?_
    refine AllReadyH.cons rfl (fun K hK => ?_) (AllReadyH.cons rfl (fun K hK => ?_) (AllReadyH.cons rfl (fun K hK => ?_) AllReadyH.nil))
    · go_simp
      go_must (refine (HQ.out _ (Fr.refl (fun _ _ => False) w1)).mono ?_; rintro e1 w4 ⟨qa, qm, qc, ra, rm, rc, rfl, hr, k5⟩)
      have f6 := f3.trans k5
      have f7 := (Fr.refl (fun _ _ => False) w1).trans k5
      refine Shut.out hK _ _ f6 (fun _ => ?_)
      clear hK K
      try simp only [Act.put, List.setIfInBounds_toArray, List.set_cons_zero, List.set_cons_succ]
      refine wpAnyH_take (i := 3) (v := ?_) rfl (by kernel_rfl) (by kernel_rfl) (by kernel_rfl) (fun _ _ _ h => h) (Or.inl ⟨by kernel_rfl, ?_⟩) f6 ?_
      rotate_left 1
      · intro w9 hF9
        go_simp
        try with_reducible rfl
      try simp only [Act.put, List.setIfInBounds_toArray, List.set_cons_zero, List.set_cons_succ]
      refine wpAnyH_take (i := 4) (v := ?_) rfl (by kernel_rfl) (by kernel_rfl) (by kernel_rfl) (fun _ _ _ h => h) (Or.inl ⟨by kernel_rfl, ?_⟩) f6 ?_
      rotate_left 1
      · intro w9 hF9
        go_simp
        try with_reducible rfl
      try simp only [Act.put, List.setIfInBounds_toArray, List.set_cons_zero, List.set_cons_succ]
      refine wpAnyH_take (i := 5) (v := ?_) rfl (by kernel_rfl) (by kernel_rfl) (by kernel_rfl) (fun _ _ _ h => h) (Or.inl ⟨by kernel_rfl, ?_⟩) f6 ?_
      rotate_left 1
      · intro w9 hF9
        go_simp
        try with_reducible rfl
      try simp only [Act.put, List.setIfInBounds_toArray, List.set_cons_zero, List.set_cons_succ]
      refine wpAnyH_ready (rs := [6, 7]) (by kernel_rfl) (by simp) ?_
      refine AllReadyH.cons rfl (fun K hK => ?_) (AllReadyH.cons rfl (fun K hK => ?_) AllReadyH.nil)
      · have g11 := f6.size
        obtain ⟨w8, h9⟩ : ∃ x, w4.alloc (.cells #[.bool false, .slice none 0 0] 45) = x := ⟨_, rfl⟩
        have k10 : Fr (fun _ _ => False) w4 w8 := by rw [← h9]; exact (Fr.refl _ w4).alloc _
        go_simp
        try rw [h9]
        have f12 := f6.trans k10
        have f13 := f7.trans k10
        have f14 := (Fr.refl (fun _ _ => False) w4).trans k10
        refine Shut.out hK _ _ f12 (fun _ => ?_)
        clear hK K
        try simp only [Act.put, List.setIfInBounds_toArray, List.set_cons_zero, List.set_cons_succ]
        refine wpAnyH_ready (rs := [7]) (by kernel_rfl) (by simp) ?_
        refine AllReadyH.cons rfl (fun K hK => ?_) AllReadyH.nil
        have g18 := f12.size
        have n19 : w4.heap.size < w8.heap.size := by have e1 := (Fr.refl (fun _ _ => False) w8).size; have e2 : w8.heap.size = w4.heap.size + 1 := (by rw [← h9]; simp); omega
        obtain ⟨w15, h16⟩ : ∃ x, w8.alloc (.cells #[.bool false, .slice none 0 0] 45) = x := ⟨_, rfl⟩
        have k17 : Fr (fun _ _ => False) w8 w15 := by rw [← h16]; exact (Fr.refl _ w8).alloc _
        go_simp
        try rw [h16]
        have f20 := f12.trans k17
        have f21 := f13.trans k17
        have f22 := f14.trans k17
        have f23 := (Fr.refl (fun _ _ => False) w8).trans k17
        refine Shut.out hK _ _ f20 (fun _ => ?_)
        clear hK K
        try simp only [Act.put, List.setIfInBounds_toArray, List.set_cons_zero, List.set_cons_succ]
        obtain ⟨z0, z1, z2, z3, _⟩ := res2' h9.symm f23 (fun o q => q)
        obtain ⟨y0, y1, y2, y3, _⟩ := res2' h16.symm (Fr.refl (fun _ _ => False) w15) (fun o q => q)
        have hne : ¬ w4.heap.size = w8.heap.size := by omega
        have hne2 : ¬ w8.heap.size = w4.heap.size := by omega
        obtain ⟨t0, t1, t2, t3, t4⟩ := two_nums hne z0 z1 y0 y1 (.bool yq) (.slice qa qm qc) (.bool yr) (.slice ra rm rc)
        have S1 := (f20.setCell w4.heap.size 0 (.bool yq) (fun q => by omega)).setCell w4.heap.size 1 (.slice qa qm qc) (fun q => by omega)
        have S2 := (S1.setCell w8.heap.size 0 (.bool yr) (fun q => by omega)).setCell w8.heap.size 1 (.slice ra rm rc) (fun q => by omega)
        refine wpAnyH_ready (rs := [8]) (by kernel_rfl) (by simp) ?_
        refine AllReadyH.cons rfl (fun K hK => ?_) AllReadyH.nil
        go_simp
        refine Shut.out hK _ _ S1 (fun _ => ?_)
        clear hK K
        try simp only [Act.put, List.setIfInBounds_toArray, List.set_cons_zero, List.set_cons_succ]
        refine wpAnyH_ready (rs := [9]) (by kernel_rfl) (by simp) ?_
        refine AllReadyH.cons rfl (fun K hK => ?_) AllReadyH.nil
        go_simp
        refine Shut.out hK _ _ S2 (fun _ => ?_)
        clear hK K
        try simp only [Act.put, List.setIfInBounds_toArray, List.set_cons_zero, List.set_cons_succ]
        refine wpAnyH_done (by kernel_rfl) ?_ _
        exact HN.out _ _ _ _ _ _ _ _ _ ⟨qa, qm, qc, t0, t1, hr.1, t4 (hr.2.2.1.fr f22 (fun _ _ _ q => q))⟩ ⟨ra, rm, rc, t2, t3, hr.2.1, t4 (hr.2.2.2.fr f22 (fun _ _ _ q => q))⟩ (by omega) (by omega) S2
      · have g27 := f6.size
        obtain ⟨w24, h25⟩ : ∃ x, w4.alloc (.cells #[.bool false, .slice none 0 0] 45) = x := ⟨_, rfl⟩
        have k26 : Fr (fun _ _ => False) w4 w24 := by rw [← h25]; exact (Fr.refl _ w4).alloc _
        go_simp
        try rw [h25]
        have f28 := f6.trans k26
        have f29 := f7.trans k26
        have f30 := (Fr.refl (fun _ _ => False) w4).trans k26
        refine Shut.out hK _ _ f28 (fun _ => ?_)
        clear hK K
        try simp only [Act.put, List.setIfInBounds_toArray, List.set_cons_zero, List.set_cons_succ]
        refine wpAnyH_ready (rs := [6]) (by kernel_rfl) (by simp) ?_
        refine AllReadyH.cons rfl (fun K hK => ?_) AllReadyH.nil
        have g34 := f28.size
        have n35 : w4.heap.size < w24.heap.size := by have e1 := (Fr.refl (fun _ _ => False) w24).size; have e2 : w24.heap.size = w4.heap.size + 1 := (by rw [← h25]; simp); omega
        obtain ⟨w31, h32⟩ : ∃ x, w24.alloc (.cells #[.bool false, .slice none 0 0] 45) = x := ⟨_, rfl⟩
        have k33 : Fr (fun _ _ => False) w24 w31 := by rw [← h32]; exact (Fr.refl _ w24).alloc _
        go_simp
        try rw [h32]
        have f36 := f28.trans k33
        have f37 := f29.trans k33
        have f38 := f30.trans k33
        have f39 := (Fr.refl (fun _ _ => False) w24).trans k33
        refine Shut.out hK _ _ f36 (fun _ => ?_)
        clear hK K
        try simp only [Act.put, List.setIfInBounds_toArray, List.set_cons_zero, List.set_cons_succ]
        obtain ⟨z0, z1, z2, z3, _⟩ := res2' h32.symm (Fr.refl (fun _ _ => False) w31) (fun o q => q)
        obtain ⟨y0, y1, y2, y3, _⟩ := res2' h25.symm f39 (fun o q => q)
        have hne : ¬ w24.heap.size = w4.heap.size := by omega
        have hne2 : ¬ w4.heap.size = w24.heap.size := by omega
        obtain ⟨t0, t1, t2, t3, t4⟩ := two_nums hne z0 z1 y0 y1 (.bool yq) (.slice qa qm qc) (.bool yr) (.slice ra rm rc)
        have S1 := (f36.setCell w24.heap.size 0 (.bool yq) (fun q => by omega)).setCell w24.heap.size 1 (.slice qa qm qc) (fun q => by omega)
        have S2 := (S1.setCell w4.heap.size 0 (.bool yr) (fun q => by omega)).setCell w4.heap.size 1 (.slice ra rm rc) (fun q => by omega)
        refine wpAnyH_ready (rs := [8]) (by kernel_rfl) (by simp) ?_
        refine AllReadyH.cons rfl (fun K hK => ?_) AllReadyH.nil
        go_simp
        refine Shut.out hK _ _ S1 (fun _ => ?_)
        clear hK K
        try simp only [Act.put, List.setIfInBounds_toArray, List.set_cons_zero, List.set_cons_succ]
        refine wpAnyH_ready (rs := [9]) (by kernel_rfl) (by simp) ?_
        refine AllReadyH.cons rfl (fun K hK => ?_) AllReadyH.nil
        go_simp
        refine Shut.out hK _ _ S2 (fun _ => ?_)
        clear hK K
        try simp only [Act.put, List.setIfInBounds_toArray, List.set_cons_zero, List.set_cons_succ]
        refine wpAnyH_done (by kernel_rfl) ?_ _
        exact HN.out _ _ _ _ _ _ _ _ _ ⟨qa, qm, qc, t0, t1, hr.1, t4 (hr.2.2.1.fr f38 (fun _ _ _ q => q))⟩ ⟨ra, rm, rc, t2, t3, hr.2.1, t4 (hr.2.2.2.fr f38 (fun _ _ _ q => q))⟩ (by omega) (by omega) S2
    · have g43 := f3.size
      obtain ⟨w40, h41⟩ : ∃ x, w1.alloc (.cells #[.bool false, .slice none 0 0] 45) = x := ⟨_, rfl⟩
      have k42 : Fr (fun _ _ => False) w1 w40 := by rw [← h41]; exact (Fr.refl _ w1).alloc _
      go_simp
      try rw [h41]
      have f44 := f3.trans k42
      have f45 := (Fr.refl (fun _ _ => False) w1).trans k42
      refine Shut.out hK _ _ f44 (fun _ => ?_)
      clear hK K
      try simp only [Act.put, List.setIfInBounds_toArray, List.set_cons_zero, List.set_cons_succ]
      refine wpAnyH_ready (rs := [2, 7]) (by kernel_rfl) (by simp) ?_
      refine AllReadyH.cons rfl (fun K hK => ?_) (AllReadyH.cons rfl (fun K hK => ?_) AllReadyH.nil)
      · go_simp
        go_must (refine (HQ.out _ f45).mono ?_; rintro e1 w46 ⟨qa, qm, qc, ra, rm, rc, rfl, hr, k47⟩)
        have f48 := f44.trans k47
        have f49 := f45.trans k47
        have f50 := (Fr.refl (fun _ _ => False) w40).trans k47
        refine Shut.out hK _ _ f48 (fun _ => ?_)
        clear hK K
        try simp only [Act.put, List.setIfInBounds_toArray, List.set_cons_zero, List.set_cons_succ]
        refine wpAnyH_take (i := 3) (v := ?_) rfl (by kernel_rfl) (by kernel_rfl) (by kernel_rfl) (fun _ _ _ h => h) (Or.inl ⟨by kernel_rfl, ?_⟩) f48 ?_
        rotate_left 1
        · intro w9 hF9
          go_simp
          try with_reducible rfl
        try simp only [Act.put, List.setIfInBounds_toArray, List.set_cons_zero, List.set_cons_succ]
        refine wpAnyH_take (i := 4) (v := ?_) rfl (by kernel_rfl) (by kernel_rfl) (by kernel_rfl) (fun _ _ _ h => h) (Or.inl ⟨by kernel_rfl, ?_⟩) f48 ?_
        rotate_left 1
        · intro w9 hF9
          go_simp
          try with_reducible rfl
        try simp only [Act.put, List.setIfInBounds_toArray, List.set_cons_zero, List.set_cons_succ]
        refine wpAnyH_take (i := 5) (v := ?_) rfl (by kernel_rfl) (by kernel_rfl) (by kernel_rfl) (fun _ _ _ h => h) (Or.inl ⟨by kernel_rfl, ?_⟩) f48 ?_
        rotate_left 1
        · intro w9 hF9
          go_simp
          try with_reducible rfl
        try simp only [Act.put, List.setIfInBounds_toArray, List.set_cons_zero, List.set_cons_succ]
        refine wpAnyH_ready (rs := [7]) (by kernel_rfl) (by simp) ?_
        refine AllReadyH.cons rfl (fun K hK => ?_) AllReadyH.nil
        have g54 := f48.size
        have n55 : w1.heap.size < w46.heap.size := by have e1 := f50.size; have e2 : w40.heap.size = w1.heap.size + 1 := (by rw [← h41]; simp); omega
        obtain ⟨w51, h52⟩ : ∃ x, w46.alloc (.cells #[.bool false, .slice none 0 0] 45) = x := ⟨_, rfl⟩
        have k53 : Fr (fun _ _ => False) w46 w51 := by rw [← h52]; exact (Fr.refl _ w46).alloc _
        go_simp
        try rw [h52]
        have f56 := f48.trans k53
        have f57 := f49.trans k53
        have f58 := f50.trans k53
        have f59 := (Fr.refl (fun _ _ => False) w46).trans k53
        refine Shut.out hK _ _ f56 (fun _ => ?_)
        clear hK K
        try simp only [Act.put, List.setIfInBounds_toArray, List.set_cons_zero, List.set_cons_succ]
        obtain ⟨z0, z1, z2, z3, _⟩ := res2' h41.symm f58 (fun o q => q)
        obtain ⟨y0, y1, y2, y3, _⟩ := res2' h52.symm (Fr.refl (fun _ _ => False) w51) (fun o q => q)
        have hne : ¬ w1.heap.size = w46.heap.size := by omega
        have hne2 : ¬ w46.heap.size = w1.heap.size := by omega
        obtain ⟨t0, t1, t2, t3, t4⟩ := two_nums hne z0 z1 y0 y1 (.bool yq) (.slice qa qm qc) (.bool yr) (.slice ra rm rc)
        have S1 := (f56.setCell w1.heap.size 0 (.bool yq) (fun q => by omega)).setCell w1.heap.size 1 (.slice qa qm qc) (fun q => by omega)
        have S2 := (S1.setCell w46.heap.size 0 (.bool yr) (fun q => by omega)).setCell w46.heap.size 1 (.slice ra rm rc) (fun q => by omega)
        refine wpAnyH_ready (rs := [8]) (by kernel_rfl) (by simp) ?_
        refine AllReadyH.cons rfl (fun K hK => ?_) AllReadyH.nil
        go_simp
        refine Shut.out hK _ _ S1 (fun _ => ?_)
        clear hK K
        try simp only [Act.put, List.setIfInBounds_toArray, List.set_cons_zero, List.set_cons_succ]
        refine wpAnyH_ready (rs := [9]) (by kernel_rfl) (by simp) ?_
        refine AllReadyH.cons rfl (fun K hK => ?_) AllReadyH.nil
        go_simp
        refine Shut.out hK _ _ S2 (fun _ => ?_)
        clear hK K
        try simp only [Act.put, List.setIfInBounds_toArray, List.set_cons_zero, List.set_cons_succ]
        refine wpAnyH_done (by kernel_rfl) ?_ _
        exact HN.out _ _ _ _ _ _ _ _ _ ⟨qa, qm, qc, t0, t1, hr.1, t4 (hr.2.2.1.fr f59 (fun _ _ _ q => q))⟩ ⟨ra, rm, rc, t2, t3, hr.2.1, t4 (hr.2.2.2.fr f59 (fun _ _ _ q => q))⟩ (by omega) (by omega) S2
      · have g63 := f44.size
        have n64 : w1.heap.size < w40.heap.size := by have e1 := (Fr.refl (fun _ _ => False) w40).size; have e2 : w40.heap.size = w1.heap.size + 1 := (by rw [← h41]; simp); omega
        obtain ⟨w60, h61⟩ : ∃ x, w40.alloc (.cells #[.bool false, .slice none 0 0] 45) = x := ⟨_, rfl⟩
        have k62 : Fr (fun _ _ => False) w40 w60 := by rw [← h61]; exact (Fr.refl _ w40).alloc _
        go_simp
        try rw [h61]
        have f65 := f44.trans k62
        have f66 := f45.trans k62
        have f67 := (Fr.refl (fun _ _ => False) w40).trans k62
        refine Shut.out hK _ _ f65 (fun _ => ?_)
        clear hK K
        try simp only [Act.put, List.setIfInBounds_toArray, List.set_cons_zero, List.set_cons_succ]
        refine wpAnyH_ready (rs := [2]) (by kernel_rfl) (by simp) ?_
        refine AllReadyH.cons rfl (fun K hK => ?_) AllReadyH.nil
        go_simp
        go_must (refine (HQ.out _ f66).mono ?_; rintro e1 w68 ⟨qa, qm, qc, ra, rm, rc, rfl, hr, k69⟩)
        have f70 := f65.trans k69
        have f71 := f66.trans k69
        have f72 := f67.trans k69
        have f73 := (Fr.refl (fun _ _ => False) w60).trans k69
        refine Shut.out hK _ _ f70 (fun _ => ?_)
        clear hK K
        try simp only [Act.put, List.setIfInBounds_toArray, List.set_cons_zero, List.set_cons_succ]
        refine wpAnyH_take (i := 3) (v := ?_) rfl (by kernel_rfl) (by kernel_rfl) (by kernel_rfl) (fun _ _ _ h => h) (Or.inl ⟨by kernel_rfl, ?_⟩) f70 ?_
        rotate_left 1
        · intro w9 hF9
          go_simp
          try with_reducible rfl
        try simp only [Act.put, List.setIfInBounds_toArray, List.set_cons_zero, List.set_cons_succ]
        refine wpAnyH_take (i := 4) (v := ?_) rfl (by kernel_rfl) (by kernel_rfl) (by kernel_rfl) (fun _ _ _ h => h) (Or.inl ⟨by kernel_rfl, ?_⟩) f70 ?_
        rotate_left 1
        · intro w9 hF9
          go_simp
          try with_reducible rfl
        try simp only [Act.put, List.setIfInBounds_toArray, List.set_cons_zero, List.set_cons_succ]
        refine wpAnyH_take (i := 5) (v := ?_) rfl (by kernel_rfl) (by kernel_rfl) (by kernel_rfl) (fun _ _ _ h => h) (Or.inl ⟨by kernel_rfl, ?_⟩) f70 ?_
        rotate_left 1
        · intro w9 hF9
          go_simp
          try with_reducible rfl
        try simp only [Act.put, List.setIfInBounds_toArray, List.set_cons_zero, List.set_cons_succ]
        obtain ⟨z0, z1, z2, z3, _⟩ := res2' h41.symm f72 (fun o q => q)
        obtain ⟨y0, y1, y2, y3, _⟩ := res2' h61.symm f73 (fun o q => q)
        have hne : ¬ w1.heap.size = w40.heap.size := by omega
        have hne2 : ¬ w40.heap.size = w1.heap.size := by omega
        obtain ⟨t0, t1, t2, t3, t4⟩ := two_nums hne z0 z1 y0 y1 (.bool yq) (.slice qa qm qc) (.bool yr) (.slice ra rm rc)
        have S1 := (f70.setCell w1.heap.size 0 (.bool yq) (fun q => by omega)).setCell w1.heap.size 1 (.slice qa qm qc) (fun q => by omega)
        have S2 := (S1.setCell w40.heap.size 0 (.bool yr) (fun q => by omega)).setCell w40.heap.size 1 (.slice ra rm rc) (fun q => by omega)
        refine wpAnyH_ready (rs := [8]) (by kernel_rfl) (by simp) ?_
        refine AllReadyH.cons rfl (fun K hK => ?_) AllReadyH.nil
        go_simp
        refine Shut.out hK _ _ S1 (fun _ => ?_)
        clear hK K
        try simp only [Act.put, List.setIfInBounds_toArray, List.set_cons_zero, List.set_cons_succ]
        refine wpAnyH_ready (rs := [9]) (by kernel_rfl) (by simp) ?_
        refine AllReadyH.cons rfl (fun K hK => ?_) AllReadyH.nil
        go_simp
        refine Shut.out hK _ _ S2 (fun _ => ?_)
        clear hK K
        try simp only [Act.put, List.setIfInBounds_toArray, List.set_cons_zero, List.set_cons_succ]
        refine wpAnyH_done (by kernel_rfl) ?_ _
        exact HN.out _ _ _ _ _ _ _ _ _ ⟨qa, qm, qc, t0, t1, hr.1, t4 (hr.2.2.1.fr (Fr.refl (fun _ _ => False) w68) (fun _ _ _ q => q))⟩ ⟨ra, rm, rc, t2, t3, hr.2.1, t4 (hr.2.2.2.fr (Fr.refl (fun _ _ => False) w68) (fun _ _ _ q => q))⟩ (by omega) (by omega) S2
    · have g77 := f3.size
      obtain ⟨w74, h75⟩ : ∃ x, w1.alloc (.cells #[.bool false, .slice none 0 0] 45) = x := ⟨_, rfl⟩
      have k76 : Fr (fun _ _ => False) w1 w74 := by rw [← h75]; exact (Fr.refl _ w1).alloc _
      go_simp
      try rw [h75]
      have f78 := f3.trans k76
      have f79 := (Fr.refl (fun _ _ => False) w1).trans k76
      refine Shut.out hK _ _ f78 (fun _ => ?_)
      clear hK K
      try simp only [Act.put, List.setIfInBounds_toArray, List.set_cons_zero, List.set_cons_succ]
      refine wpAnyH_ready (rs := [2, 6]) (by kernel_rfl) (by simp) ?_
      refine AllReadyH.cons rfl (fun K hK => ?_) (AllReadyH.cons rfl (fun K hK => ?_) AllReadyH.nil)
      · go_simp
        go_must (refine (HQ.out _ f79).mono ?_; rintro e1 w80 ⟨qa, qm, qc, ra, rm, rc, rfl, hr, k81⟩)
        have f82 := f78.trans k81
        have f83 := f79.trans k81
        have f84 := (Fr.refl (fun _ _ => False) w74).trans k81
        refine Shut.out hK _ _ f82 (fun _ => ?_)
        clear hK K
        try simp only [Act.put, List.setIfInBounds_toArray, List.set_cons_zero, List.set_cons_succ]
        refine wpAnyH_take (i := 3) (v := ?_) rfl (by kernel_rfl) (by kernel_rfl) (by kernel_rfl) (fun _ _ _ h => h) (Or.inl ⟨by kernel_rfl, ?_⟩) f82 ?_
        rotate_left 1
        · intro w9 hF9
          go_simp
          try with_reducible rfl
        try simp only [Act.put, List.setIfInBounds_toArray, List.set_cons_zero, List.set_cons_succ]
        refine wpAnyH_take (i := 4) (v := ?_) rfl (by kernel_rfl) (by kernel_rfl) (by kernel_rfl) (fun _ _ _ h => h) (Or.inl ⟨by kernel_rfl, ?_⟩) f82 ?_
        rotate_left 1
        · intro w9 hF9
          go_simp
          try with_reducible rfl
        try simp only [Act.put, List.setIfInBounds_toArray, List.set_cons_zero, List.set_cons_succ]
        refine wpAnyH_take (i := 5) (v := ?_) rfl (by kernel_rfl) (by kernel_rfl) (by kernel_rfl) (fun _ _ _ h => h) (Or.inl ⟨by kernel_rfl, ?_⟩) f82 ?_
        rotate_left 1
        · intro w9 hF9
          go_simp
          try with_reducible rfl
        try simp only [Act.put, List.setIfInBounds_toArray, List.set_cons_zero, List.set_cons_succ]
        refine wpAnyH_ready (rs := [6]) (by kernel_rfl) (by simp) ?_
        refine AllReadyH.cons rfl (fun K hK => ?_) AllReadyH.nil
        have g88 := f82.size
        have n89 : w1.heap.size < w80.heap.size := by have e1 := f84.size; have e2 : w74.heap.size = w1.heap.size + 1 := (by rw [← h75]; simp); omega
        obtain ⟨w85, h86⟩ : ∃ x, w80.alloc (.cells #[.bool false, .slice none 0 0] 45) = x := ⟨_, rfl⟩
        have k87 : Fr (fun _ _ => False) w80 w85 := by rw [← h86]; exact (Fr.refl _ w80).alloc _
        go_simp
        try rw [h86]
        have f90 := f82.trans k87
        have f91 := f83.trans k87
        have f92 := f84.trans k87
        have f93 := (Fr.refl (fun _ _ => False) w80).trans k87
        refine Shut.out hK _ _ f90 (fun _ => ?_)
        clear hK K
        try simp only [Act.put, List.setIfInBounds_toArray, List.set_cons_zero, List.set_cons_succ]
        obtain ⟨z0, z1, z2, z3, _⟩ := res2' h86.symm (Fr.refl (fun _ _ => False) w85) (fun o q => q)
        obtain ⟨y0, y1, y2, y3, _⟩ := res2' h75.symm f92 (fun o q => q)
        have hne : ¬ w80.heap.size = w1.heap.size := by omega
        have hne2 : ¬ w1.heap.size = w80.heap.size := by omega
        obtain ⟨t0, t1, t2, t3, t4⟩ := two_nums hne z0 z1 y0 y1 (.bool yq) (.slice qa qm qc) (.bool yr) (.slice ra rm rc)
        have S1 := (f90.setCell w80.heap.size 0 (.bool yq) (fun q => by omega)).setCell w80.heap.size 1 (.slice qa qm qc) (fun q => by omega)
        have S2 := (S1.setCell w1.heap.size 0 (.bool yr) (fun q => by omega)).setCell w1.heap.size 1 (.slice ra rm rc) (fun q => by omega)
        refine wpAnyH_ready (rs := [8]) (by kernel_rfl) (by simp) ?_
        refine AllReadyH.cons rfl (fun K hK => ?_) AllReadyH.nil
        go_simp
        refine Shut.out hK _ _ S1 (fun _ => ?_)
        clear hK K
        try simp only [Act.put, List.setIfInBounds_toArray, List.set_cons_zero, List.set_cons_succ]
        refine wpAnyH_ready (rs := [9]) (by kernel_rfl) (by simp) ?_
        refine AllReadyH.cons rfl (fun K hK => ?_) AllReadyH.nil
        go_simp
        refine Shut.out hK _ _ S2 (fun _ => ?_)
        clear hK K
        try simp only [Act.put, List.setIfInBounds_toArray, List.set_cons_zero, List.set_cons_succ]
        refine wpAnyH_done (by kernel_rfl) ?_ _
        exact HN.out _ _ _ _ _ _ _ _ _ ⟨qa, qm, qc, t0, t1, hr.1, t4 (hr.2.2.1.fr f93 (fun _ _ _ q => q))⟩ ⟨ra, rm, rc, t2, t3, hr.2.1, t4 (hr.2.2.2.fr f93 (fun _ _ _ q => q))⟩ (by omega) (by omega) S2
      · have g97 := f78.size
        have n98 : w1.heap.size < w74.heap.size := by have e1 := (Fr.refl (fun _ _ => False) w74).size; have e2 : w74.heap.size = w1.heap.size + 1 := (by rw [← h75]; simp); omega
        obtain ⟨w94, h95⟩ : ∃ x, w74.alloc (.cells #[.bool false, .slice none 0 0] 45) = x := ⟨_, rfl⟩
        have k96 : Fr (fun _ _ => False) w74 w94 := by rw [← h95]; exact (Fr.refl _ w74).alloc _
        go_simp
        try rw [h95]
        have f99 := f78.trans k96
        have f100 := f79.trans k96
        have f101 := (Fr.refl (fun _ _ => False) w74).trans k96
        refine Shut.out hK _ _ f99 (fun _ => ?_)
        clear hK K
        try simp only [Act.put, List.setIfInBounds_toArray, List.set_cons_zero, List.set_cons_succ]
        refine wpAnyH_ready (rs := [2]) (by kernel_rfl) (by simp) ?_
        refine AllReadyH.cons rfl (fun K hK => ?_) AllReadyH.nil
        go_simp
        go_must (refine (HQ.out _ f100).mono ?_; rintro e1 w102 ⟨qa, qm, qc, ra, rm, rc, rfl, hr, k103⟩)
        have f104 := f99.trans k103
        have f105 := f100.trans k103
        have f106 := f101.trans k103
        have f107 := (Fr.refl (fun _ _ => False) w94).trans k103
        refine Shut.out hK _ _ f104 (fun _ => ?_)
        clear hK K
        try simp only [Act.put, List.setIfInBounds_toArray, List.set_cons_zero, List.set_cons_succ]
        refine wpAnyH_take (i := 3) (v := ?_) rfl (by kernel_rfl) (by kernel_rfl) (by kernel_rfl) (fun _ _ _ h => h) (Or.inl ⟨by kernel_rfl, ?_⟩) f104 ?_
        rotate_left 1
        · intro w9 hF9
          go_simp
          try with_reducible rfl
        try simp only [Act.put, List.setIfInBounds_toArray, List.set_cons_zero, List.set_cons_succ]
        refine wpAnyH_take (i := 4) (v := ?_) rfl (by kernel_rfl) (by kernel_rfl) (by kernel_rfl) (fun _ _ _ h => h) (Or.inl ⟨by kernel_rfl, ?_⟩) f104 ?_
        rotate_left 1
        · intro w9 hF9
          go_simp
          try with_reducible rfl
        try simp only [Act.put, List.setIfInBounds_toArray, List.set_cons_zero, List.set_cons_succ]
        refine wpAnyH_take (i := 5) (v := ?_) rfl (by kernel_rfl) (by kernel_rfl) (by kernel_rfl) (fun _ _ _ h => h) (Or.inl ⟨by kernel_rfl, ?_⟩) f104 ?_
        rotate_left 1
        · intro w9 hF9
          go_simp
          try with_reducible rfl
        try simp only [Act.put, List.setIfInBounds_toArray, List.set_cons_zero, List.set_cons_succ]
        obtain ⟨z0, z1, z2, z3, _⟩ := res2' h95.symm f107 (fun o q => q)
        obtain ⟨y0, y1, y2, y3, _⟩ := res2' h75.symm f106 (fun o q => q)
        have hne : ¬ w74.heap.size = w1.heap.size := by omega
        have hne2 : ¬ w1.heap.size = w74.heap.size := by omega
        obtain ⟨t0, t1, t2, t3, t4⟩ := two_nums hne z0 z1 y0 y1 (.bool yq) (.slice qa qm qc) (.bool yr) (.slice ra rm rc)
        have S1 := (f104.setCell w74.heap.size 0 (.bool yq) (fun q => by omega)).setCell w74.heap.size 1 (.slice qa qm qc) (fun q => by omega)
        have S2 := (S1.setCell w1.heap.size 0 (.bool yr) (fun q => by omega)).setCell w1.heap.size 1 (.slice ra rm rc) (fun q => by omega)
        refine wpAnyH_ready (rs := [8]) (by kernel_rfl) (by simp) ?_
        refine AllReadyH.cons rfl (fun K hK => ?_) AllReadyH.nil
        go_simp
        refine Shut.out hK _ _ S1 (fun _ => ?_)
        clear hK K
        try simp only [Act.put, List.setIfInBounds_toArray, List.set_cons_zero, List.set_cons_succ]
        refine wpAnyH_ready (rs := [9]) (by kernel_rfl) (by simp) ?_
        refine AllReadyH.cons rfl (fun K hK => ?_) AllReadyH.nil
        go_simp
        refine Shut.out hK _ _ S2 (fun _ => ?_)
        clear hK K
        try simp only [Act.put, List.setIfInBounds_toArray, List.set_cons_zero, List.set_cons_succ]
        refine wpAnyH_done (by kernel_rfl) ?_ _
        exact HN.out _ _ _ _ _ _ _ _ _ ⟨qa, qm, qc, t0, t1, hr.1, t4 (hr.2.2.1.fr (Fr.refl (fun _ _ => False) w102) (fun _ _ _ q => q))⟩ ⟨ra, rm, rc, t2, t3, hr.2.1, t4 (hr.2.2.2.fr (Fr.refl (fun _ _ => False) w102) (fun _ _ _ q => q))⟩ (by omega) (by omega) S2
  · have g111 := hfd.size
    obtain ⟨w108, h109⟩ : ∃ x, wd.alloc (.cells #[.bool false, .slice none 0 0] 45) = x := ⟨_, rfl⟩
    have k110 : Fr (fun _ _ => False) wd w108 := by rw [← h109]; exact (Fr.refl _ wd).alloc _
    go_simp
    try rw [h109]
    have f112 := hfd.trans k110
    refine Shut.out hK _ _ f112 (fun _ => ?_)
    clear hK K
    try simp only [Act.put, List.setIfInBounds_toArray, List.set_cons_zero, List.set_cons_succ]
    refine wpAnyH_ready (rs := [1, 7]) (by kernel_rfl) (by simp) ?_
    refine AllReadyH.cons rfl (fun K hK => ?_) (AllReadyH.cons rfl (fun K hK => ?_) AllReadyH.nil)
    · go_simp
      go_must (refine (HT.out _ f112).mono ?_; rintro e1 w113 ⟨bs, b, mb, cb, rfl, HQ, k114⟩)
      have f115 := f112.trans k114
      have f116 := (Fr.refl (fun _ _ => False) w108).trans k114
      refine Shut.out hK _ _ f115 (fun _ => ?_)
      clear hK K
      try simp only [Act.put, List.setIfInBounds_toArray, List.set_cons_zero, List.set_cons_succ]
      refine wpAnyH_ready (rs := [2, 7]) (by kernel_rfl) (by simp) ?_
      refine AllReadyH.cons rfl (fun K hK => ?_) (AllReadyH.cons rfl (fun K hK => ?_) AllReadyH.nil)
      · go_simp
        go_must (refine (HQ.out _ (Fr.refl (fun _ _ => False) w113)).mono ?_; rintro e1 w117 ⟨qa, qm, qc, ra, rm, rc, rfl, hr, k118⟩)
        have f119 := f115.trans k118
        have f120 := f116.trans k118
        have f121 := (Fr.refl (fun _ _ => False) w113).trans k118
        refine Shut.out hK _ _ f119 (fun _ => ?_)
        clear hK K
        try simp only [Act.put, List.setIfInBounds_toArray, List.set_cons_zero, List.set_cons_succ]
        refine wpAnyH_take (i := 3) (v := ?_) rfl (by kernel_rfl) (by kernel_rfl) (by kernel_rfl) (fun _ _ _ h => h) (Or.inl ⟨by kernel_rfl, ?_⟩) f119 ?_
        rotate_left 1
        · intro w9 hF9
          go_simp
          try with_reducible rfl
        try simp only [Act.put, List.setIfInBounds_toArray, List.set_cons_zero, List.set_cons_succ]
        refine wpAnyH_take (i := 4) (v := ?_) rfl (by kernel_rfl) (by kernel_rfl) (by kernel_rfl) (fun _ _ _ h => h) (Or.inl ⟨by kernel_rfl, ?_⟩) f119 ?_
        rotate_left 1
        · intro w9 hF9
          go_simp
          try with_reducible rfl
        try simp only [Act.put, List.setIfInBounds_toArray, List.set_cons_zero, List.set_cons_succ]
        refine wpAnyH_take (i := 5) (v := ?_) rfl (by kernel_rfl) (by kernel_rfl) (by kernel_rfl) (fun _ _ _ h => h) (Or.inl ⟨by kernel_rfl, ?_⟩) f119 ?_
        rotate_left 1
        · intro w9 hF9
          go_simp
          try with_reducible rfl
        try simp only [Act.put, List.setIfInBounds_toArray, List.set_cons_zero, List.set_cons_succ]
        refine wpAnyH_ready (rs := [7]) (by kernel_rfl) (by simp) ?_
        refine AllReadyH.cons rfl (fun K hK => ?_) AllReadyH.nil
        have g125 := f119.size
        have n126 : wd.heap.size < w117.heap.size := by have e1 := f120.size; have e2 : w108.heap.size = wd.heap.size + 1 := (by rw [← h109]; simp); omega
        obtain ⟨w122, h123⟩ : ∃ x, w117.alloc (.cells #[.bool false, .slice none 0 0] 45) = x := ⟨_, rfl⟩
        have k124 : Fr (fun _ _ => False) w117 w122 := by rw [← h123]; exact (Fr.refl _ w117).alloc _
        go_simp
        try rw [h123]
        have f127 := f119.trans k124
        have f128 := f120.trans k124
        have f129 := f121.trans k124
        have f130 := (Fr.refl (fun _ _ => False) w117).trans k124
        refine Shut.out hK _ _ f127 (fun _ => ?_)
        clear hK K
        try simp only [Act.put, List.setIfInBounds_toArray, List.set_cons_zero, List.set_cons_succ]
        obtain ⟨z0, z1, z2, z3, _⟩ := res2' h109.symm f128 (fun o q => q)
        obtain ⟨y0, y1, y2, y3, _⟩ := res2' h123.symm (Fr.refl (fun _ _ => False) w122) (fun o q => q)
        have hne : ¬ wd.heap.size = w117.heap.size := by omega
        have hne2 : ¬ w117.heap.size = wd.heap.size := by omega
        obtain ⟨t0, t1, t2, t3, t4⟩ := two_nums hne z0 z1 y0 y1 (.bool yq) (.slice qa qm qc) (.bool yr) (.slice ra rm rc)
        have S1 := (f127.setCell wd.heap.size 0 (.bool yq) (fun q => by omega)).setCell wd.heap.size 1 (.slice qa qm qc) (fun q => by omega)
        have S2 := (S1.setCell w117.heap.size 0 (.bool yr) (fun q => by omega)).setCell w117.heap.size 1 (.slice ra rm rc) (fun q => by omega)
        refine wpAnyH_ready (rs := [8]) (by kernel_rfl) (by simp) ?_
        refine AllReadyH.cons rfl (fun K hK => ?_) AllReadyH.nil
        go_simp
        refine Shut.out hK _ _ S1 (fun _ => ?_)
        clear hK K
        try simp only [Act.put, List.setIfInBounds_toArray, List.set_cons_zero, List.set_cons_succ]
        refine wpAnyH_ready (rs := [9]) (by kernel_rfl) (by simp) ?_
        refine AllReadyH.cons rfl (fun K hK => ?_) AllReadyH.nil
        go_simp
        refine Shut.out hK _ _ S2 (fun _ => ?_)
        clear hK K
        try simp only [Act.put, List.setIfInBounds_toArray, List.set_cons_zero, List.set_cons_succ]
        refine wpAnyH_done (by kernel_rfl) ?_ _
        exact HN.out _ _ _ _ _ _ _ _ _ ⟨qa, qm, qc, t0, t1, hr.1, t4 (hr.2.2.1.fr f130 (fun _ _ _ q => q))⟩ ⟨ra, rm, rc, t2, t3, hr.2.1, t4 (hr.2.2.2.fr f130 (fun _ _ _ q => q))⟩ (by omega) (by omega) S2
      · have g134 := f115.size
        have n135 : wd.heap.size < w113.heap.size := by have e1 := f116.size; have e2 : w108.heap.size = wd.heap.size + 1 := (by rw [← h109]; simp); omega
        obtain ⟨w131, h132⟩ : ∃ x, w113.alloc (.cells #[.bool false, .slice none 0 0] 45) = x := ⟨_, rfl⟩
        have k133 : Fr (fun _ _ => False) w113 w131 := by rw [← h132]; exact (Fr.refl _ w113).alloc _
        go_simp
        try rw [h132]
        have f136 := f115.trans k133
        have f137 := f116.trans k133
        have f138 := (Fr.refl (fun _ _ => False) w113).trans k133
        refine Shut.out hK _ _ f136 (fun _ => ?_)
        clear hK K
        try simp only [Act.put, List.setIfInBounds_toArray, List.set_cons_zero, List.set_cons_succ]
        refine wpAnyH_ready (rs := [2]) (by kernel_rfl) (by simp) ?_
        refine AllReadyH.cons rfl (fun K hK => ?_) AllReadyH.nil
        go_simp
        go_must (refine (HQ.out _ f138).mono ?_; rintro e1 w139 ⟨qa, qm, qc, ra, rm, rc, rfl, hr, k140⟩)
        have f141 := f136.trans k140
        have f142 := f137.trans k140
        have f143 := f138.trans k140
        have f144 := (Fr.refl (fun _ _ => False) w131).trans k140
        refine Shut.out hK _ _ f141 (fun _ => ?_)
        clear hK K
        try simp only [Act.put, List.setIfInBounds_toArray, List.set_cons_zero, List.set_cons_succ]
        refine wpAnyH_take (i := 3) (v := ?_) rfl (by kernel_rfl) (by kernel_rfl) (by kernel_rfl) (fun _ _ _ h => h) (Or.inl ⟨by kernel_rfl, ?_⟩) f141 ?_
        rotate_left 1
        · intro w9 hF9
          go_simp
          try with_reducible rfl
        try simp only [Act.put, List.setIfInBounds_toArray, List.set_cons_zero, List.set_cons_succ]
        refine wpAnyH_take (i := 4) (v := ?_) rfl (by kernel_rfl) (by kernel_rfl) (by kernel_rfl) (fun _ _ _ h => h) (Or.inl ⟨by kernel_rfl, ?_⟩) f141 ?_
        rotate_left 1
        · intro w9 hF9
          go_simp
          try with_reducible rfl
        try simp only [Act.put, List.setIfInBounds_toArray, List.set_cons_zero, List.set_cons_succ]
        refine wpAnyH_take (i := 5) (v := ?_) rfl (by kernel_rfl) (by kernel_rfl) (by kernel_rfl) (fun _ _ _ h => h) (Or.inl ⟨by kernel_rfl, ?_⟩) f141 ?_
        rotate_left 1
        · intro w9 hF9
          go_simp
          try with_reducible rfl
        try simp only [Act.put, List.setIfInBounds_toArray, List.set_cons_zero, List.set_cons_succ]
        obtain ⟨z0, z1, z2, z3, _⟩ := res2' h109.symm f142 (fun o q => q)
        obtain ⟨y0, y1, y2, y3, _⟩ := res2' h132.symm f144 (fun o q => q)
        have hne : ¬ wd.heap.size = w113.heap.size := by omega
        have hne2 : ¬ w113.heap.size = wd.heap.size := by omega
        obtain ⟨t0, t1, t2, t3, t4⟩ := two_nums hne z0 z1 y0 y1 (.bool yq) (.slice qa qm qc) (.bool yr) (.slice ra rm rc)
        have S1 := (f141.setCell wd.heap.size 0 (.bool yq) (fun q => by omega)).setCell wd.heap.size 1 (.slice qa qm qc) (fun q => by omega)
        have S2 := (S1.setCell w113.heap.size 0 (.bool yr) (fun q => by omega)).setCell w113.heap.size 1 (.slice ra rm rc) (fun q => by omega)
        refine wpAnyH_ready (rs := [8]) (by kernel_rfl) (by simp) ?_
        refine AllReadyH.cons rfl (fun K hK => ?_) AllReadyH.nil
        go_simp
        refine Shut.out hK _ _ S1 (fun _ => ?_)
        clear hK K
        try simp only [Act.put, List.setIfInBounds_toArray, List.set_cons_zero, List.set_cons_succ]
        refine wpAnyH_ready (rs := [9]) (by kernel_rfl) (by simp) ?_
        refine AllReadyH.cons rfl (fun K hK => ?_) AllReadyH.nil
        go_simp
        refine Shut.out hK _ _ S2 (fun _ => ?_)
        clear hK K
        try simp only [Act.put, List.setIfInBounds_toArray, List.set_cons_zero, List.set_cons_succ]
        refine wpAnyH_done (by kernel_rfl) ?_ _
        exact HN.out _ _ _ _ _ _ _ _ _ ⟨qa, qm, qc, t0, t1, hr.1, t4 (hr.2.2.1.fr (Fr.refl (fun _ _ => False) w139) (fun _ _ _ q => q))⟩ ⟨ra, rm, rc, t2, t3, hr.2.1, t4 (hr.2.2.2.fr (Fr.refl (fun _ _ => False) w139) (fun _ _ _ q => q))⟩ (by omega) (by omega) S2
    · have g148 := f112.size
      have n149 : wd.heap.size < w108.heap.size := by have e1 := (Fr.refl (fun _ _ => False) w108).size; have e2 : w108.heap.size = wd.heap.size + 1 := (by rw [← h109]; simp); omega
      obtain ⟨w145, h146⟩ : ∃ x, w108.alloc (.cells #[.bool false, .slice none 0 0] 45) = x := ⟨_, rfl⟩
      have k147 : Fr (fun _ _ => False) w108 w145 := by rw [← h146]; exact (Fr.refl _ w108).alloc _
      go_simp
      try rw [h146]
      have f150 := f112.trans k147
      have f151 := (Fr.refl (fun _ _ => False) w108).trans k147
      refine Shut.out hK _ _ f150 (fun _ => ?_)
      clear hK K
      try simp only [Act.put, List.setIfInBounds_toArray, List.set_cons_zero, List.set_cons_succ]
      refine wpAnyH_ready (rs := [1]) (by kernel_rfl) (by simp) ?_
      refine AllReadyH.cons rfl (fun K hK => ?_) AllReadyH.nil
      go_simp
      go_must (refine (HT.out _ f150).mono ?_; rintro e1 w152 ⟨bs, b, mb, cb, rfl, HQ, k153⟩)
      have f154 := f150.trans k153
      have f155 := f151.trans k153
      have f156 := (Fr.refl (fun _ _ => False) w145).trans k153
      refine Shut.out hK _ _ f154 (fun _ => ?_)
      clear hK K
      try simp only [Act.put, List.setIfInBounds_toArray, List.set_cons_zero, List.set_cons_succ]
      refine wpAnyH_ready (rs := [2]) (by kernel_rfl) (by simp) ?_
      refine AllReadyH.cons rfl (fun K hK => ?_) AllReadyH.nil
      go_simp
      go_must (refine (HQ.out _ (Fr.refl (fun _ _ => False) w152)).mono ?_; rintro e1 w157 ⟨qa, qm, qc, ra, rm, rc, rfl, hr, k158⟩)
      have f159 := f154.trans k158
      have f160 := f155.trans k158
      have f161 := f156.trans k158
      have f162 := (Fr.refl (fun _ _ => False) w152).trans k158
      refine Shut.out hK _ _ f159 (fun _ => ?_)
      clear hK K
      try simp only [Act.put, List.setIfInBounds_toArray, List.set_cons_zero, List.set_cons_succ]
      refine wpAnyH_take (i := 3) (v := ?_) rfl (by kernel_rfl) (by kernel_rfl) (by kernel_rfl) (fun _ _ _ h => h) (Or.inl ⟨by kernel_rfl, ?_⟩) f159 ?_
      rotate_left 1
      · intro w9 hF9
        go_simp
        try with_reducible rfl
      try simp only [Act.put, List.setIfInBounds_toArray, List.set_cons_zero, List.set_cons_succ]
      refine wpAnyH_take (i := 4) (v := ?_) rfl (by kernel_rfl) (by kernel_rfl) (by kernel_rfl) (fun _ _ _ h => h) (Or.inl ⟨by kernel_rfl, ?_⟩) f159 ?_
      rotate_left 1
      · intro w9 hF9
        go_simp
        try with_reducible rfl
      try simp only [Act.put, List.setIfInBounds_toArray, List.set_cons_zero, List.set_cons_succ]
      refine wpAnyH_take (i := 5) (v := ?_) rfl (by kernel_rfl) (by kernel_rfl) (by kernel_rfl) (fun _ _ _ h => h) (Or.inl ⟨by kernel_rfl, ?_⟩) f159 ?_
      rotate_left 1
      · intro w9 hF9
        go_simp
        try with_reducible rfl
      try simp only [Act.put, List.setIfInBounds_toArray, List.set_cons_zero, List.set_cons_succ]
      obtain ⟨z0, z1, z2, z3, _⟩ := res2' h109.symm f160 (fun o q => q)
      obtain ⟨y0, y1, y2, y3, _⟩ := res2' h146.symm f161 (fun o q => q)
      have hne : ¬ wd.heap.size = w108.heap.size := by omega
      have hne2 : ¬ w108.heap.size = wd.heap.size := by omega
      obtain ⟨t0, t1, t2, t3, t4⟩ := two_nums hne z0 z1 y0 y1 (.bool yq) (.slice qa qm qc) (.bool yr) (.slice ra rm rc)
      have S1 := (f159.setCell wd.heap.size 0 (.bool yq) (fun q => by omega)).setCell wd.heap.size 1 (.slice qa qm qc) (fun q => by omega)
      have S2 := (S1.setCell w108.heap.size 0 (.bool yr) (fun q => by omega)).setCell w108.heap.size 1 (.slice ra rm rc) (fun q => by omega)
      refine wpAnyH_ready (rs := [8]) (by kernel_rfl) (by simp) ?_
      refine AllReadyH.cons rfl (fun K hK => ?_) AllReadyH.nil
      go_simp
      refine Shut.out hK _ _ S1 (fun _ => ?_)
      clear hK K
      try simp only [Act.put, List.setIfInBounds_toArray, List.set_cons_zero, List.set_cons_succ]
      refine wpAnyH_ready (rs := [9]) (by kernel_rfl) (by simp) ?_
      refine AllReadyH.cons rfl (fun K hK => ?_) AllReadyH.nil
      go_simp
      refine Shut.out hK _ _ S2 (fun _ => ?_)
      clear hK K
      try simp only [Act.put, List.setIfInBounds_toArray, List.set_cons_zero, List.set_cons_succ]
      refine wpAnyH_done (by kernel_rfl) ?_ _
      exact HN.out _ _ _ _ _ _ _ _ _ ⟨qa, qm, qc, t0, t1, hr.1, t4 (hr.2.2.1.fr (Fr.refl (fun _ _ => False) w157) (fun _ _ _ q => q))⟩ ⟨ra, rm, rc, t2, t3, hr.2.1, t4 (hr.2.2.2.fr (Fr.refl (fun _ _ => False) w157) (fun _ _ _ q => q))⟩ (by omega) (by omega) S2
  · have g166 := hfd.size
    obtain ⟨w163, h164⟩ : ∃ x, wd.alloc (.cells #[.bool false, .slice none 0 0] 45) = x := ⟨_, rfl⟩
    have k165 : Fr (fun _ _ => False) wd w163 := by rw [← h164]; exact (Fr.refl _ wd).alloc _
    go_simp
    try rw [h164]
    have f167 := hfd.trans k165
    refine Shut.out hK _ _ f167 (fun _ => ?_)
    clear hK K
    try simp only [Act.put, List.setIfInBounds_toArray, List.set_cons_zero, List.set_cons_succ]
    refine wpAnyH_ready (rs := [1, 6]) (by kernel_rfl) (by simp) ?_
    refine AllReadyH.cons rfl (fun K hK => ?_) (AllReadyH.cons rfl (fun K hK => ?_) AllReadyH.nil)
    · go_simp
      go_must (refine (HT.out _ f167).mono ?_; rintro e1 w168 ⟨bs, b, mb, cb, rfl, HQ, k169⟩)
      have f170 := f167.trans k169
      have f171 := (Fr.refl (fun _ _ => False) w163).trans k169
      refine Shut.out hK _ _ f170 (fun _ => ?_)
      clear hK K
      try simp only [Act.put, List.setIfInBounds_toArray, List.set_cons_zero, List.set_cons_succ]
      refine wpAnyH_ready (rs := [2, 6]) (by kernel_rfl) (by simp) ?_
      refine AllReadyH.cons rfl (fun K hK => ?_) (AllReadyH.cons rfl (fun K hK => ?_) AllReadyH.nil)
      · go_simp
        go_must (refine (HQ.out _ (Fr.refl (fun _ _ => False) w168)).mono ?_; rintro e1 w172 ⟨qa, qm, qc, ra, rm, rc, rfl, hr, k173⟩)
        have f174 := f170.trans k173
        have f175 := f171.trans k173
        have f176 := (Fr.refl (fun _ _ => False) w168).trans k173
        refine Shut.out hK _ _ f174 (fun _ => ?_)
        clear hK K
        try simp only [Act.put, List.setIfInBounds_toArray, List.set_cons_zero, List.set_cons_succ]
        refine wpAnyH_take (i := 3) (v := ?_) rfl (by kernel_rfl) (by kernel_rfl) (by kernel_rfl) (fun _ _ _ h => h) (Or.inl ⟨by kernel_rfl, ?_⟩) f174 ?_
        rotate_left 1
        · intro w9 hF9
          go_simp
          try with_reducible rfl
        try simp only [Act.put, List.setIfInBounds_toArray, List.set_cons_zero, List.set_cons_succ]
        refine wpAnyH_take (i := 4) (v := ?_) rfl (by kernel_rfl) (by kernel_rfl) (by kernel_rfl) (fun _ _ _ h => h) (Or.inl ⟨by kernel_rfl, ?_⟩) f174 ?_
        rotate_left 1
        · intro w9 hF9
          go_simp
          try with_reducible rfl
        try simp only [Act.put, List.setIfInBounds_toArray, List.set_cons_zero, List.set_cons_succ]
        refine wpAnyH_take (i := 5) (v := ?_) rfl (by kernel_rfl) (by kernel_rfl) (by kernel_rfl) (fun _ _ _ h => h) (Or.inl ⟨by kernel_rfl, ?_⟩) f174 ?_
        rotate_left 1
        · intro w9 hF9
          go_simp
          try with_reducible rfl
        try simp only [Act.put, List.setIfInBounds_toArray, List.set_cons_zero, List.set_cons_succ]
        refine wpAnyH_ready (rs := [6]) (by kernel_rfl) (by simp) ?_
        refine AllReadyH.cons rfl (fun K hK => ?_) AllReadyH.nil
        have g180 := f174.size
        have n181 : wd.heap.size < w172.heap.size := by have e1 := f175.size; have e2 : w163.heap.size = wd.heap.size + 1 := (by rw [← h164]; simp); omega
        obtain ⟨w177, h178⟩ : ∃ x, w172.alloc (.cells #[.bool false, .slice none 0 0] 45) = x := ⟨_, rfl⟩
        have k179 : Fr (fun _ _ => False) w172 w177 := by rw [← h178]; exact (Fr.refl _ w172).alloc _
        go_simp
        try rw [h178]
        have f182 := f174.trans k179
        have f183 := f175.trans k179
        have f184 := f176.trans k179
        have f185 := (Fr.refl (fun _ _ => False) w172).trans k179
        refine Shut.out hK _ _ f182 (fun _ => ?_)
        clear hK K
        try simp only [Act.put, List.setIfInBounds_toArray, List.set_cons_zero, List.set_cons_succ]
        obtain ⟨z0, z1, z2, z3, _⟩ := res2' h178.symm (Fr.refl (fun _ _ => False) w177) (fun o q => q)
        obtain ⟨y0, y1, y2, y3, _⟩ := res2' h164.symm f183 (fun o q => q)
        have hne : ¬ w172.heap.size = wd.heap.size := by omega
        have hne2 : ¬ wd.heap.size = w172.heap.size := by omega
        obtain ⟨t0, t1, t2, t3, t4⟩ := two_nums hne z0 z1 y0 y1 (.bool yq) (.slice qa qm qc) (.bool yr) (.slice ra rm rc)
        have S1 := (f182.setCell w172.heap.size 0 (.bool yq) (fun q => by omega)).setCell w172.heap.size 1 (.slice qa qm qc) (fun q => by omega)
        have S2 := (S1.setCell wd.heap.size 0 (.bool yr) (fun q => by omega)).setCell wd.heap.size 1 (.slice ra rm rc) (fun q => by omega)
        refine wpAnyH_ready (rs := [8]) (by kernel_rfl) (by simp) ?_
        refine AllReadyH.cons rfl (fun K hK => ?_) AllReadyH.nil
        go_simp
        refine Shut.out hK _ _ S1 (fun _ => ?_)
        clear hK K
        try simp only [Act.put, List.setIfInBounds_toArray, List.set_cons_zero, List.set_cons_succ]
        refine wpAnyH_ready (rs := [9]) (by kernel_rfl) (by simp) ?_
        refine AllReadyH.cons rfl (fun K hK => ?_) AllReadyH.nil
        go_simp
        refine Shut.out hK _ _ S2 (fun _ => ?_)
        clear hK K
        try simp only [Act.put, List.setIfInBounds_toArray, List.set_cons_zero, List.set_cons_succ]
        refine wpAnyH_done (by kernel_rfl) ?_ _
        exact HN.out _ _ _ _ _ _ _ _ _ ⟨qa, qm, qc, t0, t1, hr.1, t4 (hr.2.2.1.fr f185 (fun _ _ _ q => q))⟩ ⟨ra, rm, rc, t2, t3, hr.2.1, t4 (hr.2.2.2.fr f185 (fun _ _ _ q => q))⟩ (by omega) (by omega) S2
      · have g189 := f170.size
        have n190 : wd.heap.size < w168.heap.size := by have e1 := f171.size; have e2 : w163.heap.size = wd.heap.size + 1 := (by rw [← h164]; simp); omega
        obtain ⟨w186, h187⟩ : ∃ x, w168.alloc (.cells #[.bool false, .slice none 0 0] 45) = x := ⟨_, rfl⟩
        have k188 : Fr (fun _ _ => False) w168 w186 := by rw [← h187]; exact (Fr.refl _ w168).alloc _
        go_simp
        try rw [h187]
        have f191 := f170.trans k188
        have f192 := f171.trans k188
        have f193 := (Fr.refl (fun _ _ => False) w168).trans k188
        refine Shut.out hK _ _ f191 (fun _ => ?_)
        clear hK K
        try simp only [Act.put, List.setIfInBounds_toArray, List.set_cons_zero, List.set_cons_succ]
        refine wpAnyH_ready (rs := [2]) (by kernel_rfl) (by simp) ?_
        refine AllReadyH.cons rfl (fun K hK => ?_) AllReadyH.nil
        go_simp
        go_must (refine (HQ.out _ f193).mono ?_; rintro e1 w194 ⟨qa, qm, qc, ra, rm, rc, rfl, hr, k195⟩)
        have f196 := f191.trans k195
        have f197 := f192.trans k195
        have f198 := f193.trans k195
        have f199 := (Fr.refl (fun _ _ => False) w186).trans k195
        refine Shut.out hK _ _ f196 (fun _ => ?_)
        clear hK K
        try simp only [Act.put, List.setIfInBounds_toArray, List.set_cons_zero, List.set_cons_succ]
        refine wpAnyH_take (i := 3) (v := ?_) rfl (by kernel_rfl) (by kernel_rfl) (by kernel_rfl) (fun _ _ _ h => h) (Or.inl ⟨by kernel_rfl, ?_⟩) f196 ?_
        rotate_left 1
        · intro w9 hF9
          go_simp
          try with_reducible rfl
        try simp only [Act.put, List.setIfInBounds_toArray, List.set_cons_zero, List.set_cons_succ]
        refine wpAnyH_take (i := 4) (v := ?_) rfl (by kernel_rfl) (by kernel_rfl) (by kernel_rfl) (fun _ _ _ h => h) (Or.inl ⟨by kernel_rfl, ?_⟩) f196 ?_
        rotate_left 1
        · intro w9 hF9
          go_simp
          try with_reducible rfl
        try simp only [Act.put, List.setIfInBounds_toArray, List.set_cons_zero, List.set_cons_succ]
        refine wpAnyH_take (i := 5) (v := ?_) rfl (by kernel_rfl) (by kernel_rfl) (by kernel_rfl) (fun _ _ _ h => h) (Or.inl ⟨by kernel_rfl, ?_⟩) f196 ?_
        rotate_left 1
        · intro w9 hF9
          go_simp
          try with_reducible rfl
        try simp only [Act.put, List.setIfInBounds_toArray, List.set_cons_zero, List.set_cons_succ]
        obtain ⟨z0, z1, z2, z3, _⟩ := res2' h187.symm f199 (fun o q => q)
        obtain ⟨y0, y1, y2, y3, _⟩ := res2' h164.symm f197 (fun o q => q)
        have hne : ¬ w168.heap.size = wd.heap.size := by omega
        have hne2 : ¬ wd.heap.size = w168.heap.size := by omega
        obtain ⟨t0, t1, t2, t3, t4⟩ := two_nums hne z0 z1 y0 y1 (.bool yq) (.slice qa qm qc) (.bool yr) (.slice ra rm rc)
        have S1 := (f196.setCell w168.heap.size 0 (.bool yq) (fun q => by omega)).setCell w168.heap.size 1 (.slice qa qm qc) (fun q => by omega)
        have S2 := (S1.setCell wd.heap.size 0 (.bool yr) (fun q => by omega)).setCell wd.heap.size 1 (.slice ra rm rc) (fun q => by omega)
        refine wpAnyH_ready (rs := [8]) (by kernel_rfl) (by simp) ?_
        refine AllReadyH.cons rfl (fun K hK => ?_) AllReadyH.nil
        go_simp
        refine Shut.out hK _ _ S1 (fun _ => ?_)
        clear hK K
        try simp only [Act.put, List.setIfInBounds_toArray, List.set_cons_zero, List.set_cons_succ]
        refine wpAnyH_ready (rs := [9]) (by kernel_rfl) (by simp) ?_
        refine AllReadyH.cons rfl (fun K hK => ?_) AllReadyH.nil
        go_simp
        refine Shut.out hK _ _ S2 (fun _ => ?_)
        clear hK K
        try simp only [Act.put, List.setIfInBounds_toArray, List.set_cons_zero, List.set_cons_succ]
        refine wpAnyH_done (by kernel_rfl) ?_ _
        exact HN.out _ _ _ _ _ _ _ _ _ ⟨qa, qm, qc, t0, t1, hr.1, t4 (hr.2.2.1.fr (Fr.refl (fun _ _ => False) w194) (fun _ _ _ q => q))⟩ ⟨ra, rm, rc, t2, t3, hr.2.1, t4 (hr.2.2.2.fr (Fr.refl (fun _ _ => False) w194) (fun _ _ _ q => q))⟩ (by omega) (by omega) S2
    · have g203 := f167.size
      have n204 : wd.heap.size < w163.heap.size := by have e1 := (Fr.refl (fun _ _ => False) w163).size; have e2 : w163.heap.size = wd.heap.size + 1 := (by rw [← h164]; simp); omega
      obtain ⟨w200, h201⟩ : ∃ x, w163.alloc (.cells #[.bool false, .slice none 0 0] 45) = x := ⟨_, rfl⟩
      have k202 : Fr (fun _ _ => False) w163 w200 := by rw [← h201]; exact (Fr.refl _ w163).alloc _
      go_simp
      try rw [h201]
      have f205 := f167.trans k202
      have f206 := (Fr.refl (fun _ _ => False) w163).trans k202
      refine Shut.out hK _ _ f205 (fun _ => ?_)
      clear hK K
      try simp only [Act.put, List.setIfInBounds_toArray, List.set_cons_zero, List.set_cons_succ]
      refine wpAnyH_ready (rs := [1]) (by kernel_rfl) (by simp) ?_
      refine AllReadyH.cons rfl (fun K hK => ?_) AllReadyH.nil
      go_simp
      go_must (refine (HT.out _ f205).mono ?_; rintro e1 w207 ⟨bs, b, mb, cb, rfl, HQ, k208⟩)
      have f209 := f205.trans k208
      have f210 := f206.trans k208
      have f211 := (Fr.refl (fun _ _ => False) w200).trans k208
      refine Shut.out hK _ _ f209 (fun _ => ?_)
      clear hK K
      try simp only [Act.put, List.setIfInBounds_toArray, List.set_cons_zero, List.set_cons_succ]
      refine wpAnyH_ready (rs := [2]) (by kernel_rfl) (by simp) ?_
      refine AllReadyH.cons rfl (fun K hK => ?_) AllReadyH.nil
      go_simp
      go_must (refine (HQ.out _ (Fr.refl (fun _ _ => False) w207)).mono ?_; rintro e1 w212 ⟨qa, qm, qc, ra, rm, rc, rfl, hr, k213⟩)
      have f214 := f209.trans k213
      have f215 := f210.trans k213
      have f216 := f211.trans k213
      have f217 := (Fr.refl (fun _ _ => False) w207).trans k213
      refine Shut.out hK _ _ f214 (fun _ => ?_)
      clear hK K
      try simp only [Act.put, List.setIfInBounds_toArray, List.set_cons_zero, List.set_cons_succ]
      refine wpAnyH_take (i := 3) (v := ?_) rfl (by kernel_rfl) (by kernel_rfl) (by kernel_rfl) (fun _ _ _ h => h) (Or.inl ⟨by kernel_rfl, ?_⟩) f214 ?_
      rotate_left 1
      · intro w9 hF9
        go_simp
        try with_reducible rfl
      try simp only [Act.put, List.setIfInBounds_toArray, List.set_cons_zero, List.set_cons_succ]
      refine wpAnyH_take (i := 4) (v := ?_) rfl (by kernel_rfl) (by kernel_rfl) (by kernel_rfl) (fun _ _ _ h => h) (Or.inl ⟨by kernel_rfl, ?_⟩) f214 ?_
      rotate_left 1
      · intro w9 hF9
        go_simp
        try with_reducible rfl
      try simp only [Act.put, List.setIfInBounds_toArray, List.set_cons_zero, List.set_cons_succ]
      refine wpAnyH_take (i := 5) (v := ?_) rfl (by kernel_rfl) (by kernel_rfl) (by kernel_rfl) (fun _ _ _ h => h) (Or.inl ⟨by kernel_rfl, ?_⟩) f214 ?_
      rotate_left 1
      · intro w9 hF9
        go_simp
        try with_reducible rfl
      try simp only [Act.put, List.setIfInBounds_toArray, List.set_cons_zero, List.set_cons_succ]
      obtain ⟨z0, z1, z2, z3, _⟩ := res2' h201.symm f216 (fun o q => q)
      obtain ⟨y0, y1, y2, y3, _⟩ := res2' h164.symm f215 (fun o q => q)
      have hne : ¬ w163.heap.size = wd.heap.size := by omega
      have hne2 : ¬ wd.heap.size = w163.heap.size := by omega
      obtain ⟨t0, t1, t2, t3, t4⟩ := two_nums hne z0 z1 y0 y1 (.bool yq) (.slice qa qm qc) (.bool yr) (.slice ra rm rc)
      have S1 := (f214.setCell w163.heap.size 0 (.bool yq) (fun q => by omega)).setCell w163.heap.size 1 (.slice qa qm qc) (fun q => by omega)
      have S2 := (S1.setCell wd.heap.size 0 (.bool yr) (fun q => by omega)).setCell wd.heap.size 1 (.slice ra rm rc) (fun q => by omega)
      refine wpAnyH_ready (rs := [8]) (by kernel_rfl) (by simp) ?_
      refine AllReadyH.cons rfl (fun K hK => ?_) AllReadyH.nil
      go_simp
      refine Shut.out hK _ _ S1 (fun _ => ?_)
      clear hK K
      try simp only [Act.put, List.setIfInBounds_toArray, List.set_cons_zero, List.set_cons_succ]
      refine wpAnyH_ready (rs := [9]) (by kernel_rfl) (by simp) ?_
      refine AllReadyH.cons rfl (fun K hK => ?_) AllReadyH.nil
      go_simp
      refine Shut.out hK _ _ S2 (fun _ => ?_)
      clear hK K
      try simp only [Act.put, List.setIfInBounds_toArray, List.set_cons_zero, List.set_cons_succ]
      refine wpAnyH_done (by kernel_rfl) ?_ _
      exact HN.out _ _ _ _ _ _ _ _ _ ⟨qa, qm, qc, t0, t1, hr.1, t4 (hr.2.2.1.fr (Fr.refl (fun _ _ => False) w212) (fun _ _ _ q => q))⟩ ⟨ra, rm, rc, t2, t3, hr.2.1, t4 (hr.2.2.2.fr (Fr.refl (fun _ _ => False) w212) (fun _ _ _ q => q))⟩ (by omega) (by omega) S2
noncomputable def smc (n : Nat) : Code := ((Tryz.f39.body.bind (rgOf n)).getD .skip)
set_option maxRecDepth 100000 in
set_option maxHeartbeats 8000000 in
theorem sm1_true {c : Code} (hc : c = smc 1) {p7 mX cX : Nat} {aX : Option Addr} {sX p2 : Bool} {w : World} (l7 : p7 < w.heap.size) (x0 : w.cell? ⟨p7, 0, none⟩ = some (.bool sX)) (x1 : w.cell? ⟨p7, 1, none⟩ = some (.slice aX mX cX))
    (H1 : Hid (∀ w1, Fr (fun _ _ => False) w w1 → Calls Tryz.prog 35 #[.int .i64 (-9223372036854775808)] w1 fun e1 w2 => ∃ b1 b2 b3 b4, e1 = .returned (.agg #[.bool b1, .slice b2 b3 b4]) ∧
      Hid (∀ w5, Fr (fun _ _ => False) w2 w5 → Calls Tryz.prog 17 #[.agg #[.bool sX, .slice aX mX cX], .agg #[.bool b1, .slice b2 b3 b4]] w5 fun e1 w6 => ∃ r, e1 = .returned (.int .i64 r) ∧ decide (r < 0) = true ∧ Fr (fun _ _ => False) w5 w6) ∧ Fr (fun _ _ => False) w1 w2))
    (u0 u2 u3 u4 u5 u6 u7 u8 u9 u10 u11 u12 u13 u14 u15 u16 u17 u18 u19 u20 u21 u22 u23 u24 u25 u26 u27 u28 u29 u30 u31 u32 u33 u34 u35 u36 u37 u38 u39 u40 u41 u42 u43 u44 : Value) (N : Act → World → Prop)
    (HN : Aside (∀ (v6 v7 v8 v9 v10 v11 v12 v13 v14 : Value) (W : World), Fr (fun _ _ => False) w W → N ⟨#[u0, .pointer (some ⟨p7, 0, none⟩), u2, u3, u4, u5, v6, v7, v8, v9, v10, v11, v12, v13, v14, .bool true, u16, u17, u18, u19, u20, u21, u22, u23, u24, u25, u26, u27, u28, u29, u30, u31, u32, u33, u34, u35, u36, u37, u38, u39, u40, u41, u42, u43, u44], []⟩ W)) :
    Code.wp Tryz.prog c (QN N) ⟨#[u0, .pointer (some ⟨p7, 0, none⟩), u2, u3, u4, u5, u6, u7, u8, u9, u10, u11, u12, u13, u14, u15, u16, u17, u18, u19, u20, u21, u22, u23, u24, u25, u26, u27, u28, u29, u30, u31, u32, u33, u34, u35, u36, u37, u38, u39, u40, u41, u42, u43, u44], []⟩ w := by
  subst hc
  conv => arg 2; whnf
  refine wp_region_held (S := (fun w9 => Fr (fun _ _ => False) w w9)) (by kernel_rfl) ?_
  change wpAnyH _ _ _ _ _ _ _ _ (World.drew _)
  have hfd : Fr (fun _ _ => False) w w.drew := (Fr.refl _ w).drew
  generalize w.drew = wd at hfd ⊢
  refine wpAnyH_take (i := 0) (v := ?_) rfl (by kernel_rfl) (by kernel_rfl) (by kernel_rfl) (fun _ _ _ h => h) (Or.inl ⟨by kernel_rfl, ?_⟩) hfd ?_
  rotate_left 1
  · intro w9 hF9
    have q0 := (hF9.cell p7 0 l7 (fun q => q)).trans x0
    have q1 := (hF9.cell p7 1 l7 (fun q => q)).trans x1
    go_simp
    try with_reducible rfl
  try simp only [Act.put, List.setIfInBounds_toArray, List.set_cons_zero, List.set_cons_succ]
  refine wpAnyH_ready (rs := [1]) (by kernel_rfl) (by simp) ?_
  refine AllReadyH.cons rfl (fun K hK => ?_) AllReadyH.nil
  go_simp
  go_must (refine (H1.out _ hfd).mono ?_; rintro e1 w218 ⟨b1, b2, b3, b4, rfl, HC1, k219⟩)
  have f220 := hfd.trans k219
  refine Shut.out hK _ _ f220 (fun _ => ?_)
  clear hK K
  try simp only [Act.put, List.setIfInBounds_toArray, List.set_cons_zero, List.set_cons_succ]
  refine wpAnyH_ready (rs := [2]) (by kernel_rfl) (by simp) ?_
  refine AllReadyH.cons rfl (fun K hK => ?_) AllReadyH.nil
  go_simp
  go_must (refine (HC1.out _ (Fr.refl (fun _ _ => False) w218)).mono ?_; rintro e1 w221 ⟨r1, rfl, hr1, k222⟩)
  have f223 := f220.trans k222
  have f224 := (Fr.refl (fun _ _ => False) w218).trans k222
  refine Shut.out hK _ _ f223 (fun _ => ?_)
  clear hK K
  try simp only [Act.put, List.setIfInBounds_toArray, List.set_cons_zero, List.set_cons_succ]
  refine wpAnyH_take (i := 3) (v := ?_) rfl (by kernel_rfl) (by kernel_rfl) (by kernel_rfl) (fun _ _ _ h => h) (Or.inl ⟨by kernel_rfl, ?_⟩) f223 ?_
  rotate_left 1
  · intro w9 hF9
    go_simp
    try with_reducible rfl
  try simp only [Act.put, List.setIfInBounds_toArray, List.set_cons_zero, List.set_cons_succ]
  refine wpAnyH_take (i := 4) (v := ?_) rfl (by kernel_rfl) (by kernel_rfl) (by kernel_rfl) (fun _ _ _ h => h) (Or.inl ⟨by kernel_rfl, ?_⟩) f223 ?_
  rotate_left 1
  · intro w9 hF9
    go_simp
    try with_reducible rfl
  try simp only [Act.put, List.setIfInBounds_toArray, List.set_cons_zero, List.set_cons_succ]
  refine wpAnyH_take (i := 5) (v := undef) rfl (by kernel_rfl) (by kernel_rfl) (by kernel_rfl) (fun _ _ _ h => h) (Or.inr ⟨by kernel_rfl, rfl⟩) f223 ?_
  try simp only [Act.put, List.setIfInBounds_toArray, List.set_cons_zero, List.set_cons_succ]
  refine wpAnyH_take (i := 6) (v := undef) rfl (by kernel_rfl) (by kernel_rfl) (by kernel_rfl) (fun _ _ _ h => h) (Or.inr ⟨by kernel_rfl, rfl⟩) f223 ?_
  try simp only [Act.put, List.setIfInBounds_toArray, List.set_cons_zero, List.set_cons_succ]
  refine wpAnyH_take (i := 7) (v := undef) rfl (by kernel_rfl) (by kernel_rfl) (by kernel_rfl) (fun _ _ _ h => h) (Or.inr ⟨by kernel_rfl, rfl⟩) f223 ?_
  try simp only [Act.put, List.setIfInBounds_toArray, List.set_cons_zero, List.set_cons_succ]
  refine wpAnyH_take (i := 8) (v := undef) rfl (by kernel_rfl) (by kernel_rfl) (by kernel_rfl) (fun _ _ _ h => h) (Or.inr ⟨by kernel_rfl, rfl⟩) f223 ?_
  try simp only [Act.put, List.setIfInBounds_toArray, List.set_cons_zero, List.set_cons_succ]
  refine wpAnyH_take (i := 9) (v := ?_) rfl (by kernel_rfl) (by kernel_rfl) (by kernel_rfl) (fun _ _ _ h => h) (Or.inl ⟨by kernel_rfl, ?_⟩) f223 ?_
  rotate_left 1
  · intro w9 hF9
    go_simp
    try with_reducible rfl
  try simp only [Act.put, List.setIfInBounds_toArray, List.set_cons_zero, List.set_cons_succ]
  refine wpAnyH_done (by kernel_rfl) ?_ _
  exact HN.out _ _ _ _ _ _ _ _ _ _ f223
set_option maxRecDepth 100000 in
set_option maxHeartbeats 8000000 in
theorem sm1_false {c : Code} (hc : c = smc 1) {p7 mX cX : Nat} {aX : Option Addr} {sX p2 : Bool} {w : World} (l7 : p7 < w.heap.size) (x0 : w.cell? ⟨p7, 0, none⟩ = some (.bool sX)) (x1 : w.cell? ⟨p7, 1, none⟩ = some (.slice aX mX cX))
    (H1 : Hid (∀ w1, Fr (fun _ _ => False) w w1 → Calls Tryz.prog 35 #[.int .i64 (-9223372036854775808)] w1 fun e1 w2 => ∃ b1 b2 b3 b4, e1 = .returned (.agg #[.bool b1, .slice b2 b3 b4]) ∧
      Hid (∀ w5, Fr (fun _ _ => False) w2 w5 → Calls Tryz.prog 17 #[.agg #[.bool sX, .slice aX mX cX], .agg #[.bool b1, .slice b2 b3 b4]] w5 fun e1 w6 => ∃ r, e1 = .returned (.int .i64 r) ∧ decide (r < 0) = false ∧ Fr (fun _ _ => False) w5 w6) ∧ Fr (fun _ _ => False) w1 w2))
    (H2 : Hid (∀ w1, Fr (fun _ _ => False) w w1 → Calls Tryz.prog 35 #[.int .i64 9223372036854775807] w1 fun e1 w2 => ∃ b1 b2 b3 b4, e1 = .returned (.agg #[.bool b1, .slice b2 b3 b4]) ∧
      Hid (∀ w5, Fr (fun _ _ => False) w2 w5 → Calls Tryz.prog 17 #[.agg #[.bool sX, .slice aX mX cX], .agg #[.bool b1, .slice b2 b3 b4]] w5 fun e1 w6 => ∃ r, e1 = .returned (.int .i64 r) ∧ decide (0 < r) = p2 ∧ Fr (fun _ _ => False) w5 w6) ∧ Fr (fun _ _ => False) w1 w2))
    (u0 u2 u3 u4 u5 u6 u7 u8 u9 u10 u11 u12 u13 u14 u15 u16 u17 u18 u19 u20 u21 u22 u23 u24 u25 u26 u27 u28 u29 u30 u31 u32 u33 u34 u35 u36 u37 u38 u39 u40 u41 u42 u43 u44 : Value) (N : Act → World → Prop)
    (HN : Aside (∀ (v6 v7 v8 v9 v10 v11 v12 v13 v14 : Value) (W : World), Fr (fun _ _ => False) w W → N ⟨#[u0, .pointer (some ⟨p7, 0, none⟩), u2, u3, u4, u5, v6, v7, v8, v9, v10, v11, v12, v13, v14, .bool p2, u16, u17, u18, u19, u20, u21, u22, u23, u24, u25, u26, u27, u28, u29, u30, u31, u32, u33, u34, u35, u36, u37, u38, u39, u40, u41, u42, u43, u44], []⟩ W)) :
    Code.wp Tryz.prog c (QN N) ⟨#[u0, .pointer (some ⟨p7, 0, none⟩), u2, u3, u4, u5, u6, u7, u8, u9, u10, u11, u12, u13, u14, u15, u16, u17, u18, u19, u20, u21, u22, u23, u24, u25, u26, u27, u28, u29, u30, u31, u32, u33, u34, u35, u36, u37, u38, u39, u40, u41, u42, u43, u44], []⟩ w := by
  subst hc
  conv => arg 2; whnf
  refine wp_region_held (S := (fun w9 => Fr (fun _ _ => False) w w9)) (by kernel_rfl) ?_
  change wpAnyH _ _ _ _ _ _ _ _ (World.drew _)
  have hfd : Fr (fun _ _ => False) w w.drew := (Fr.refl _ w).drew
  generalize w.drew = wd at hfd ⊢
  refine wpAnyH_take (i := 0) (v := ?_) rfl (by kernel_rfl) (by kernel_rfl) (by kernel_rfl) (fun _ _ _ h => h) (Or.inl ⟨by kernel_rfl, ?_⟩) hfd ?_
  rotate_left 1
  · intro w9 hF9
    have q0 := (hF9.cell p7 0 l7 (fun q => q)).trans x0
    have q1 := (hF9.cell p7 1 l7 (fun q => q)).trans x1
    go_simp
    try with_reducible rfl
  try simp only [Act.put, List.setIfInBounds_toArray, List.set_cons_zero, List.set_cons_succ]
  refine wpAnyH_ready (rs := [1]) (by kernel_rfl) (by simp) ?_
  refine AllReadyH.cons rfl (fun K hK => ?_) AllReadyH.nil
  go_simp
  go_must (refine (H1.out _ hfd).mono ?_; rintro e1 w225 ⟨b1, b2, b3, b4, rfl, HC1, k226⟩)
  have f227 := hfd.trans k226
  refine Shut.out hK _ _ f227 (fun _ => ?_)
  clear hK K
  try simp only [Act.put, List.setIfInBounds_toArray, List.set_cons_zero, List.set_cons_succ]
  refine wpAnyH_ready (rs := [2]) (by kernel_rfl) (by simp) ?_
  refine AllReadyH.cons rfl (fun K hK => ?_) AllReadyH.nil
  go_simp
  go_must (refine (HC1.out _ (Fr.refl (fun _ _ => False) w225)).mono ?_; rintro e1 w228 ⟨r1, rfl, hr1, k229⟩)
  have f230 := f227.trans k229
  have f231 := (Fr.refl (fun _ _ => False) w225).trans k229
  refine Shut.out hK _ _ f230 (fun _ => ?_)
  clear hK K
  try simp only [Act.put, List.setIfInBounds_toArray, List.set_cons_zero, List.set_cons_succ]
  refine wpAnyH_take (i := 3) (v := ?_) rfl (by kernel_rfl) (by kernel_rfl) (by kernel_rfl) (fun _ _ _ h => h) (Or.inl ⟨by kernel_rfl, ?_⟩) f230 ?_
  rotate_left 1
  · intro w9 hF9
    go_simp
    try with_reducible rfl
  try simp only [Act.put, List.setIfInBounds_toArray, List.set_cons_zero, List.set_cons_succ]
  refine wpAnyH_take (i := 4) (v := ?_) rfl (by kernel_rfl) (by kernel_rfl) (by kernel_rfl) (fun _ _ _ h => h) (Or.inl ⟨by kernel_rfl, ?_⟩) f230 ?_
  rotate_left 1
  · intro w9 hF9
    go_simp
    try with_reducible rfl
  try simp only [Act.put, List.setIfInBounds_toArray, List.set_cons_zero, List.set_cons_succ]
  refine wpAnyH_take (i := 5) (v := ?_) rfl (by kernel_rfl) (by kernel_rfl) (by kernel_rfl) (fun _ _ _ h => h) (Or.inl ⟨by kernel_rfl, ?_⟩) f230 ?_
  rotate_left 1
  · intro w9 hF9
    have q0 := (hF9.cell p7 0 l7 (fun q => q)).trans x0
    have q1 := (hF9.cell p7 1 l7 (fun q => q)).trans x1
    go_simp
    try with_reducible rfl
  try simp only [Act.put, List.setIfInBounds_toArray, List.set_cons_zero, List.set_cons_succ]
  refine wpAnyH_ready (rs := [6]) (by kernel_rfl) (by simp) ?_
  refine AllReadyH.cons rfl (fun K hK => ?_) AllReadyH.nil
  go_simp
  go_must (refine (H2.out _ f230).mono ?_; rintro e1 w232 ⟨c1, c2, c3, c4, rfl, HC2, k233⟩)
  have f234 := f230.trans k233
  have f235 := f231.trans k233
  refine Shut.out hK _ _ f234 (fun _ => ?_)
  clear hK K
  try simp only [Act.put, List.setIfInBounds_toArray, List.set_cons_zero, List.set_cons_succ]
  refine wpAnyH_ready (rs := [7]) (by kernel_rfl) (by simp) ?_
  refine AllReadyH.cons rfl (fun K hK => ?_) AllReadyH.nil
  go_simp
  go_must (refine (HC2.out _ (Fr.refl (fun _ _ => False) w232)).mono ?_; rintro e1 w236 ⟨r2, rfl, hr2, k237⟩)
  have f238 := f234.trans k237
  have f239 := f235.trans k237
  have f240 := (Fr.refl (fun _ _ => False) w232).trans k237
  refine Shut.out hK _ _ f238 (fun _ => ?_)
  clear hK K
  try simp only [Act.put, List.setIfInBounds_toArray, List.set_cons_zero, List.set_cons_succ]
  refine wpAnyH_take (i := 8) (v := ?_) rfl (by kernel_rfl) (by kernel_rfl) (by kernel_rfl) (fun _ _ _ h => h) (Or.inl ⟨by kernel_rfl, ?_⟩) f238 ?_
  rotate_left 1
  · intro w9 hF9
    go_simp
    try with_reducible rfl
  try simp only [Act.put, List.setIfInBounds_toArray, List.set_cons_zero, List.set_cons_succ]
  refine wpAnyH_take (i := 9) (v := ?_) rfl (by kernel_rfl) (by kernel_rfl) (by kernel_rfl) (fun _ _ _ h => h) (Or.inl ⟨by kernel_rfl, ?_⟩) f238 ?_
  rotate_left 1
  · intro w9 hF9
    go_simp
    try with_reducible rfl
  try simp only [Act.put, List.setIfInBounds_toArray, List.set_cons_zero, List.set_cons_succ]
  refine wpAnyH_done (by kernel_rfl) ?_ _
  exact HN.out _ _ _ _ _ _ _ _ _ _ f238
end Go.Proofs.YtgilnnipephfjaaGreatDoor
namespace Go.Proofs.YtgilnnipephfjaaGreatDoor
open Go.RowKit

set_option maxRecDepth 100000 in
set_option maxHeartbeats 1000000 in
theorem of_sign {w : World} (n : Int) (hG : NG ≤ w.heap.size) (h0 : -9223372036854775808 ≤ n) (h1 : n ≤ 9223372036854775807) :
    Calls Tryz.prog 35 #[.int .i64 n] w fun e1 w' => ∃ a m c, e1 = .returned (.agg #[.bool (decide (n < 0)), .slice a m c]) ∧ Bf w' a m c (dlow n.natAbs) ∧ Fr (fun _ _ => False) w w' := by
  have hlt := abs_lt n h0 h1
  have F0 := Aside.mk ((Fr.refl (fun _ _ => False) w).alloc (.cells #[.bool false, .slice none 0 0] 45))
  have H := Lib.hid (ofUint_any (w := w.alloc (.cells #[.bool false, .slice none 0 0] 45)) n.natAbs (by simp; omega) hlt)
  by_cases hn : n < 0
  · have hw : IntKind.u64.wrap (IntKind.u64.wrap (wrap64 (-wrap64 (n + 1))) + 1) = (n.natAbs : Int) := by
      rw [IntKind.wrap_u64, IntKind.wrap_u64]; unfold wrap64; omega
    have HW := Aside.mk hw
    have hd : decide (n < 0) = true := by simpa using hn
    have HD := Aside.mk hd
    clear h0 h1 hw hlt hd
    go_enter Tryz.func35, Tryz.ntmps35
    go_wp2_with fail
    rw [HW.out]
    refine H.out.mono ?_
    rintro e1 w1 ⟨a, m, c, rfl, k1, k2⟩
    obtain ⟨r0, r1, r2, r3, r4⟩ := res2 k2
    have K1 := Aside.mk k1
    have K2 := Aside.mk (F0.out.trans k2)
    have HR := Aside.mk r4
    clear k1 k2 H
    go_wp2_with fail
    rw [HD.out]
    refine bodyPost_ret (v := .agg #[.bool true, .slice a m c]) (by simp [results, Tryz.results35, go_sem, r0, r1, HR.out]) rfl ⟨a, m, c, rfl, ?_, ?_⟩
    · exact (K1.out.res (by intro z q; cases q) r0 r1 _ _).fr ((Fr.refl (fun _ _ => False) _).alloc _) (fun _ _ _ q => q)
    · exact ((K2.out.setCell w.heap.size 0 _ (fun q => by omega)).setCell w.heap.size 1 _ (fun q => by omega)).alloc _
  · have hw : IntKind.u64.wrap n = (n.natAbs : Int) := by rw [IntKind.wrap_u64]; omega
    have HW := Aside.mk hw
    have hd : decide (n < 0) = false := by simpa using hn
    have HD := Aside.mk hd
    clear h0 h1 hw hlt hd
    go_enter Tryz.func35, Tryz.ntmps35
    go_wp2_with fail
    rw [HW.out]
    refine H.out.mono ?_
    rintro e1 w1 ⟨a, m, c, rfl, k1, k2⟩
    obtain ⟨r0, r1, r2, r3, r4⟩ := res2 k2
    have K1 := Aside.mk k1
    have K2 := Aside.mk (F0.out.trans k2)
    clear k1 k2 H
    go_wp2_with fail
    rw [HD.out]
    refine bodyPost_ret (v := .agg #[.bool false, .slice a m c]) (by simp [results, Tryz.results35, go_sem, r0, r1]) rfl ⟨a, m, c, rfl, ?_, ?_⟩
    · exact K1.out.res (by intro z q; cases q) r0 r1 _ _
    · exact (K2.out.setCell w.heap.size 0 _ (fun q => by omega)).setCell w.heap.size 1 _ (fun q => by omega)
theorem cmp_low (s : Bool) (X : Nat) : decide (cmpS s X true (2 ^ 63) < 0) = (s && decide (2 ^ 63 < X)) := by
  unfold cmpS sg
  cases s <;> simp <;> (repeat' split) <;> omega
theorem cmp_high (s : Bool) (X : Nat) : decide (0 < cmpS s X false (2 ^ 63 - 1)) = (!s && decide (2 ^ 63 - 1 < X)) := by
  unfold cmpS sg
  cases s <;> simp <;> (repeat' split) <;> omega
theorem top_step {X k : Nat} : X / 10 ^ k = 10 * (X / 10 ^ (k + 1)) + dg X k := by
  unfold dg
  rw [Nat.pow_succ, ← Nat.div_div_eq_div_mul]
  omega
theorem small_wrap {n : Bool} {X k : Nat} (h : X ≤ lim64 n) : (if n then IntKind.i64.wrap (10 * flip n ((X / 10 ^ (k + 1) : Nat) : Int) - ((dg X k : Nat) : Int)) else IntKind.i64.wrap (10 * flip n ((X / 10 ^ (k + 1) : Nat) : Int) + ((dg X k : Nat) : Int))) = flip n ((X / 10 ^ k : Nat) : Int) ∧
    (if n then IntKind.i64.wrap (IntKind.i64.wrap (10 * flip n ((X / 10 ^ (k + 1) : Nat) : Int)) - ((dg X k : Nat) : Int)) else IntKind.i64.wrap (IntKind.i64.wrap (10 * flip n ((X / 10 ^ (k + 1) : Nat) : Int)) + ((dg X k : Nat) : Int))) = flip n ((X / 10 ^ k : Nat) : Int) := by
  have h1 := top_step (X := X) (k := k)
  have h2 : X / 10 ^ k ≤ X := Nat.div_le_self _ _
  have h3 : dg X k < 10 := dg_lt X k
  unfold lim64 at h
  unfold flip
  generalize X / 10 ^ k = A at *
  generalize X / 10 ^ (k + 1) = C at *
  cases n
  · simp at h ⊢; rw [IntKind.wrap_i64, IntKind.wrap_i64, IntKind.wrap_i64]; omega
  · simp at h ⊢; rw [IntKind.wrap_i64, IntKind.wrap_i64, IntKind.wrap_i64]; omega
theorem lim_parts (s : Bool) (X : Nat) : decide (X ≤ lim64 s) = (!(s && decide (2 ^ 63 < X)) && !(!s && decide (2 ^ 63 - 1 < X))) := by
  have k : ∀ a b : Nat, decide (a ≤ b) = !decide (b < a) := fun a b => by
    by_cases h : a ≤ b
    · have h2 : ¬ b < a := by omega
      rw [decide_eq_true h, decide_eq_false h2]; rfl
    · have h2 : b < a := by omega
      rw [decide_eq_false h, decide_eq_true h2]; rfl
  unfold lim64
  rw [k]
  cases s <;> simp
theorem small_step {n : Bool} {X k : Nat} {v d : Int} (h : X ≤ lim64 n) (hv : v = flip n ((X / 10 ^ (k + 1) : Nat) : Int)) (hd : d = ((dg X k : Nat) : Int)) :
    wrap64 (wrap64 (10 * v) + (if n then -d else d)) = flip n ((X / 10 ^ k : Nat) : Int) := by
  rw [← w64_eq, ← w64_eq]
  subst hv; subst hd
  have h1 := (small_wrap h (k := k)).2
  cases n
  · simpa using h1
  · simp at h1 ⊢
    rw [← h1]
    rfl
set_option maxRecDepth 100000 in
set_option maxHeartbeats 2000000 in
theorem small_any {w : World} {a : Option Addr} {m c X : Nat} (s : Bool) (hG : NG ≤ w.heap.size) (hB : Bf w a m c (dlow X)) (hm : m ≤ 100000) :
    Calls Tryz.prog 39 #[.agg #[.bool s, .slice a m c]] w fun e1 w' => ∃ v, e1 = .returned (.tuple #[.int .i64 v, .bool (decide (X ≤ lim64 s))]) ∧ Aside (X ≤ lim64 s → v = flip s ((X : Nat) : Int)) ∧ Aside (Fr (fun _ _ => False) w w') := by
  obtain ⟨w1, hw1⟩ : ∃ x, w.alloc (.cells #[.bool s, .slice a m c] 45) = x := ⟨_, rfl⟩
  have F1 : Fr (fun _ _ => False) w w1 := by rw [← hw1]; exact (Fr.refl _ w).alloc _
  have x0 : w1.cell? ⟨w.heap.size, 0, none⟩ = some (.bool s) := by rw [← hw1, World.cell?_alloc_new]; rfl
  have x1 : w1.cell? ⟨w.heap.size, 1, none⟩ = some (.slice a m c) := by rw [← hw1, World.cell?_alloc_new]; rfl
  have hs1 : w.heap.size < w1.heap.size := by rw [← hw1]; simp
  have hB1 := hB.fr F1 (fun _ _ _ q => q)
  obtain ⟨p1, hp1⟩ : ∃ x, (s && decide (2 ^ 63 < X)) = x := ⟨_, rfl⟩
  obtain ⟨p2, hp2⟩ : ∃ x, (!s && decide (2 ^ 63 - 1 < X)) = x := ⟨_, rfl⟩
  have HP : Aside (decide (X ≤ lim64 s) = (!p1 && !p2)) := ⟨by rw [lim_parts, hp1, hp2]⟩
  have H1 : Hid (∀ wa, Fr (fun _ _ => False) w1 wa → Calls Tryz.prog 35 #[.int .i64 (-9223372036854775808)] wa fun e1 w2 => ∃ b1 b2 b3 b4, e1 = .returned (.agg #[.bool b1, .slice b2 b3 b4]) ∧
      Hid (∀ w5, Fr (fun _ _ => False) w2 w5 → Calls Tryz.prog 17 #[.agg #[.bool s, .slice a m c], .agg #[.bool b1, .slice b2 b3 b4]] w5 fun e1 w6 => ∃ r, e1 = .returned (.int .i64 r) ∧ decide (r < 0) = p1 ∧ Fr (fun _ _ => False) w5 w6) ∧ Fr (fun _ _ => False) wa w2) := Lib.hid (fun wa fa => by
    refine (of_sign (-9223372036854775808) (Nat.le_trans (Nat.le_trans hG F1.size) fa.size) (by omega) (by omega)).mono ?_
    rintro e1 w2 ⟨b2, b3, b4, rfl, k1, k2⟩
    refine ⟨_, _, _, _, rfl, Lib.hid (fun w5 f5 => ?_), k2⟩
    have hl : b3 ≤ 1000000 := by have := k1.len; have := dlow_len_le (n := (-9223372036854775808 : Int).natAbs) (by decide); omega
    refine (ncmp_any s true (hB1.fr ((fa.trans k2).trans f5) (fun _ _ _ q => q)) (k1.fr f5 (fun _ _ _ q => q)) (by omega) hl).mono ?_
    rintro e1 w6 ⟨rfl, k3⟩
    exact ⟨_, rfl, by rw [← hp1]; exact cmp_low s X, k3⟩)
  have H2 : Hid (∀ wa, Fr (fun _ _ => False) w1 wa → Calls Tryz.prog 35 #[.int .i64 9223372036854775807] wa fun e1 w2 => ∃ b1 b2 b3 b4, e1 = .returned (.agg #[.bool b1, .slice b2 b3 b4]) ∧
      Hid (∀ w5, Fr (fun _ _ => False) w2 w5 → Calls Tryz.prog 17 #[.agg #[.bool s, .slice a m c], .agg #[.bool b1, .slice b2 b3 b4]] w5 fun e1 w6 => ∃ r, e1 = .returned (.int .i64 r) ∧ decide (0 < r) = p2 ∧ Fr (fun _ _ => False) w5 w6) ∧ Fr (fun _ _ => False) wa w2) := Lib.hid (fun wa fa => by
    refine (of_sign 9223372036854775807 (Nat.le_trans (Nat.le_trans hG F1.size) fa.size) (by omega) (by omega)).mono ?_
    rintro e1 w2 ⟨b2, b3, b4, rfl, k1, k2⟩
    refine ⟨_, _, _, _, rfl, Lib.hid (fun w5 f5 => ?_), k2⟩
    have hl : b3 ≤ 1000000 := by have := k1.len; have := dlow_len_le (n := (9223372036854775807 : Int).natAbs) (by decide); omega
    refine (ncmp_any s false (hB1.fr ((fa.trans k2).trans f5) (fun _ _ _ q => q)) (k1.fr f5 (fun _ _ _ q => q)) (by omega) hl).mono ?_
    rintro e1 w6 ⟨rfl, k3⟩
    exact ⟨_, rfl, by rw [← hp2]; exact cmp_high s X, k3⟩)
  have HF := Aside.mk F1
  have HB := Aside.mk hB1
  have HX0 := Aside.mk x0
  have HX1 := Aside.mk x1
  have HS1 := Aside.mk hs1
  clear hB hB1 hp1 hp2 F1
  cases p1
  case true =>
    go_enter Tryz.func39, Tryz.ntmps39
    go_upto_region 1 with fail
    try rw [hw1]
    clear hw1
    refine wp_QN (sm1_true (p2 := true) (by kernel_rfl) hs1 x0 x1 H1 _ _ _ _ _ _ _ _ _ _ _ _ _ _ _ _ _ _ _ _ _ _ _ _ _ _ _ _ _ _ _ _ _ _ _ _ _ _ _ _ _ _ _ _ _ ⟨?_⟩)
    intro v6 v7 v8 v9 v10 v11 v12 v13 v14 W F
    have FW := Aside.mk F
    clear F H1 H2 x0 x1 hs1
    go_wp2_with fail
    go_ret2
    refine ⟨_, by rw [HP.out]; rfl, ⟨fun q => ?_⟩, ⟨HF.out.trans FW.out⟩⟩
    have := HP.out
    simp at this
    omega
  case false =>
    go_enter Tryz.func39, Tryz.ntmps39
    go_upto_region 1 with fail
    try rw [hw1]
    clear hw1
    refine wp_QN (sm1_false (by kernel_rfl) hs1 x0 x1 H1 H2 _ _ _ _ _ _ _ _ _ _ _ _ _ _ _ _ _ _ _ _ _ _ _ _ _ _ _ _ _ _ _ _ _ _ _ _ _ _ _ _ _ _ _ _ _ ⟨?_⟩)
    intro v6 v7 v8 v9 v10 v11 v12 v13 v14 W F
    have FW := Aside.mk F
    clear F H1 H2 x0 x1 hs1
    cases p2
    case true =>
      go_wp2_with fail
      go_ret2
      refine ⟨_, by rw [HP.out]; rfl, ⟨fun q => ?_⟩, ⟨HF.out.trans FW.out⟩⟩
      have := HP.out
      simp at this
      omega
    case false =>
      have hle : X ≤ lim64 s := by have := HP.out; simpa using this
      have HLE := Aside.mk hle
      have x0 := (FW.out.cell w.heap.size 0 HS1.out (fun q => q)).trans HX0.out
      have x1 := (FW.out.cell w.heap.size 1 HS1.out (fun q => q)).trans HX1.out
      have HBW := Aside.mk (HB.out.fr FW.out (fun _ _ _ q => q))
      have hlen : (dlow X).length = m := HBW.out.len
      have hst : flip s ((X / 10 ^ m : Nat) : Int) = 0 := by
        have := dlow_lt X
        rw [hlen] at this
        rw [Nat.div_eq_of_lt this]
        cases s <;> rfl
      have HST := Aside.mk hst
      have HLN := Aside.mk hlen
      clear hle hst hlen
      go_wp2_with fail
      go_loopw [4, 5] (fun nv iv wr => wr = W ∧ ∃ (r : Nat) (v : Int), r ≤ m ∧ nv = .int .i64 v ∧ iv = .int .i64 ((r : Int) - 1) ∧ Aside (v = flip s ((X / 10 ^ r : Nat) : Int))) (fun _ iv _ => (intOf iv + 1).toNat)
      case atStart => exact ⟨rfl, m, 0, Nat.le_refl _, rfl, rfl, ⟨HST.out.symm⟩⟩
      case round =>
        obtain ⟨rfl, r, v, hr, rfl, rfl, hv⟩ := hrel
        cases r with
        | zero =>
          go_wp2_with fail
          go_ret2
          exact ⟨_, by rw [HP.out]; rfl, ⟨fun _ => by have := hv.out; simpa using this⟩, ⟨HF.out.trans FW.out⟩⟩
        | succ k =>
          have hk : k < (dlow X).length := by rw [HLN.out]; omega
          obtain ⟨ab, ao, ha, hca, _⟩ := HBW.out.pos (by omega)
          have cx := hca k hk
          rw [dlow_get] at cx
          have hdg := dg_lt X k
          obtain ⟨d, hd⟩ : ∃ d, dg X k = d := ⟨_, rfl⟩
          rw [hd] at cx hdg
          rw [ha] at x1
          have hstp := Aside.mk (small_step HLE.out hv.out (d := ((d : Nat) : Int)) (by rw [hd]))
          have hd64 : IntKind.i64.wrap ((d : Nat) : Int) = (d : Nat) := by rw [IntKind.wrap_i64]; omega
          rw [show ((k + 1 : Nat) : Int) - 1 = (k : Int) from by omega]
          clear hca hk ha hd hv
          cases s
          · go_wp2_with fail
            go_roundw
            case rel => exact ⟨trivial, k, wrap64 (wrap64 (10 * v) + (d : Int)), by omega, rfl, by go_num, ⟨by simpa using hstp.out⟩⟩
            case measure => simp [intOf]
          · go_wp2_with fail
            go_roundw
            case rel => exact ⟨trivial, k, wrap64 (wrap64 (10 * v) - (d : Int)), by omega, rfl, by go_num, ⟨by simpa [Int.sub_eq_add_neg] using hstp.out⟩⟩
            case measure => simp [intOf]
end Go.Proofs.YtgilnnipephfjaaGreatDoor
namespace Go.Proofs.YtgilnnipephfjaaGreatDoor
open Go.RowKit

theorem mvY_zero {e : Int} {X : Nat} (h0 : X ≠ 0) (he : e ≤ 0) : (mvY e X = 0) = (X % 10 ^ (-e).toNat = 0) := by
  unfold mvY
  rw [if_neg (by omega)]
  split
  · rename_i h
    have : X < 10 ^ (-e).toNat := Nat.lt_of_lt_of_le (lt_ndig X) (Nat.pow_le_pow_right (by omega) (by omega))
    rw [Nat.mod_eq_of_lt this]
  · rfl
theorem szI_low {e : Int} {X : Nat} (he : e ≤ 0) (h : X % 10 ^ (-e).toNat = 0) (h0 : X ≠ 0) : szI e X = X / 10 ^ (-e).toNat := by
  unfold szI mvX mvE
  have hn : ¬ 0 < e := by omega
  rw [if_neg hn, if_neg hn]
  split
  · rename_i q
    have : X < 10 ^ (-e).toNat := Nat.lt_of_lt_of_le (lt_ndig X) (Nat.pow_le_pow_right (by omega) (by omega))
    rw [Nat.mod_eq_of_lt this] at h
    exact absurd h h0
  · simp
theorem szI_high {e : Int} {X : Nat} (he : 0 ≤ e) : szI e X = X * 10 ^ e.toNat := by
  unfold szI mvX mvE
  by_cases h : 0 < e
  · rw [if_pos h, if_pos h]
  · have : e = 0 := by omega
    subst this
    have := ndig_pos X
    have hn : ¬ (ndig X : Int) < -0 := by omega
    rw [if_neg h, if_neg h, if_neg hn]
    simp
theorem mvY_high {e : Int} {X : Nat} (he : 0 ≤ e) : mvY e X = 0 := by
  unfold mvY
  by_cases h : 0 < e
  · rw [if_pos h]
  · have : e = 0 := by omega
    subst this
    have := ndig_pos X
    rw [if_neg (by omega), if_neg (by omega)]
    simp [Nat.mod_one]
theorem big20 {X : Nat} {n : Bool} {k : Nat} (h0 : X ≠ 0) (h : 20 < k) : ¬ X * 10 ^ k ≤ lim64 n := by
  have h1 : 10 ^ 21 ≤ 10 ^ k := Nat.pow_le_pow_right (by omega) h
  have h2 : 1 * 10 ^ k ≤ X * 10 ^ k := Nat.mul_le_mul_right _ (by omega)
  have h3 : lim64 n ≤ 2 ^ 63 := by unfold lim64; cases n <;> simp
  have h4 : 2 ^ 63 < 10 ^ 21 := by decide
  omega
theorem strip_step {X k : Nat} (h : X % 10 ^ k = 0) (h1 : X / 10 ^ k % 10 = 0) : X % 10 ^ (k + 1) = 0 ∧ X / 10 ^ k / 10 = X / 10 ^ (k + 1) := by
  constructor
  · rw [Nat.pow_succ, Nat.mod_mul, h, h1]
    simp
  · rw [Nat.pow_succ, Nat.div_div_eq_div_mul]
theorem strip_stop {X k m : Nat} (h1 : X / 10 ^ k % 10 ≠ 0) (hm : k < m) : X % 10 ^ m ≠ 0 := by
  intro h
  apply h1
  obtain ⟨j, rfl⟩ : ∃ j, m = k + 1 + j := ⟨m - k - 1, by omega⟩
  have hd : 10 ^ (k + 1 + j) ∣ X := Nat.dvd_of_mod_eq_zero h
  have hd2 : 10 ^ (k + 1) ∣ X := Nat.dvd_trans (Nat.pow_dvd_pow 10 (by omega)) hd
  obtain ⟨q, rfl⟩ := hd2
  rw [Nat.pow_succ, Nat.mul_assoc, Nat.mul_div_cancel_left _ (Nat.pow_pos (by omega)), Nat.mul_mod_right]
/-- A number of the reference's in a box that may be written. -/
structure NB (w : World) (p : Nat) (s : Bool) (V : Nat) (a : Option Addr) (m c : Nat) : Prop where
  c0 : w.cell? ⟨p, 0, none⟩ = some (.bool s)
  c1 : w.cell? ⟨p, 1, none⟩ = some (.slice a m c)
  f0 : w.frozen? ⟨p, 0, none⟩ = false
  f1 : w.frozen? ⟨p, 1, none⟩ = false
  bf : Bf w a m c (dlow V)
theorem NB.lt {w : World} {p : Nat} {s : Bool} {V : Nat} {a : Option Addr} {m c : Nat} (h : NB w p s V a m c) : p < w.heap.size := World.block_lt_of_cell? w _ h.c0
theorem NB.fr {w w' : World} {p : Nat} {s : Bool} {V : Nat} {a : Option Addr} {m c : Nat} (h : NB w p s V a m c) (f : Fr (fun _ _ => False) w w') : NB w' p s V a m c :=
  ⟨(f.cell _ _ h.lt (fun q => q)).trans h.c0, (f.cell _ _ h.lt (fun q => q)).trans h.c1, (f.frozen _ _ h.lt).trans h.f0, (f.frozen _ _ h.lt).trans h.f1, h.bf.fr f (fun _ _ _ q => q)⟩
theorem NB.put {w : World} {p : Nat} {s s' : Bool} {V V' : Nat} {a a' : Option Addr} {m c m' c' : Nat} (h : NB w p s V a m c) (hb : Bf w a' m' c' (dlow V')) :
    NB ((w.setCell ⟨p, 0, none⟩ (.bool s')).setCell ⟨p, 1, none⟩ (.slice a' m' c')) p s' V' a' m' c' :=
  ⟨(World.cell?_setCell_other _ _ _ _ (by simp)).trans (World.cell?_setCell_same _ _ _ h.c0), World.cell?_setCell_same _ _ _ ((World.cell?_setCell_other _ _ _ _ (by simp)).trans h.c1),
   by rw [World.frozen?_setCell, World.frozen?_setCell]; exact h.f0, by rw [World.frozen?_setCell, World.frozen?_setCell]; exact h.f1, hb.res (by intro z q; cases q) h.c0 h.c1 _ _⟩
theorem NB.set2 {w : World} {p q : Nat} {v0 v1 : Value} (f : Fr (fun b _ => b = q) w w) : Fr (fun b _ => b = q) w ((w.setCell ⟨q, 0, none⟩ v0).setCell ⟨q, 1, none⟩ v1) := (f.setCell q 0 _ (fun _ => rfl)).setCell q 1 _ (fun _ => rfl)
theorem sg1_false (X : Nat) : sg1 false X = false := by unfold sg1; rfl
/-- What the loop of divisions keeps: the decimal's box, the number's box. -/
structure IL (W wr : World) (db xb : Nat) (n : Bool) (e : Int) (s : ByteArray) (V : Nat) (a : Option Addr) (m c : Nat) : Prop where
  d : D4 wr db 0 n e s
  x : NB wr xb false V a m c
  f : Fr (fun b _ => b = xb) W wr
set_option maxRecDepth 100000 in
set_option maxHeartbeats 4000000 in
theorem integer_any {w : World} {e : Int} {n : Bool} {s : ByteArray} {X : Nat} (hG : NG ≤ w.heap.size) (hd : Digs s.data.toList) (h0 : 0 < s.size) (hs : s.size ≤ 300) (he0 : -2500 ≤ e) (he1 : e ≤ 2500) (hX : numOf s.data.toList = X) :
    Calls Tryz.prog 12 #[.agg #[.int .i64 0, .bool n, .int .i32 e, .string s]] w fun ex w' => ∃ v, ex = .returned (.tuple #[.int .i64 v, .bool (isI n e X)]) ∧ Aside (isI n e X = true → v = flip n (szI e X : Nat)) ∧ Aside (Fr (fun _ _ => False) w w') := by
  obtain ⟨sz, hsz⟩ : ∃ x, w.heap.size = x := ⟨_, rfl⟩
  obtain ⟨w1, hw1⟩ : ∃ x, w.alloc (.cells #[.int .i64 0, .bool n, .int .i32 e, .string s] 24) = x := ⟨_, rfl⟩
  have f1 : Fr (fun _ _ => False) w w1 := by rw [← hw1]; exact (Fr.refl _ w).alloc _
  have cd : D4 w1 sz 0 n e s := by rw [← hw1, ← hsz]; exact D4.new (w := w) 0 e n s 24
  obtain ⟨d0, d1, d2, d3, _⟩ := E8.of cd
  have hD : Hid (Calls Tryz.prog 15 #[.string s] w1 fun e1 w' => ∃ a m c, e1 = .returned (.tuple #[.agg #[.bool false, .slice a m c], .bool true]) ∧ Aside (m ≤ 300 ∧ Bf w' a m c (dlow X) ∧ Fr (fun _ _ => False) w1 w')) := Lib.hid (by
    refine (digits_any (Nat.le_trans hG f1.size) hd h0 (by omega)).mono ?_
    rintro e1 w' ⟨a, m, c, rfl, k1, k2, k3⟩
    rw [hX] at k2
    exact ⟨a, m, c, rfl, ⟨by omega, k2, k3⟩⟩)
  have HE := Aside.mk (And.intro he0 he1)
  have hwe : IntKind.i64.wrap e = e := by rw [IntKind.wrap_i64]; omega
  have HC := Aside.mk (And.intro hG (And.intro f1 cd))
  have hz1 : Aside (w1.heap.size = sz + 1) := ⟨by rw [← hw1, ← hsz]; simp⟩
  clear hd h0 hs hX hG f1 cd he0 he1
  go_enter Tryz.func12, Tryz.ntmps12
  go_wp2_with fail
  clear hw1
  refine hD.out.mono ?_
  rintro e1 w2 ⟨a, m, c, rfl, HB⟩
  clear hD d0 d1 d2 d3
  go_upto_region 2 with fail
  obtain ⟨xb, hxb⟩ : ∃ x, w2.heap.size = x := ⟨_, rfl⟩
  obtain ⟨W, hW⟩ : ∃ x, w2.alloc (.cells #[.bool false, .slice a m c] 45) = x := ⟨_, rfl⟩
  have g2 : Fr (fun _ _ => False) w2 W := by rw [← hW]; exact (Fr.refl _ w2).alloc _
  have F2 : Fr (fun _ _ => False) w W := (HC.out.2.1.trans HB.out.2.2).trans g2
  have hk2 : kind? W xb = some (45, (0, 0)) := by rw [← hW, ← hxb]; exact kind_alloc_new _ _ _ _
  have cx : ∀ o, W.cell? ⟨xb, o, none⟩ = (#[.bool false, .slice a m c] : Array Value)[o]? := fun o => by rw [← hW, ← hxb, World.cell?_alloc_new]
  have hN : NB W xb false X a m c := ⟨cx 0, cx 1, free_of_kind hk2 0, free_of_kind hk2 1, HB.out.2.1.fr g2 (fun _ _ _ q => q)⟩
  have hD2 : D4 W sz 0 n e s := HC.out.2.2.fr (HB.out.2.2.trans g2) (fun _ q => q)
  have hlt : sz < xb := by have := HB.out.2.2.size; have := hz1.out; omega
  have HN := Aside.mk hN
  have HD2 := Aside.mk hD2
  have HF2 := Aside.mk F2
  have HL := Aside.mk hlt
  have HSZ := Aside.mk (And.intro hsz hxb)
  have x0 := hN.c0
  have x1 := hN.c1
  have HZ := Lib.hid (zero_any false hN.bf)
  try rw [hW]
  try rw [hxb]
  clear hW hsz hxb g2 F2 hk2 cx hN hD2 hlt
  go_wp2_with fail
  refine HZ.out.mono ?_
  rintro e1 w3 ⟨rfl, f3⟩
  have F3 := Aside.mk f3
  clear HZ f3 x0 x1
  by_cases hX0 : X = 0
  · have hq : decide (X = 0) = true := by simpa using hX0
    have hI : isI n e X = true := by
      subst hX0
      unfold isI szI mvY mvX
      simp
    have hv : (0 : Int) = flip n (szI e X : Nat) := by
      subst hX0
      unfold szI mvX
      cases n <;> simp [flip]
    have HH := Aside.mk (And.intro hI hv)
    clear hX0 hI hv
    go_wp2_with fail
    go_ret2
    exact ⟨_, by rw [HH.out.1]; rfl, ⟨fun _ => HH.out.2⟩, ⟨HF2.out.trans F3.out⟩⟩
  · have hq : decide (X = 0) = false := by simpa using hX0
    have HX0 := Aside.mk hX0
    obtain ⟨d0, d1, d2, d3, _⟩ := E8.of (HD2.out.fr F3.out (fun _ q => q))
    clear hX0
    go_wp2_with fail
    clear hq d0 d1 d2 d3
    have HI0 : Aside (IL W w3 sz xb n e s X a m c) := ⟨HD2.out.fr F3.out (fun _ q => q), HN.out.fr F3.out, F3.out.mono (fun _ _ _ q => q.elim)⟩
    have hma := HB.out.1
    have HMA := Aside.mk hma
    clear HN HD2 F3 HB hma
    go_loopw [6, 7, 8] (fun nv _ _ wr => ∃ (k : Nat) (a : Option Addr) (m c : Nat), nv = .int .i64 (e + (k : Nat)) ∧ Aside ((k = 0 ∨ e + (k : Nat) ≤ 0) ∧ X % 10 ^ k = 0 ∧ m ≤ 14000 ∧ IL W wr sz xb n e s (X / 10 ^ k) a m c)) (fun nv _ _ _ => (-(intOf nv)).toNat)
    case atStart => exact ⟨0, a, m, c, by simp, ⟨.inl rfl, by simp [Nat.mod_one], by have := HMA.out; omega, by rw [Nat.pow_zero, Nat.div_one]; exact HI0.out⟩⟩
    case round =>
      clear HI0 HMA
      obtain ⟨k, a, m, c, rfl, hI⟩ := hrel
      obtain ⟨E, hE⟩ : ∃ E, e + (k : Int) = E := ⟨_, rfl⟩
      obtain ⟨V, hV⟩ : ∃ V, X / 10 ^ k = V := ⟨_, rfl⟩
      rw [hE] at hI ⊢
      rw [hV] at hI
      have HEV := Aside.mk (And.intro hE hV)
      have hk0 := hI.out.2.2.2.x.lt
      clear hE hV
      by_cases hneg : E < 0
      · have q1 : decide (E < 0) = true := by simpa using hneg
        have HNEG := Aside.mk hneg
        have x0 := hI.out.2.2.2.x.c0
        have x1 := hI.out.2.2.2.x.c1
        have hGr : Aside (NG ≤ wr.heap.size) := ⟨Nat.le_trans HC.out.1 (Nat.le_trans HF2.out.size hI.out.2.2.2.f.size)⟩
        have HT : Hid (∀ wa, Fr (fun _ _ => False) wr wa → Calls Tryz.prog 35 #[.int .i64 10] wa fun e1 w2 => ∃ bs b mb cb, e1 = .returned (.agg #[.bool bs, .slice b mb cb]) ∧
          Hid (∀ w3, Fr (fun _ _ => False) w2 w3 → Calls Tryz.prog 34 #[.agg #[.bool false, .slice a m c], .agg #[.bool bs, .slice b mb cb]] w3 fun e1 w4 => ∃ qa qm qc ra rm rc, e1 = .returned (.tuple #[.agg #[.bool false, .slice qa qm qc], .agg #[.bool false, .slice ra rm rc]]) ∧ (qm ≤ 14000 ∧ rm ≤ 14000 ∧ Bf w4 qa qm qc (dlow (V / 10)) ∧ Bf w4 ra rm rc (dlow (V % 10))) ∧ Fr (fun _ _ => False) w3 w4) ∧ Fr (fun _ _ => False) wa w2) := Lib.hid (fun wa fa => by
          refine (of_sign 10 (Nat.le_trans hGr.out fa.size) (by omega) (by omega)).mono ?_
          rintro e1 w2 ⟨b, mb, cb, rfl, k1, k2⟩
          have k1' : Bf w2 b mb cb (dlow 10) := k1
          have hl : mb ≤ 14000 := by
            have e1 := k1'.len
            have e2 := dlow_len_le (n := 10) (by decide)
            omega
          refine ⟨_, b, mb, cb, rfl, Lib.hid (fun w3 f3 => ?_), k2⟩
          refine (quorem_any (X := V) (Y := 10) false false (Nat.le_trans hGr.out ((fa.trans k2).trans f3).size) (hI.out.2.2.2.x.bf.fr ((fa.trans k2).trans f3) (fun _ _ _ q => q)) (k1'.fr f3 (fun _ _ _ q => q)) (by omega) (by have := hI.out.2.2.1; omega) (by omega)).mono ?_
          rintro e1 w4 ⟨qa, qm, qc, ra, rm, rc, rfl, K⟩
          obtain ⟨j1, j2, j3, j4, j5⟩ := K.out
          refine ⟨qa, qm, qc, ra, rm, rc, by rw [sg1_false, show (false != false) = false from rfl, sg1_false], ⟨by have := hI.out.2.2.1; omega, by omega, j3, j4⟩, j5⟩)
        clear hneg
        go_upto_region 7 with fail
        refine wp_QN (sr7 (by kernel_rfl) hk0 x0 x1 HT _ _ _ _ _ _ _ _ _ _ _ _ _ _ _ _ _ _ _ _ _ _ _ _ _ _ _ _ _ _ _ _ _ _ _ _ _ _ _ _ _ _ _ _ _ _ _ _ ⟨?_⟩)
        intro p9 p10 v25 v26 v27 v24 v28 v29 w5 N9 N10 l9 l10 f5
        obtain ⟨ra, rm, rc, r0, r1, _, rb⟩ := N10
        have HZ := Lib.hid (zero_any false rb)
        have HN9 := Aside.mk N9
        have HL9 := Aside.mk (And.intro l9 f5)
        clear N9 rb l9 l10 f5 HT x0 x1 q1
        by_cases hR : V % 10 = 0
        · have q2 : decide (V % 10 = 0) = true := by simpa using hR
          have HR := Aside.mk hR
          clear hR
          go_wp2_with fail
          refine HZ.out.mono ?_
          rintro e1 w6 ⟨rfl, f6⟩
          obtain ⟨qa, qm, qc, q0, q1, hqm, qb⟩ := HN9.out.fr f6
          have FF := HL9.out.2.trans f6
          have X6 := hI.out.2.2.2.x.fr FF
          have z0 := X6.c0
          have z1 := X6.c1
          have z2 := X6.f0
          have z3 := X6.f1
          have hne : ¬ xb = p9 := by have := HL9.out.1; omega
          have hne' : ¬ p9 = xb := fun q => hne q.symm
          have hlt := HL.out
          have hst := strip_step hI.out.2.1 (by rw [HEV.out.2]; exact HR.out)
          rw [HEV.out.2] at hst
          have HNX : Aside (IL W ((w6.setCell ⟨xb, 0, none⟩ (.bool false)).setCell ⟨xb, 1, none⟩ (.slice qa qm qc)) sz xb n e s (X / 10 ^ (k + 1)) qa qm qc) := ⟨by
            refine ⟨?_, ?_, ?_⟩
            · exact (hI.out.2.2.2.d.fr FF (fun _ q => q)).fr (((Fr.refl (fun b _ => b = xb) w6).setCell xb 0 _ (fun _ => rfl)).setCell xb 1 _ (fun _ => rfl)) (fun _ q => by omega)
            · rw [← hst.2]; exact X6.put qb
            · exact ((hI.out.2.2.2.f.trans (FF.mono (fun _ _ _ q => q.elim))).setCell xb 0 _ (fun _ => rfl)).setCell xb 1 _ (fun _ => rfl)⟩
          have HM := Aside.mk hqm
          have HST := Aside.mk hst.1
          have hw1 : IntKind.i64.wrap (E + 1) = E + 1 := by have := HEV.out.1; have := HE.out; have := HNEG.out; rw [IntKind.wrap_i64]; omega
          clear HZ f6 hqm qb X6 FF hst r0 r1
          go_wp2_with fail
          go_roundw
          case rel => exact ⟨k + 1, qa, qm, qc, by have := HEV.out.1; go_num, ⟨.inr (by have := HEV.out.1; have := HNEG.out; omega), HST.out, HM.out, HNX.out⟩⟩
          case measure => have := HNEG.out; simp [intOf]; omega
        · have q2 : decide (V % 10 = 0) = false := by simpa using hR
          have hIf : isI n e X = false := by
            have h1 := strip_stop (X := X) (k := k) (m := (-e).toNat) (by rw [HEV.out.2]; exact hR) (by have := HEV.out.1; have := HNEG.out; omega)
            have h2 := mvY_zero (e := e) HX0.out (by have := HEV.out.1; have := HNEG.out; omega)
            unfold isI
            rw [decide_eq_false (by rw [h2]; exact h1)]
            rfl
          have HIF := Aside.mk hIf
          clear hR hIf
          go_wp2_with fail
          refine HZ.out.mono ?_
          rintro e1 w6 ⟨rfl, f6⟩
          have FF := Aside.mk f6
          clear HZ f6 r0 r1
          go_wp2_with fail
          go_ret2
          exact ⟨_, by rw [HIF.out]; rfl, ⟨fun q => by rw [HIF.out] at q; cases q⟩, ⟨HF2.out.trans' (hI.out.2.2.2.f.trans ((HL9.out.2.trans FF.out).mono (fun _ _ _ q => q.elim))) (fun _ _ _ q => q) (fun x y hx q => by have := HSZ.out; have := HL.out; omega)⟩⟩
      · have q1 : decide (E < 0) = false := by simpa using hneg
        obtain ⟨q, hq⟩ : ∃ q : Nat, E = (q : Int) := ⟨E.toNat, by omega⟩
        subst hq
        have hV0 : V ≠ 0 := by
          intro hv
          have h1 := HEV.out.2
          have h2 := hI.out.2.1
          have h3 := Nat.div_add_mod X (10 ^ k)
          rw [h1, h2, hv] at h3
          exact HX0.out (by omega)
        by_cases h20 : 20 < q
        · have q2 : decide ((20 : Int) < (q : Nat)) = true := by rw [decide_eq_true_eq]; omega
          have hIf : isI n e X = false := by
            have hk : k = 0 := by have := hI.out.1; have := HEV.out.1; omega
            subst hk
            have he : e = (q : Int) := by have := HEV.out.1; omega
            have h1 := big20 (n := n) HX0.out h20
            have h2 := szI_high (e := e) (X := X) (by omega)
            unfold isI
            rw [h2, he, Int.toNat_natCast, decide_eq_false h1]
            simp
          have HIF := Aside.mk hIf
          clear h20 hIf hneg hV0
          go_wp2_with fail
          go_ret2
          exact ⟨_, by rw [HIF.out]; rfl, ⟨fun q => by rw [HIF.out] at q; cases q⟩, ⟨HF2.out.trans' hI.out.2.2.2.f (fun _ _ _ q => q) (fun x y hx q => by have := HSZ.out; have := HL.out; omega)⟩⟩
        · have q2 : decide ((20 : Int) < (q : Nat)) = false := by simp; omega
          obtain ⟨L, hL⟩ : ∃ L, V * 10 ^ q = L := ⟨_, rfl⟩
          have hfin : isI n e X = decide (L ≤ lim64 n) ∧ szI e X = L ∧ L ≠ 0 := by
            have hL0 : L ≠ 0 := by
              rw [← hL]
              exact Nat.ne_of_gt (Nat.mul_pos (Nat.pos_of_ne_zero hV0) (Nat.pow_pos (by omega)))
            have hsz : szI e X = L ∧ mvY e X = 0 := by
              by_cases he : 0 ≤ e
              · have hk : k = 0 := by have := hI.out.1; have := HEV.out.1; omega
                subst hk
                have hv := HEV.out.2
                rw [Nat.pow_zero, Nat.div_one] at hv
                refine ⟨?_, mvY_high he⟩
                rw [szI_high he, hv, ← hL]
                have : e.toNat = q := by have := HEV.out.1; omega
                rw [this]
              · have hk : k = (-e).toNat ∧ q = 0 := by have := hI.out.1; have := HEV.out.1; omega
                obtain ⟨rfl, rfl⟩ := hk
                have hm := hI.out.2.1
                refine ⟨?_, ?_⟩
                · rw [szI_low (by omega) hm HX0.out, HEV.out.2, ← hL]; simp
                · rw [mvY_zero HX0.out (by omega)]; exact hm
            refine ⟨?_, hsz.1, hL0⟩
            unfold isI
            rw [hsz.1, hsz.2]
            simp
          have HFIN := Aside.mk hfin
          have hq20 : q ≤ 20 := by omega
          have hGr : NG ≤ wr.heap.size := Nat.le_trans HC.out.1 (Nat.le_trans HF2.out.size hI.out.2.2.2.f.size)
          have hT2 : Hid (∀ w2, Fr (fun _ _ => False) wr w2 → Calls Tryz.prog 37 #[.int .i64 (q : Nat)] w2 fun e1 w' => ∃ a3, e1 = .returned (.agg #[.bool false, .slice a3 (q + 1) (q + 1)]) ∧ w'.cell? ⟨xb, 0, none⟩ = some (.bool false) ∧ w'.cell? ⟨xb, 1, none⟩ = some (.slice a m c) ∧
            Aside (Fr (fun _ _ => False) wr w') ∧ Hid (∀ w3, Fr (fun _ _ => False) w' w3 → Calls Tryz.prog 36 #[.agg #[.bool false, .slice a m c], .agg #[.bool false, .slice a3 (q + 1) (q + 1)]] w3 fun e1 w4 => ∃ a2 m2 c2, e1 = .returned (.agg #[.bool false, .slice a2 m2 c2]) ∧
              (w4.cell? ⟨xb, 0, none⟩ = some (.bool false) ∧ w4.cell? ⟨xb, 1, none⟩ = some (.slice a m c) ∧ w4.frozen? ⟨xb, 0, none⟩ = false ∧ w4.frozen? ⟨xb, 1, none⟩ = false) ∧ Aside (m2 ≤ 20000 ∧ Bf w4 a2 m2 c2 (dlow L) ∧ Fr (fun _ _ => False) wr w4))) := Lib.hid (fun w2 f2 => by
            refine (ten_any q (Nat.le_trans hGr f2.size) (by omega)).mono ?_
            rintro e1 w3 ⟨a3, rfl, k3, k4⟩
            have f3 := f2.trans k4
            have v3 := hI.out.2.2.2.x.fr f3
            refine ⟨a3, rfl, v3.c0, v3.c1, ⟨f3⟩, Lib.hid (fun w3' f3' => ?_)⟩
            have f4 := f3.trans f3'
            refine (mul_any' false false (Nat.le_trans hGr f4.size) (hI.out.2.2.2.x.bf.fr f4 (fun _ _ _ q => q)) (k3.fr f3' (fun _ _ _ q => q)) (by have := hI.out.2.2.1; omega) (by omega)).mono ?_
            rintro e1 w4 ⟨a2, m2, c2, rfl, k4, k5, k6⟩
            have v4 := hI.out.2.2.2.x.fr (f4.trans k6)
            rw [hL] at k5
            exact ⟨a2, m2, c2, by simp [sg1], ⟨v4.c0, v4.c1, v4.f0, v4.f1⟩, ⟨by have := hI.out.2.2.1; omega, k5, f4.trans k6⟩⟩)
          have x0 := hI.out.2.2.2.x.c0
          have x1 := hI.out.2.2.2.x.c1
          clear hneg h20 hV0 hL hfin hGr
          go_wp2_with fail
          clear q1 q2
          go_region_with (first | (go_at_call 37; go_must (refine (hT2.out _ (by repeat first | exact Fr.refl _ _ | refine Fr.drewN ?_ _ | refine Fr.drew ?_)).mono ?_; rintro e1 w2 ⟨a3, rfl, x2, x3, F2, hM2⟩)) | (go_at_call 36; go_must (refine (hM2.out _ (by repeat first | exact Fr.refl _ _ | refine Fr.drewN ?_ _ | refine Fr.drew ?_)).mono ?_; rintro e1 w4 ⟨a2, m2, c2, rfl, ⟨y0, y1, z2, z3⟩, F4⟩)))
          all_goals
            have X4 := hI.out.2.2.2.x.fr F4.out.2.2
            have hlt := HL.out
            have hfr : Fr (fun b _ => b = xb) W ((w4.setCell ⟨xb, 0, none⟩ (.bool false)).setCell ⟨xb, 1, none⟩ (.slice a2 m2 c2)) := ((hI.out.2.2.2.f.trans (F4.out.2.2.mono (fun _ _ _ q => q.elim))).setCell xb 0 _ (fun _ => rfl)).setCell xb 1 _ (fun _ => rfl)
            have hx5 := X4.put (s' := false) F4.out.2.1
            have hd5 := (hI.out.2.2.2.d.fr F4.out.2.2 (fun _ q => q)).fr (((Fr.refl (fun b _ => b = xb) w4).setCell xb 0 (.bool false) (fun _ => rfl)).setCell xb 1 (.slice a2 m2 c2) (fun _ => rfl)) (fun _ q => by omega)
            obtain ⟨w5, hw5⟩ : ∃ x, (w4.setCell ⟨xb, 0, none⟩ (.bool false)).setCell ⟨xb, 1, none⟩ (.slice a2 m2 c2) = x := ⟨_, rfl⟩
            rw [hw5] at hfr hx5 hd5 ⊢
            have FR := Aside.mk hfr
            have HX5 := Aside.mk hx5
            have HM2 := Aside.mk F4.out.1
            obtain ⟨d0, d1, d2, d3, _⟩ := E8.of hd5
            have x0 := hx5.c0
            have x1 := hx5.c1
            have z0 := hx5.f0
            have z1 := hx5.f1
            have hG5 : NG ≤ w5.heap.size := Nat.le_trans HC.out.1 (Nat.le_trans HF2.out.size hfr.size)
            have HG5 := Aside.mk hG5
            clear hw5 hfr hx5 hd5 X4 F4 x2 x3 y0 y1 z2 z3 hT2 hM2 hG5 d0 d2 d3
            cases n
            case false =>
              have HS := Lib.hid (small_any false HG5.out HX5.out.bf (by have := HM2.out; omega))
              go_wp2_with fail
              refine HS.out.mono ?_
              rintro e1 w6 ⟨v, rfl, hv, f6⟩
              clear HS
              go_wp2_with fail
              go_ret2
              exact ⟨v, by rw [HFIN.out.1]; rfl, ⟨fun h => by rw [HFIN.out.1] at h; rw [HFIN.out.2.1]; exact hv.out (by simpa using h)⟩, ⟨HF2.out.trans' (FR.out.trans (f6.out.mono (fun _ _ _ q => q.elim))) (fun _ _ _ q => q) (fun x y hx q => by have := HSZ.out; omega)⟩⟩
            case true =>
              have hMi := minus_any false HX5.out.bf (by have := HM2.out; omega)
              rw [show sg1 (!false) L = true from by unfold sg1; simp [HFIN.out.2.2]] at hMi
              have HMI := Lib.hid hMi
              clear hMi
              go_wp2_with fail
              refine HMI.out.mono ?_
              rintro e1 w6 ⟨m6, rfl, hm6, k6, k7⟩
              have X6 := HX5.out.fr k7
              have X7 := X6.put (s' := true) k6
              have F7 : Fr (fun b _ => b = xb) W ((w6.setCell ⟨xb, 0, none⟩ (.bool true)).setCell ⟨xb, 1, none⟩ (.slice a2 m6 c2)) := ((FR.out.trans (k7.mono (fun _ _ _ q => q.elim))).setCell xb 0 _ (fun _ => rfl)).setCell xb 1 _ (fun _ => rfl)
              have y0 := X6.c0
              have y1 := X6.c1
              have y2 := X6.f0
              have y3 := X6.f1
              have HX7 := Aside.mk X7
              have HF7 := Aside.mk F7
              have HM6 := Aside.mk hm6
              clear X6 X7 F7 k6 k7 hm6 HMI x0 x1 z0 z1 d1
              go_upto_region 16 with fail
              obtain ⟨w7, hw7⟩ : ∃ x, (w6.setCell ⟨xb, 0, none⟩ (.bool true)).setCell ⟨xb, 1, none⟩ (.slice a2 m6 c2) = x := ⟨_, rfl⟩
              rw [hw7] at HX7 HF7 ⊢
              have x0 := HX7.out.c0
              have x1 := HX7.out.c1
              have HS := Lib.hid (small_any true (Nat.le_trans HC.out.1 (Nat.le_trans HF2.out.size HF7.out.size)) HX7.out.bf (by have := HM2.out; have := HM6.out; omega))
              clear hw7 y0 y1 y2 y3
              go_wp2_with fail
              refine HS.out.mono ?_
              rintro e1 w8 ⟨v, rfl, hv, f8⟩
              clear HS
              go_wp2_with fail
              go_ret2
              exact ⟨v, by rw [HFIN.out.1]; rfl, ⟨fun h => by rw [HFIN.out.1] at h; rw [HFIN.out.2.1]; exact hv.out (by simpa using h)⟩, ⟨HF2.out.trans' (HF7.out.trans (f8.out.mono (fun _ _ _ q => q.elim))) (fun _ _ _ q => q) (fun x y hx q => by have := HSZ.out; omega)⟩⟩
end Go.Proofs.YtgilnnipephfjaaGreatDoor
