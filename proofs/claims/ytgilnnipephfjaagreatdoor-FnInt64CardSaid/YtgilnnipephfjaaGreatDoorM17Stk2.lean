/- Contract of slices.Grow, for words. The stack's functions: save, restore, free, nat. -/
import Derived.Test.YtgilnnipephfjaaGreatDoorM16Stk
import Derived.Lib.AppendZerosOnto
import Derived.Lib.SliceRun
import Derived.Lib.Walk
import Derived.Deep.AppendSrc
set_option linter.unusedSimpArgs false
set_option linter.unusedVariables false
namespace Go.Proofs.YtgilnnipephfjaaGreatDoor
open Go.RowKit

theorem word_cells (v c : Nat) : ∀ i, i < c → ((List.range' 0 c).map fun j => Value.int .u64 (wd v j : Nat))[i]? = some (.int .u64 (wd v i : Nat)) := by
  intro i hi
  rw [List.getElem?_map, List.getElem?_range' hi]
  simp
theorem Own_grown (w : World) (hG : NG ≤ w.heap.size) (v c k m : Nat) (t : TypeId) :
    Own (w.alloc (.cells (((List.range' 0 c).map fun j => Value.int .u64 (wd v j : Nat)).toArray ++ Builtin.zeroCells #[.int .u64 0] k ++ Builtin.zeroCells #[.int .u64 0] m) t)) w.heap.size 0 (c + k + m) := by
  refine ⟨fun i hi => ?_, ⟨hG, t, kind_alloc_new _ _ _ _⟩⟩
  rw [Nat.zero_add, World.cell?_alloc_new]
  have zg : ∀ n j, j < n → (Builtin.zeroCells #[Value.int .u64 0] n)[j]? = some (.int .u64 0) := fun n j h => by simp [Builtin.zeroCells, h, Nat.mod_one]
  have zs : ∀ n, (Builtin.zeroCells #[Value.int .u64 0] n).size = n := fun n => by simp [Builtin.zeroCells]
  by_cases h1 : i < c
  · refine ⟨wd v i, wd_lt v i, ?_⟩
    rw [Array.getElem?_append_left (by simp; omega), Array.getElem?_append_left (by simp; omega)]
    simpa using word_cells v c i h1
  · by_cases h2 : i < c + k
    · refine ⟨0, B_pos, ?_⟩
      rw [Array.getElem?_append_left (by simp [zs]; omega), Array.getElem?_append_right (by simp; omega)]
      exact zg _ _ (by simp; omega)
    · refine ⟨0, B_pos, ?_⟩
      rw [Array.getElem?_append_right (by simp [zs]; omega)]
      exact zg _ _ (by simp [zs]; omega)
/-- Words that may be written, however many. -/
def SReg (w : World) (a : Option Addr) (c : Nat) : Prop := c ≤ maxLen ∧ ((a = none ∧ c = 0) ∨ ∃ b o, a = some ⟨b, o, none⟩ ∧ Own w b o c)

set_option maxHeartbeats 4000000 in
set_option maxRecDepth 100000 in
theorem growW_any (a : Option Addr) (n c m : Nat) (w : World) (hG : NG ≤ w.heap.size) (h : SReg w a c) (hn : n ≤ c) (hn2 : n ≤ 100000) (hm : m ≤ 100000) :
    Calls Tryz.prog 316 #[.slice a n c, .int .i64 m] w fun e w' => ∃ a' c', e = .returned (.slice a' n c') ∧ n + m ≤ c' ∧ SReg w' a' c' ∧
      ((a' = a ∧ c' = c ∧ w' = w) ∨ (a' = some ⟨w.heap.size, 0, none⟩ ∧ w.heap.size < w'.heap.size ∧ Fr (fun _ _ => False) w w')) := by
  obtain ⟨hc, h⟩ := h
  have hcm : c ≤ 9223372036854775807 := hc
  have h1 : ¬ ((m : Int) < 0) := by omega
  have h2 : wrap64 ((c : Int) - (n : Int)) = (c : Int) - (n : Int) := by unfold wrap64; omega
  have h3 : wrap64 ((m : Int) - ((c : Int) - (n : Int))) = (m : Int) - ((c : Int) - (n : Int)) := by unfold wrap64; omega
  by_cases hroom : n + m ≤ c
  · have h4 : ¬ ((m : Int) - ((c : Int) - (n : Int)) > 0) := by omega
    go_enter Tryz.func316, Tryz.ntmps316
    go_wp2
    go_ret
    exact ⟨a, c, rfl, hroom, ⟨hc, h⟩, .inl ⟨rfl, rfl, rfl⟩⟩
  · have h4 : (m : Int) - ((c : Int) - (n : Int)) > 0 := by omega
    obtain ⟨i, hi, hzz⟩ := Option.map_eq_some_iff.1 infoW
    simp only [Prod.mk.injEq] at hzz
    obtain ⟨hz, hs, hb⟩ := hzz
    obtain ⟨v, hold⟩ : ∃ v, (Builtin.firstCells i.size c (.slice a c c)).run Tryz.prog w.drew = .ok ((List.range' 0 c).map fun j => Value.int .u64 (wd v j : Nat)).toArray w.drew := by
      rcases h with ⟨rfl, rfl⟩ | ⟨b, o, rfl, ho⟩
      · exact ⟨0, run_firstCells_none w.drew i.size 0 0 0⟩
      · obtain ⟨v, hv⟩ := ho.words
        refine ⟨v, run_firstCells_some w.drew i.size c ⟨b, o, none⟩ c c _ (by simp [hs]) (fun j u hu => ?_)⟩
        have hj : j < c := by
          have := (List.getElem?_eq_some_iff.1 hu).1
          simpa using this
        rw [word_cells v c j hj] at hu
        cases hu
        rw [Addr.add_lit]
        exact hv.cell j hj
    have hrz : ∀ ty, (Builtin.append_ #[64, 3] ty #[.slice a c c, .int .i64 ((m : Int) - ((c : Int) - (n : Int)))]).run Tryz.prog w =
        .ok (.slice (some ⟨w.heap.size, 0, none⟩) (n + m) (grownCap w (n + m) c 217)) (w.drew.alloc (.cells (((List.range' 0 c).map fun j => Value.int .u64 (wd v j : Nat)).toArray ++ Builtin.zeroCells #[.int .u64 0] (n + m - c) ++ Builtin.zeroCells #[.int .u64 0] (grownCap w (n + m) c 217 - (n + m))) 217)) := fun ty => by
      have hk : c + (n + m - c) = n + m := by omega
      have h := Lib.run_append_grow_zeros w 64 3 ty 217 i (.int .u64 0) .i64 .i64 Tryz.underlying64 Tryz.underlying3 hi hz a c c _ hold (n + m - c) (by omega) (by rw [hs]; decide) (by omega) (by omega) (by rw [hb]; omega) (by rw [hk]; exact growslice_fits (by omega) (by rw [hb]; omega))
      rw [hk] at h
      rw [show (m : Int) - ((c : Int) - (n : Int)) = ((n + m - c : Nat) : Int) by omega]
      exact h
    have hGn : n + m ≤ grownCap w (n + m) c 217 := grownCap_ge w _ _ _
    have hGm := grownCap_le_maxLen w (n + m) c 217 (by unfold maxLen; omega)
    obtain ⟨G, hGG⟩ : ∃ G, grownCap w (n + m) c 217 = G := ⟨_, rfl⟩
    rw [hGG] at hrz hGn hGm
    have hown := Aside.mk (Own_grown w.drew hG v c (n + m - c) (G - (n + m)) 217)
    rw [show c + (n + m - c) + (G - (n + m)) = G from by omega] at hown
    have hfr := Aside.mk ((Fr.refl (fun _ _ => False) w).drew.alloc (.cells (((List.range' 0 c).map fun j => Value.int .u64 (wd v j : Nat)).toArray ++ Builtin.zeroCells #[.int .u64 0] (n + m - c) ++ Builtin.zeroCells #[.int .u64 0] (G - (n + m))) 217))
    have hG63 : G ≤ 9223372036854775807 := hGm
    obtain ⟨O, hO⟩ : ∃ O, Obj.cells (((List.range' 0 c).map fun j => Value.int .u64 (wd v j : Nat)).toArray ++ Builtin.zeroCells #[.int .u64 0] (n + m - c) ++ Builtin.zeroCells #[.int .u64 0] (G - (n + m))) 217 = O := ⟨_, rfl⟩
    rw [hO] at hrz hown hfr
    clear hold hO hGG
    have fin2 : Aside (n + m ≤ G ∧ SReg (w.drew.alloc O) (some ⟨w.heap.size, 0, none⟩) G ∧ w.heap.size < (w.drew.alloc O).heap.size ∧ Fr (fun _ _ => False) w (w.drew.alloc O)) :=
      ⟨hGn, ⟨hGm, .inr ⟨_, _, rfl, hown.out⟩⟩, by simp, hfr.out⟩
    clear hown hfr hGm hc
    rcases h with ⟨rfl, rfl⟩ | ⟨b, o, rfl, ho⟩
    · obtain rfl : n = 0 := by omega
      go_enter Tryz.func316, Tryz.ntmps316
      go_wp2_with (at_builtin; refine Lib.wpList_append_run _ rfl _ _ _ _ rfl _ _ rfl rfl _ _ (hrz _) ?_)
      all_goals (go_ret; exact ⟨_, _, rfl, by simpa using fin2.out.1, fin2.out.2.1, .inr ⟨rfl, fin2.out.2.2⟩⟩)
    · clear ho
      go_enter Tryz.func316, Tryz.ntmps316
      go_wp2_with (at_builtin; refine Lib.wpList_append_run _ rfl _ _ _ _ rfl _ _ rfl rfl _ _ (hrz _) ?_)
      all_goals (go_ret; exact ⟨_, _, rfl, by simpa using fin2.out.1, fin2.out.2.1, .inr ⟨rfl, fin2.out.2.2⟩⟩)

set_option maxHeartbeats 4000000 in
set_option maxRecDepth 100000 in
theorem growN_any (a : Option Addr) (n c m : Nat) (w : World) (hG : NG ≤ w.heap.size) (h : SReg w a c) (hn : n ≤ c) (hn2 : n ≤ 100000) (hm : m ≤ 100000) :
    Calls Tryz.prog 288 #[.slice a n c, .int .i64 m] w fun e w' => ∃ a' c', e = .returned (.slice a' n c') ∧ n + m ≤ c' ∧ SReg w' a' c' ∧
      ((a' = a ∧ c' = c ∧ w' = w) ∨ (a' = some ⟨w.heap.size, 0, none⟩ ∧ w.heap.size < w'.heap.size ∧ Fr (fun _ _ => False) w w')) := by
  obtain ⟨hc, h⟩ := h
  have hcm : c ≤ 9223372036854775807 := hc
  have h1 : ¬ ((m : Int) < 0) := by omega
  have h2 : wrap64 ((c : Int) - (n : Int)) = (c : Int) - (n : Int) := by unfold wrap64; omega
  have h3 : wrap64 ((m : Int) - ((c : Int) - (n : Int))) = (m : Int) - ((c : Int) - (n : Int)) := by unfold wrap64; omega
  by_cases hroom : n + m ≤ c
  · have h4 : ¬ ((m : Int) - ((c : Int) - (n : Int)) > 0) := by omega
    go_enter Tryz.func288, Tryz.ntmps288
    go_wp2
    go_ret
    exact ⟨a, c, rfl, hroom, ⟨hc, h⟩, .inl ⟨rfl, rfl, rfl⟩⟩
  · have h4 : (m : Int) - ((c : Int) - (n : Int)) > 0 := by omega
    obtain ⟨i, hi, hzz⟩ := Option.map_eq_some_iff.1 infoW
    simp only [Prod.mk.injEq] at hzz
    obtain ⟨hz, hs, hb⟩ := hzz
    obtain ⟨v, hold⟩ : ∃ v, (Builtin.firstCells i.size c (.slice a c c)).run Tryz.prog w.drew = .ok ((List.range' 0 c).map fun j => Value.int .u64 (wd v j : Nat)).toArray w.drew := by
      rcases h with ⟨rfl, rfl⟩ | ⟨b, o, rfl, ho⟩
      · exact ⟨0, run_firstCells_none w.drew i.size 0 0 0⟩
      · obtain ⟨v, hv⟩ := ho.words
        refine ⟨v, run_firstCells_some w.drew i.size c ⟨b, o, none⟩ c c _ (by simp [hs]) (fun j u hu => ?_)⟩
        have hj : j < c := by
          have := (List.getElem?_eq_some_iff.1 hu).1
          simpa using this
        rw [word_cells v c j hj] at hu
        cases hu
        rw [Addr.add_lit]
        exact hv.cell j hj
    have hrz : ∀ ty, (Builtin.append_ #[65, 3] ty #[.slice a c c, .int .i64 ((m : Int) - ((c : Int) - (n : Int)))]).run Tryz.prog w =
        .ok (.slice (some ⟨w.heap.size, 0, none⟩) (n + m) (grownCap w (n + m) c 217)) (w.drew.alloc (.cells (((List.range' 0 c).map fun j => Value.int .u64 (wd v j : Nat)).toArray ++ Builtin.zeroCells #[.int .u64 0] (n + m - c) ++ Builtin.zeroCells #[.int .u64 0] (grownCap w (n + m) c 217 - (n + m))) 217)) := fun ty => by
      have hk : c + (n + m - c) = n + m := by omega
      have h := Lib.run_append_grow_zeros w 65 3 ty 217 i (.int .u64 0) .i64 .i64 Tryz.underlying65 Tryz.underlying3 hi hz a c c _ hold (n + m - c) (by omega) (by rw [hs]; decide) (by omega) (by omega) (by rw [hb]; omega) (by rw [hk]; exact growslice_fits (by omega) (by rw [hb]; omega))
      rw [hk] at h
      rw [show (m : Int) - ((c : Int) - (n : Int)) = ((n + m - c : Nat) : Int) by omega]
      exact h
    have hGn : n + m ≤ grownCap w (n + m) c 217 := grownCap_ge w _ _ _
    have hGm := grownCap_le_maxLen w (n + m) c 217 (by unfold maxLen; omega)
    obtain ⟨G, hGG⟩ : ∃ G, grownCap w (n + m) c 217 = G := ⟨_, rfl⟩
    rw [hGG] at hrz hGn hGm
    have hown := Aside.mk (Own_grown w.drew hG v c (n + m - c) (G - (n + m)) 217)
    rw [show c + (n + m - c) + (G - (n + m)) = G from by omega] at hown
    have hfr := Aside.mk ((Fr.refl (fun _ _ => False) w).drew.alloc (.cells (((List.range' 0 c).map fun j => Value.int .u64 (wd v j : Nat)).toArray ++ Builtin.zeroCells #[.int .u64 0] (n + m - c) ++ Builtin.zeroCells #[.int .u64 0] (G - (n + m))) 217))
    have hG63 : G ≤ 9223372036854775807 := hGm
    obtain ⟨O, hO⟩ : ∃ O, Obj.cells (((List.range' 0 c).map fun j => Value.int .u64 (wd v j : Nat)).toArray ++ Builtin.zeroCells #[.int .u64 0] (n + m - c) ++ Builtin.zeroCells #[.int .u64 0] (G - (n + m))) 217 = O := ⟨_, rfl⟩
    rw [hO] at hrz hown hfr
    clear hold hO hGG
    have fin2 : Aside (n + m ≤ G ∧ SReg (w.drew.alloc O) (some ⟨w.heap.size, 0, none⟩) G ∧ w.heap.size < (w.drew.alloc O).heap.size ∧ Fr (fun _ _ => False) w (w.drew.alloc O)) :=
      ⟨hGn, ⟨hGm, .inr ⟨_, _, rfl, hown.out⟩⟩, by simp, hfr.out⟩
    clear hown hfr hGm hc
    rcases h with ⟨rfl, rfl⟩ | ⟨b, o, rfl, ho⟩
    · obtain rfl : n = 0 := by omega
      go_enter Tryz.func288, Tryz.ntmps288
      go_wp2_with (at_builtin; refine Lib.wpList_append_run _ rfl _ _ _ _ rfl _ _ rfl rfl _ _ (hrz _) ?_)
      all_goals (go_ret; exact ⟨_, _, rfl, by simpa using fin2.out.1, fin2.out.2.1, .inr ⟨rfl, fin2.out.2.2⟩⟩)
    · clear ho
      go_enter Tryz.func288, Tryz.ntmps288
      go_wp2_with (at_builtin; refine Lib.wpList_append_run _ rfl _ _ _ _ rfl _ _ rfl rfl _ _ (hrz _) ?_)
      all_goals (go_ret; exact ⟨_, _, rfl, by simpa using fin2.out.1, fin2.out.2.1, .inr ⟨rfl, fin2.out.2.2⟩⟩)
end Go.Proofs.YtgilnnipephfjaaGreatDoor
namespace Go.Proofs.YtgilnnipephfjaaGreatDoor
open Go.RowKit

theorem up4 (m : Nat) (h : m < 64) : bits .andNot .i64 ((m : Int) + 3) 3 = (((m + 3) / 4 * 4 : Nat) : Int) := by
  have : ∀ k : Fin 64, bits .andNot .i64 (((k.val : Nat) : Int) + 3) 3 = (((k.val + 3) / 4 * 4 : Nat) : Int) := by decide +kernel
  exact this ⟨m, h⟩

theorem save_any {sb so n : Nat} {w : World} (h : Stk w sb so n) (hn : n ≤ 1000000) :
    Calls Tryz.prog 252 #[.pointer (some ⟨sb, so, none⟩)] w fun e w' => e = .returned (.int .i64 (n : Nat)) ∧ w' = w := by
  obtain ⟨hb, ⟨h1, rfl⟩ | ⟨ib, a, c, h1, h2, h3, h4, h5, h6⟩⟩ := h
  · go_enter Tryz.func252, Tryz.ntmps252
    go_wp2_with fail
    go_ret
    exact ⟨rfl, rfl⟩
  · have H : Hid (Calls Tryz.prog 286 #[.pointer (some ⟨ib, 0, none⟩)] w fun e w' => e = .returned (.int .i64 (n : Nat)) ∧ w' = w) := Lib.hid (by
      clear h1 h3 h6
      go_enter Tryz.func286, Tryz.ntmps286
      go_wp2_with fail
      go_ret
      exact ⟨rfl, rfl⟩)
    clear h2 h3 h6
    go_enter Tryz.func252, Tryz.ntmps252
    go_wp2_with fail
    refine H.out.mono ?_
    rintro e w' ⟨rfl, rfl⟩
    go_wp2_with fail
    go_ret
    exact ⟨rfl, rfl⟩

/-- What is done to a stack's head alone. -/
theorem Stk.cut {sb so n k : Nat} {w : World} {ib : Nat} {a : Option Addr} {c : Nat} (hb : Blk w sb) (h1 : w.cell? ⟨sb, so, none⟩ = some (.pointer (some ⟨ib, 0, none⟩))) (h2 : w.cell? ⟨ib, 0, none⟩ = some (.slice a n c)) (h3 : Blk w ib) (h5 : c ≤ maxLen)
    (h6 : (a = none ∧ c = 0) ∨ ∃ ab ao, a = some ⟨ab, ao, none⟩ ∧ Own w ab ao c) (hk : k ≤ c) :
    Stk (w.setCell ⟨ib, 0, none⟩ (.slice a k c)) sb so k ∧ Fr (sfree w sb so n) w (w.setCell ⟨ib, 0, none⟩ (.slice a k c)) ∧ ∀ j x y, sfree (w.setCell ⟨ib, 0, none⟩ (.slice a k c)) sb so j x y ↔ sfree w sb so j x y := by
  have f := (Fr.refl (fun x y => x = ib ∧ y = 0) w).setCell ib 0 (.slice a k c) (fun _ => ⟨rfl, rfl⟩)
  have ne : (⟨ib, 0, none⟩ : Addr) ≠ ⟨sb, so, none⟩ := by intro e; rw [e] at h2; rw [h2] at h1; cases h1
  have e1 : (w.setCell ⟨ib, 0, none⟩ (.slice a k c)).cell? ⟨sb, so, none⟩ = some (.pointer (some ⟨ib, 0, none⟩)) := (World.cell?_setCell_other _ _ _ _ ne).trans h1
  have e2 : (w.setCell ⟨ib, 0, none⟩ (.slice a k c)).cell? ⟨ib, 0, none⟩ = some (.slice a k c) := World.cell?_setCell_same _ _ _ h2
  refine ⟨⟨f.blk hb, .inr ⟨ib, a, c, e1, e2, f.blk h3, hk, h5, ?_⟩⟩, f.mono (fun x y _ q => .inr ⟨ib, h1, .inl q⟩), fun j x y => ?_⟩
  · rcases h6 with q | ⟨ab, ao, rfl, ho⟩
    · exact .inl q
    · refine .inr ⟨ab, ao, rfl, f.own ho fun i hi q => ?_⟩
      obtain ⟨q1, q2⟩ := q
      obtain ⟨u, _, hu⟩ := ho.cell i hi
      rw [q1, q2, h2] at hu
      cases hu
  · unfold sfree
    rw [e1, h1]
    constructor
    · rintro (q | ⟨ib', e, q⟩)
      · exact .inl q
      · cases e
        rw [e2] at q
        rcases q with q | ⟨ab, ao, l, c', q1, q2⟩
        · exact .inr ⟨ib, rfl, .inl q⟩
        · cases q1
          exact .inr ⟨ib, rfl, .inr ⟨ab, ao, n, c, h2, q2⟩⟩
    · rintro (q | ⟨ib', e, q⟩)
      · exact .inl q
      · cases e
        rw [h2] at q
        rcases q with q | ⟨ab, ao, l, c', q1, q2⟩
        · exact .inr ⟨ib, rfl, .inl q⟩
        · cases q1
          exact .inr ⟨ib, rfl, .inr ⟨ab, ao, k, c, e2, q2⟩⟩

/-- restore, as a deferred call. -/
theorem restore_d {sb so n k : Nat} (u : FrameMode) {w : World} (h : Stk w sb so n) (hk : k ≤ n) (hn : n ≤ 1000000) :
    CallsD Tryz.prog 251 #[.pointer (some ⟨sb, so, none⟩), .int .i64 (k : Nat)] u w fun e u' w' => u' = u ∧ e = .returned (.tuple #[]) ∧ Stk w' sb so k ∧ Fr (sfree w sb so n) w w' ∧ ∀ j x y, sfree w' sb so j x y ↔ sfree w sb so j x y := by
  obtain ⟨hb, ⟨h1, rfl⟩ | ⟨ib, a, c, h1, h2, h3, h4, h5, h6⟩⟩ := h
  · obtain rfl : k = 0 := by omega
    go_enter_d Tryz.func251, Tryz.ntmps251
    go_wp2_with fail
    refine bodyPost_ret (results_none rfl _ _ _) rfl ?_
    exact ⟨rfl, ⟨hb, .inl ⟨h1, rfl⟩⟩, Fr.refl _ _, fun _ _ _ => Iff.rfl⟩
  · have C := Aside.mk (Stk.cut (k := k) hb h1 h2 h3 h5 h6 (by omega))
    have hf := h3.free 0
    have hcm : c ≤ 9223372036854775807 := h5
    have H : Hid (Calls Tryz.prog 285 #[.pointer (some ⟨ib, 0, none⟩), .int .i64 (k : Nat)] w fun e w' => e = .returned (.tuple #[]) ∧ w' = w.setCell ⟨ib, 0, none⟩ (.slice a k c)) := Lib.hid (by
      clear h1 h3 h6 C
      go_enter Tryz.func285, Tryz.ntmps285
      go_wp2_with fail
      all_goals
        go_end0
        exact ⟨rfl, rfl⟩)
    clear h2 h3 h6
    go_enter_d Tryz.func251, Tryz.ntmps251
    go_wp2_with fail
    refine H.out.mono ?_
    rintro e w' ⟨rfl, rfl⟩
    go_wp2_with fail
    go_end0
    exact ⟨rfl, C.out⟩

/-- free, as a deferred call. -/
theorem free_ds {sb so n : Nat} (u : FrameMode) {w : World} (h : Stk w sb so n) (hn : n ≤ 1000000) :
    CallsD Tryz.prog 194 #[.pointer (some ⟨sb, so, none⟩)] u w fun e u' w' => u' = u ∧ e = .returned (.tuple #[]) ∧ Fr (sfree w sb so n) w w' := by
  obtain ⟨hb, ⟨h1, rfl⟩ | ⟨ib, a, c, h1, h2, h3, h4, h5, h6⟩⟩ := h
  · refine (free_d sb so u w h1).mono ?_
    rintro e u' w' ⟨rfl, rfl, rfl⟩
    exact ⟨rfl, rfl, Fr.refl _ _⟩
  · have C := Aside.mk (Stk.cut (k := 0) hb h1 h2 h3 h5 h6 (by omega))
    have hf := h3.free 0
    have hcm : c ≤ 9223372036854775807 := h5
    have H : Hid (Calls Tryz.prog 228 #[.pointer (some ⟨ib, 0, none⟩)] w fun e w' => e = .returned (.tuple #[]) ∧ w' = w.setCell ⟨ib, 0, none⟩ (.slice a 0 c)) := Lib.hid (by
      clear h1 h3 h6 C
      go_enter Tryz.func228, Tryz.ntmps228
      go_wp2_with fail
      all_goals
        go_end0
        exact ⟨rfl, rfl⟩)
    clear h2 h3 h6
    go_enter_d Tryz.func194, Tryz.ntmps194
    go_wp2_with fail
    refine H.out.mono ?_
    rintro e w' ⟨rfl, rfl⟩
    go_wp2_with fail
    go_end0
    exact ⟨rfl, C.out.2.1⟩
end Go.Proofs.YtgilnnipephfjaaGreatDoor
