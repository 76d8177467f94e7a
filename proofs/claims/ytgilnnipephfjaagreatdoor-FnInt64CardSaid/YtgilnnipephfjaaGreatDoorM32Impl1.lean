/- impl.Decimal's dec, and plain. -/
import Derived.Test.YtgilnnipephfjaaGreatDoorM31Safe
import Derived.Deep.RegionHeld3
set_option linter.unusedSimpArgs false
set_option linter.unusedVariables false
namespace Go.Proofs.YtgilnnipephfjaaGreatDoor
open Go.RowKit

/-- A decimal as data. -/
def dv (f : Int) (n : Bool) (e : Int) (s : ByteArray) : Value := .agg #[.int .i64 f, .bool n, .int .i32 e, .string s]
set_option maxRecDepth 100000 in
set_option maxHeartbeats 2000000 in
theorem dec_any {w : World} {n : Bool} {e : Int} {s : ByteArray} (f : Nat) (hf : f ≤ 3) (g : Gv w) (hd : Digs s.data.toList) (h0 : 0 < s.size) (hs : s.size ≤ 1000) :
    Calls Tryz.prog 31 #[.agg #[.int .i64 f, .bool n, .int .i32 e, .string s]] w fun e1 w' => ∃ p a c, e1 = .returned (.pointer (some ⟨p, 0, none⟩)) ∧ DA w' p f n e a c (numOf s.data.toList) ∧ Fr (fun _ _ => False) w w' ∧ w.heap.size ≤ p ∧ Out w none 0 a c := by
  have hG := g.g.size
  have F1 := Aside.mk (((Fr.refl (fun _ _ => False) w).alloc (.cells #[.int .i64 f, .bool n, .int .i32 e, .string s] 24)).alloc (.cells #[.int .i8 0, .bool n, .int .i32 e, .bool false, .slice none 0 0] 71))
  have D1 := Aside.mk (DA.new (w := w.alloc (.cells #[.int .i64 f, .bool n, .int .i32 e, .string s] 24)) (by simp; omega) 71 0 n e)
  have hne : s.toList.isEmpty = false := by
    rw [ByteArray.toList_eq]
    cases hq : s.data.toList with
    | nil => have : s.data.toList.length = 0 := by rw [hq]; rfl
             have h1 : s.size = s.data.toList.length := rfl
             omega
    | cons x l => rfl
  have key : ∀ (w1 : World) (f' : Int), DA w1 (w.heap.size + 1) f' n e none 0 0 → Fr (fun _ _ => False) w w1 → Hid (∀ d, Calls Tryz.prog 62 #[.pointer (some ⟨w.heap.size + 1, 3, none⟩), .string s, .int .i64 10] (w1.drewN d) fun e1 w' => ∃ v a c, e1 = .returned v ∧
      Aside (DA w' (w.heap.size + 1) f' n e a c (numOf s.data.toList)) ∧ Aside (Out w none 0 a c) ∧ Aside (Fr (fun _ _ => False) w w')) := by
    intro w1 f' D f
    refine Lib.hid (fun d => ?_)
    refine (bSetString_any (s := s) (Nat.le_trans hG (f.drewN d).size) (D.drewN d).num hd h0 hs (g.new (f.drewN d)).eof).mono ?_
    rintro e1 w' ⟨a', c', rfl, k1, k2, k3⟩
    refine ⟨_, a', c', rfl, ⟨(D.drewN d).put k1 k2⟩, ⟨k3.older (f.drewN d).size⟩, ⟨(f.drewN d).trans' k2 (fun _ _ _ k => k) (fun x y hx k => ?_)⟩⟩
    rcases k with ⟨rfl, _⟩ | k
    · omega
    · exact foot_none _ _ _ k
  have KEY := Lib.hid key
  clear key hd h0 hs g
  have c0 : f = 0 ∨ f = 1 ∨ f = 2 ∨ f = 3 := by omega
  clear hf F1 D1
  rcases c0 with rfl | rfl | rfl | rfl
  · have H := KEY.out ((w.alloc (.cells #[.int .i64 0, .bool n, .int .i32 e, .string s] 24)).alloc (.cells #[.int .i8 0, .bool n, .int .i32 e, .bool false, .slice none 0 0] 71)) 0
      (by have := DA.new (w := w.alloc (.cells #[.int .i64 0, .bool n, .int .i32 e, .string s] 24)) (by simp; omega) 71 0 n e; simpa using this) (((Fr.refl _ w).alloc _).alloc _)
    clear KEY
    go_enter Tryz.func31, Tryz.ntmps31
    go_wp2_with fail
    go_region_with (go_at_call 62; go_must (refine (H.out _).mono ?_; rintro e1 w2 ⟨v, a, c, rfl, k1, k3, k2⟩))
    all_goals
      go_wp2_with fail
      go_ret
      exact ⟨_, a, c, rfl, k1.out, k2.out, by omega, k3.out⟩
  · have H := KEY.out ((w.alloc (.cells #[.int .i64 1, .bool n, .int .i32 e, .string s] 24)).alloc (.cells #[.int .i8 1, .bool n, .int .i32 e, .bool false, .slice none 0 0] 71)) 1
      (by have := DA.new (w := w.alloc (.cells #[.int .i64 1, .bool n, .int .i32 e, .string s] 24)) (by simp; omega) 71 1 n e; simpa using this) (((Fr.refl _ w).alloc _).alloc _)
    clear KEY
    go_enter Tryz.func31, Tryz.ntmps31
    go_wp2_with fail
    go_region_with (go_at_call 62; go_must (refine (H.out _).mono ?_; rintro e1 w2 ⟨v, a, c, rfl, k1, k3, k2⟩))
    all_goals
      go_wp2_with fail
      go_ret
      exact ⟨_, a, c, rfl, k1.out, k2.out, by omega, k3.out⟩
  · have H := KEY.out ((w.alloc (.cells #[.int .i64 2, .bool n, .int .i32 e, .string s] 24)).alloc (.cells #[.int .i8 2, .bool n, .int .i32 e, .bool false, .slice none 0 0] 71)) 2
      (by have := DA.new (w := w.alloc (.cells #[.int .i64 2, .bool n, .int .i32 e, .string s] 24)) (by simp; omega) 71 2 n e; simpa using this) (((Fr.refl _ w).alloc _).alloc _)
    clear KEY
    go_enter Tryz.func31, Tryz.ntmps31
    go_wp2_with fail
    go_region_with (go_at_call 62; go_must (refine (H.out _).mono ?_; rintro e1 w2 ⟨v, a, c, rfl, k1, k3, k2⟩))
    all_goals
      go_wp2_with fail
      go_ret
      exact ⟨_, a, c, rfl, k1.out, k2.out, by omega, k3.out⟩
  · have H := KEY.out ((w.alloc (.cells #[.int .i64 3, .bool n, .int .i32 e, .string s] 24)).alloc (.cells #[.int .i8 3, .bool n, .int .i32 e, .bool false, .slice none 0 0] 71)) 3
      (by have := DA.new (w := w.alloc (.cells #[.int .i64 3, .bool n, .int .i32 e, .string s] 24)) (by simp; omega) 71 3 n e; simpa using this) (((Fr.refl _ w).alloc _).alloc _)
    clear KEY
    go_enter Tryz.func31, Tryz.ntmps31
    go_wp2_with fail
    go_region_with (go_at_call 62; go_must (refine (H.out _).mono ?_; rintro e1 w2 ⟨v, a, c, rfl, k1, k3, k2⟩))
    all_goals
      go_wp2_with fail
      go_ret
      exact ⟨_, a, c, rfl, k1.out, k2.out, by omega, k3.out⟩

/-- A decimal's text. -/
theorem itxt_false (X : Nat) : itxt false X = mk (natText X) := by unfold itxt mk; rw [txt_false]
/-- A block that holds a decimal as data, beside the block of the result. -/
structure PL (w wr : World) (r p : Nat) (f : Int) (n : Bool) (e : Int) (s : ByteArray) : Prop where
  c0 : wr.cell? ⟨p, 0, none⟩ = some (.int .i64 f)
  c1 : wr.cell? ⟨p, 1, none⟩ = some (.bool n)
  c2 : wr.cell? ⟨p, 2, none⟩ = some (.int .i32 e)
  c3 : wr.cell? ⟨p, 3, none⟩ = some (.string s)
  free : wr.frozen? ⟨p, 0, none⟩ = false
  r0 : ∃ u, wr.cell? ⟨r, 0, none⟩ = some u
  r1 : ∃ u, wr.cell? ⟨r, 1, none⟩ = some u
  r2 : ∃ u, wr.cell? ⟨r, 2, none⟩ = some u
  r3 : ∃ u, wr.cell? ⟨r, 3, none⟩ = some u
  rfree : ∀ o, wr.frozen? ⟨r, o, none⟩ = false
  ne : p ≠ r
  new : w.heap.size ≤ p ∧ w.heap.size ≤ r
  fr : Fr (fun _ _ => False) w wr
/-- What stands behind the text's making. -/
structure MD (w w1 w2 : World) : Prop where
  fr : Fr (fun _ _ => False) w w2
  fr1 : Fr (fun _ _ => False) w1 w2
  res : ∀ o, o < 4 → ∃ u, w2.cell? ⟨w.heap.size, o, none⟩ = some u
  rkind : kind? w2 w.heap.size = some (24, (0, 0))
  rlt : w.heap.size < w2.heap.size
theorem MD.alloc {w w1 w2 : World} (h : MD w w1 w2) (n : Bool) (e : Int) (s : ByteArray) :
    PL w (w2.alloc (.cells #[.int .i64 0, .bool n, .int .i32 e, .string s] 24)) w.heap.size w2.heap.size 0 n e s := by
  have k : ∀ o, o < 4 → ∃ u, (w2.alloc (.cells #[.int .i64 0, .bool n, .int .i32 e, .string s] 24)).cell? ⟨w.heap.size, o, none⟩ = some u := fun o ho => by
    obtain ⟨u, hu⟩ := h.res o ho
    exact ⟨u, (World.cell?_alloc_lt w2 _ _ h.rlt).trans hu⟩
  refine ⟨?_, ?_, ?_, ?_, ?_, k 0 (by omega), k 1 (by omega), k 2 (by omega), k 3 (by omega), ?_, ?_, ⟨h.fr.size, Nat.le_refl _⟩, h.fr.alloc _⟩
  · rw [World.cell?_alloc_new]; rfl
  · rw [World.cell?_alloc_new]; rfl
  · rw [World.cell?_alloc_new]; rfl
  · rw [World.cell?_alloc_new]; rfl
  · exact free_of_kind (kind_alloc_new _ _ _ _) 0
  · intro o; exact free_of_kind (t := 24) ((kind_alloc w2 _ _ h.rlt).trans h.rkind) o
  · have := h.rlt; omega
/-- Four stores, one behind the other. -/
def st4 (w : World) (p : Nat) (v0 v1 v2 v3 : Value) : World := (((w.setCell ⟨p, 0, none⟩ v0).setCell ⟨p, 1, none⟩ v1).setCell ⟨p, 2, none⟩ v2).setCell ⟨p, 3, none⟩ v3
theorem st4_cells {w : World} {p : Nat} (v0 v1 v2 v3 : Value) (h : ∀ o, o < 4 → ∃ u, w.cell? ⟨p, o, none⟩ = some u) :
    (st4 w p v0 v1 v2 v3).cell? ⟨p, 0, none⟩ = some v0 ∧ (st4 w p v0 v1 v2 v3).cell? ⟨p, 1, none⟩ = some v1 ∧ (st4 w p v0 v1 v2 v3).cell? ⟨p, 2, none⟩ = some v2 ∧ (st4 w p v0 v1 v2 v3).cell? ⟨p, 3, none⟩ = some v3 := by
  obtain ⟨u0, z0⟩ := h 0 (by omega)
  obtain ⟨u1, z1⟩ := h 1 (by omega)
  obtain ⟨u2, z2⟩ := h 2 (by omega)
  obtain ⟨u3, z3⟩ := h 3 (by omega)
  unfold st4
  refine ⟨?_, ?_, ?_, ?_⟩
  · rw [World.cell?_setCell_other _ _ _ _ (by simp), World.cell?_setCell_other _ _ _ _ (by simp), World.cell?_setCell_other _ _ _ _ (by simp)]
    exact World.cell?_setCell_same _ _ _ z0
  · rw [World.cell?_setCell_other _ _ _ _ (by simp), World.cell?_setCell_other _ _ _ _ (by simp)]
    exact World.cell?_setCell_same _ _ _ ((World.cell?_setCell_other _ _ _ _ (by simp)).trans z1)
  · rw [World.cell?_setCell_other _ _ _ _ (by simp)]
    exact World.cell?_setCell_same _ _ _ ((World.cell?_setCell_other _ _ _ _ (by simp)).trans ((World.cell?_setCell_other _ _ _ _ (by simp)).trans z2))
  · exact World.cell?_setCell_same _ _ _ ((World.cell?_setCell_other _ _ _ _ (by simp)).trans ((World.cell?_setCell_other _ _ _ _ (by simp)).trans ((World.cell?_setCell_other _ _ _ _ (by simp)).trans z3)))
theorem Fr.st4 {S : Nat → Nat → Prop} {a w : World} (h : Fr S a w) (p : Nat) (v0 v1 v2 v3 : Value) (hs : ∀ o, p < a.heap.size → S p o) : Fr S a (st4 w p v0 v1 v2 v3) :=
  (((h.setCell p 0 _ (hs 0)).setCell p 1 _ (hs 1)).setCell p 2 _ (hs 2)).setCell p 3 _ (hs 3)
theorem MD.store {w w1 w2 : World} {p : Nat} (h : MD w w1 w2) (hp : p = w.heap.size + 1) (hk : kind? w1 p = some (24, (0, 0))) (hz : ∀ o, o < 4 → ∃ u, w1.cell? ⟨p, o, none⟩ = some u) (n : Bool) (e : Int) (s : ByteArray) :
    PL w (st4 w2 p (.int .i64 0) (.bool n) (.int .i32 e) (.string s)) w.heap.size p 0 n e s := by
  have hl := kind_lt hk
  have f4 := (Fr.refl (fun x _ => x = p) w2).st4 p (.int .i64 0) (.bool n) (.int .i32 e) (.string s) (fun _ _ => rfl)
  obtain ⟨c0, c1, c2, c3⟩ := st4_cells (w := w2) (p := p) (.int .i64 0) (.bool n) (.int .i32 e) (.string s) (fun o ho => by
    obtain ⟨u, hu⟩ := hz o ho
    exact ⟨u, (h.fr1.cell p o hl (fun q => q)).trans hu⟩)
  have k : ∀ o, o < 4 → ∃ u, (st4 w2 p (.int .i64 0) (.bool n) (.int .i32 e) (.string s)).cell? ⟨w.heap.size, o, none⟩ = some u := fun o ho => by
    obtain ⟨u, hu⟩ := h.res o ho
    exact ⟨u, (f4.cell _ o h.rlt (by omega)).trans hu⟩
  have hkp : kind? (st4 w2 p (.int .i64 0) (.bool n) (.int .i32 e) (.string s)) p = some (24, (0, 0)) := (f4.kind p (Nat.lt_of_lt_of_le hl h.fr1.size)).trans ((h.fr1.kind p hl).trans hk)
  have hkr : kind? (st4 w2 p (.int .i64 0) (.bool n) (.int .i32 e) (.string s)) w.heap.size = some (24, (0, 0)) := (f4.kind _ h.rlt).trans h.rkind
  exact ⟨c0, c1, c2, c3, free_of_kind hkp 0, k 0 (by omega), k 1 (by omega), k 2 (by omega), k 3 (by omega), fun o => free_of_kind hkr o, by omega, ⟨by omega, Nat.le_refl _⟩, h.fr.st4 p _ _ _ _ (fun o q => by omega)⟩
theorem four_new (w : World) (v0 v1 v2 v3 : Value) (t : TypeId) : ∀ o, o < 4 → ∃ u, (w.alloc (.cells #[v0, v1, v2, v3] t)).cell? ⟨w.heap.size, o, none⟩ = some u := by
  intro o ho
  rw [World.cell?_alloc_new]
  match o, ho with
  | 0, _ => exact ⟨_, rfl⟩
  | 1, _ => exact ⟨_, rfl⟩
  | 2, _ => exact ⟨_, rfl⟩
  | 3, _ => exact ⟨_, rfl⟩
theorem keep4 {w : World} {p b o : Nat} {v v0 v1 v2 v3 : Value} (h : b ≠ p) (hc : w.cell? ⟨b, o, none⟩ = some v) : ((((w.setCell ⟨p, 0, none⟩ v0).setCell ⟨p, 1, none⟩ v1).setCell ⟨p, 2, none⟩ v2).setCell ⟨p, 3, none⟩ v3).cell? ⟨b, o, none⟩ = some v :=
  (((Fr.refl (fun x _ => x = p) w).st4 p v0 v1 v2 v3 (fun _ _ => rfl)).cell b o (World.block_lt_of_cell? w _ hc) h).trans hc
theorem two_kind (w : World) (A : Obj) (B : Array Value) (t : TypeId) : kind? (((w.alloc A).alloc (.cells B t)).drew) (w.heap.size + 1) = some (t, (0, 0)) := by
  have := kind_alloc_new (w.alloc A) B t (0, 0)
  rw [World.size_alloc] at this
  exact this
theorem two_cells (w : World) (A : Obj) (v0 v1 v2 v3 : Value) (t : TypeId) : ∀ o, o < 4 → ∃ u, (((w.alloc A).alloc (.cells #[v0, v1, v2, v3] t)).drew).cell? ⟨w.heap.size + 1, o, none⟩ = some u := by
  intro o ho
  obtain ⟨u, hu⟩ := four_new (w.alloc A) v0 v1 v2 v3 t o ho
  rw [World.size_alloc] at hu
  exact ⟨u, hu⟩
set_option maxRecDepth 100000 in
set_option maxHeartbeats 4000000 in
theorem plain_any {w : World} {b : Nat} {n : Bool} {e : Int} {a : Option Addr} {c X : Nat} (f : Nat) (hf : f ≤ 3) (g : Gv w) (h : DA w b f n e a c X) (h8 : Sm X) :
    Calls Tryz.prog 29 #[.pointer (some ⟨b, 0, none⟩)] w fun e1 w' => e1 = .returned (.agg #[.int .i64 f, .bool n, .int .i32 e, .string (mk (natText X))]) ∧ Fr (fun _ _ => False) w w' := by
  have hG := g.g.size
  have hneg := h.neg
  have hexp := h.exp
  have hform := h.form
  have hlt := h.lt
  have hlt1 : b < w.heap.size + 1 := by omega
  have hbp : b ≠ w.heap.size + 1 := by omega
  have HD := Aside.mk h
  obtain ⟨s, hs⟩ : ∃ s, mk (natText X) = s := ⟨_, rfl⟩
  rw [hs]
  have H : Hid (∀ w1, Fr (fun _ _ => False) (w.alloc (.cells #[.int .i64 0, .bool false, .int .i32 0, .string ⟨#[]⟩] 24)) w1 → Calls Tryz.prog 61 #[.pointer (some ⟨b, 3, none⟩)] w1 fun e1 w' => e1 = .returned (.string s) ∧
      w'.cell? ⟨b, 1, none⟩ = some (.bool n) ∧ w'.cell? ⟨b, 2, none⟩ = some (.int .i32 e) ∧
      (∀ y, w.heap.size + 1 < w1.heap.size → w'.cell? ⟨w.heap.size + 1, y, none⟩ = w1.cell? ⟨w.heap.size + 1, y, none⟩) ∧ (∀ y, w.heap.size + 1 < w1.heap.size → w'.frozen? ⟨w.heap.size + 1, y, none⟩ = w1.frozen? ⟨w.heap.size + 1, y, none⟩) ∧ b < w'.heap.size ∧ w.heap.size < w'.heap.size ∧ Aside (MD w w1 w')) := Lib.hid (fun w1 f => by
    have f0 := ((Fr.refl (fun _ _ => False) w).alloc (.cells #[.int .i64 0, .bool false, .int .i32 0, .string ⟨#[]⟩] 24)).trans f
    refine (bString_any (g.new f0).g (h.fr f0 (fun _ _ _ k => k)).num h8).mono ?_
    rintro e1 w' ⟨rfl, k⟩
    rw [itxt_false, hs]
    have D' := h.fr (f0.trans k) (fun _ _ _ k => k)
    have hl : w.heap.size < w1.heap.size := by have := f.size; simp at this; omega
    refine ⟨rfl, D'.neg, D'.exp, fun y hx => k.cell _ y hx (fun q => q), fun y hx => k.frozen _ y hx, D'.lt, Nat.lt_of_lt_of_le hl k.size, ⟨⟨f0.trans k, k, fun o ho => ?_, ?_, Nat.lt_of_lt_of_le hl k.size⟩⟩⟩
    · have hc : ∃ u, (w.alloc (.cells #[.int .i64 0, .bool false, .int .i32 0, .string ⟨#[]⟩] 24)).cell? ⟨w.heap.size, o, none⟩ = some u := by
        rw [World.cell?_alloc_new]
        match o, ho with
        | 0, _ => exact ⟨_, rfl⟩
        | 1, _ => exact ⟨_, rfl⟩
        | 2, _ => exact ⟨_, rfl⟩
        | 3, _ => exact ⟨_, rfl⟩
      obtain ⟨u, hu⟩ := hc
      exact ⟨u, ((f.trans k).cell _ o (by simp) (fun q => q)).trans hu⟩
    · exact ((f.trans k).kind _ (by simp)).trans (kind_alloc_new _ _ _ _))
  clear h g h8 hs
  go_enter Tryz.func29, Tryz.ntmps29
  go_wp2_with fail
  go_cut [3] (fun v wr => ∃ p, v = .pointer (some ⟨p, 0, none⟩) ∧ Aside (PL w wr w.heap.size p 0 n e s))
  case first =>
    go_region_held3 (fun w' => w'.cell? ⟨b, 1, none⟩ = some (.bool n) ∧ w'.cell? ⟨b, 2, none⟩ = some (.int .i32 e)) (first | (with_reducible exact ⟨d1, d2⟩) | (with_reducible exact ⟨keep4 hbp d1, keep4 hbp d2⟩) | go_keep) ((go_at_call 61; go_must (refine (H.out _ (by repeat first | exact Fr.refl _ _ | refine Fr.drewN ?_ _ | refine Fr.drew ?_ | refine Fr.alloc ?_ _)).mono ?_; rintro e1 w2 ⟨rfl, d1, d2, hc2, hf2, l1, l2, hM⟩)))
    all_goals (try go_wp2_with fail)
    all_goals go_meet
    all_goals first
      | (with_reducible refine ⟨w2.heap.size, rfl, ?_⟩; exact ⟨hM.out.alloc n e s⟩)
      | (with_reducible refine ⟨w.heap.size + 1, rfl, ?_⟩; have hst := hM.out.store rfl (two_kind _ _ _ _) (two_cells _ _ _ _ _ _ _) n e s; unfold st4 at hst; exact ⟨hst⟩)
  case rest =>
    obtain ⟨p, rfl, hP⟩ := hcut
    have hfc := (hP.out.fr.cell b 0 hlt (fun q => q)).trans hform
    have c0 := hP.out.c0
    have c1 := hP.out.c1
    have c2 := hP.out.c2
    have c3 := hP.out.c3
    have cf := hP.out.free
    obtain ⟨u0, r0⟩ := hP.out.r0
    obtain ⟨u1, r1⟩ := hP.out.r1
    obtain ⟨u2, r2⟩ := hP.out.r2
    obtain ⟨u3, r3⟩ := hP.out.r3
    have rf := hP.out.rfree
    have ne := hP.out.ne
    have ne' : ¬ w.heap.size = p := fun k => ne k.symm
    have hnew := hP.out.new
    have c0' : f = 0 ∨ f = 1 ∨ f = 2 ∨ f = 3 := by omega
    clear hneg hexp hform hlt1 hbp H hf
    rcases c0' with rfl | rfl | rfl | rfl
    · go_wp2_with fail
      refine bodyPost_ret (v := .agg #[.int .i64 0, .bool n, .int .i32 e, .string s]) (by simp [results, Tryz.results29, go_sem, r0, r1, r2, r3]) rfl ⟨rfl, ?_⟩
      have hfr := hP.out.fr
      repeat' (first | exact hfr | refine Fr.setCell ?_ _ _ _ (fun q => by omega))
    · go_wp2_with fail
      refine bodyPost_ret (v := .agg #[.int .i64 1, .bool n, .int .i32 e, .string s]) (by simp [results, Tryz.results29, go_sem, r0, r1, r2, r3]) rfl ⟨rfl, ?_⟩
      have hfr := hP.out.fr
      repeat' (first | exact hfr | refine Fr.setCell ?_ _ _ _ (fun q => by omega))
    · go_wp2_with fail
      refine bodyPost_ret (v := .agg #[.int .i64 2, .bool n, .int .i32 e, .string s]) (by simp [results, Tryz.results29, go_sem, r0, r1, r2, r3]) rfl ⟨rfl, ?_⟩
      have hfr := hP.out.fr
      repeat' (first | exact hfr | refine Fr.setCell ?_ _ _ _ (fun q => by omega))
    · go_wp2_with fail
      refine bodyPost_ret (v := .agg #[.int .i64 3, .bool n, .int .i32 e, .string s]) (by simp [results, Tryz.results29, go_sem, r0, r1, r2, r3]) rfl ⟨rfl, ?_⟩
      have hfr := hP.out.fr
      repeat' (first | exact hfr | refine Fr.setCell ?_ _ _ _ (fun q => by omega))
end Go.Proofs.YtgilnnipephfjaaGreatDoor
