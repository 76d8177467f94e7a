/- Texts of numbers: plain facts on what strconv reads of exponents and payloads. setString: its small callees, and the list of exponents. -/
import Derived.Test.YtifkpcijheabhaaGreatDoorM27Str1
import Derived.Lib.ParseIntB
import Derived.Test.YtifkpcijheabhaaGreatDoorM28Str2
import Derived.Test.YtifkpcijheabhaaGreatDoorShelf3
set_option linter.unusedSimpArgs false
set_option linter.unusedVariables false
namespace Go.Proofs.YtifkpcijheabhaaGreatDoor
open Go.RowKit

theorem fold_ge (l : List UInt8) : ∀ acc : Nat, acc ≤ l.foldl (fun n c => n * 10 + (c.toNat - 48)) acc := by
  induction l with
  | nil => intro acc; exact Nat.le_refl _
  | cons c r ih => intro acc; exact Nat.le_trans (by omega) (ih (acc * 10 + (c.toNat - 48)))
theorem uintM_ok {M : Nat} (hM : M < 18446744073709551616) : ∀ (l : List UInt8) (acc : Nat), Digs l → l.foldl (fun n c => n * 10 + (c.toNat - 48)) acc ≤ M → Lib.parseUintM M acc l = .ok (l.foldl (fun n c => n * 10 + (c.toNat - 48)) acc) := by
  intro l
  induction l with
  | nil => intro acc _ _; rfl
  | cons c r ih =>
    intro acc hd h
    have hc := hd c (List.mem_cons_self ..)
    have h1 := fold_ge r (acc * 10 + (c.toNat - 48))
    rw [List.foldl_cons] at h ⊢
    unfold Lib.parseUintM
    rw [if_pos hc, if_neg (by omega), if_neg (by omega)]
    exact ih _ (fun x hx => hd x (List.mem_cons_of_mem _ hx)) h
theorem uintM_digs {M : Nat} : ∀ (l : List UInt8) (acc u : Nat), Lib.parseUintM M acc l = .ok u → Digs l ∧ u = l.foldl (fun n c => n * 10 + (c.toNat - 48)) acc := by
  intro l
  induction l with
  | nil => intro acc u h; simp only [Lib.parseUintM, Lib.NumEnd.ok.injEq] at h; exact ⟨fun _ hx => by simp at hx, h.symm⟩
  | cons c r ih =>
    intro acc u h
    unfold Lib.parseUintM at h
    by_cases hc : 48 ≤ c.toNat ∧ c.toNat ≤ 57
    · rw [if_pos hc] at h
      by_cases h1 : 1844674407370955162 ≤ acc
      · rw [if_pos h1] at h; cases h
      · rw [if_neg h1] at h
        by_cases h2 : M < acc * 10 + (c.toNat - 48)
        · rw [if_pos h2] at h; cases h
        · rw [if_neg h2] at h
          obtain ⟨k1, k2⟩ := ih _ _ h
          refine ⟨fun x hx => ?_, by rw [k2, List.foldl_cons]⟩
          rcases List.mem_cons.1 hx with rfl | hx
          · exact hc
          · exact k1 x hx
    · rw [if_neg hc] at h; cases h
theorem uintB_ok {B : Nat} (hB : 2 ^ B - 1 < 18446744073709551616) {l : List UInt8} (h0 : l ≠ []) (hd : Digs l) (h : numOf l ≤ 2 ^ B - 1) : Lib.parseUintB B l = .ok (numOf l) := by
  unfold Lib.parseUintB
  rw [if_neg h0]
  exact uintM_ok hB l 0 hd h
theorem uintB_digs {B : Nat} {l : List UInt8} {u : Nat} (h : Lib.parseUintB B l = .ok u) : l ≠ [] ∧ Digs l ∧ u = numOf l := by
  unfold Lib.parseUintB at h
  by_cases h0 : l = []
  · rw [if_pos h0] at h; cases h
  · rw [if_neg h0] at h
    exact ⟨h0, uintM_digs l 0 u h⟩
/-- A sign ahead of an exponent, and what stands behind it. -/
def expR (l : List UInt8) : Bool × List UInt8 := match l with | [] => (false, []) | c :: r => if c.toNat = 45 then (true, r) else if c.toNat = 43 then (false, r) else (false, c :: r)
/-- The exponent that a text is. -/
def expV (l : List UInt8) : Int := if (expR l).1 = true then -(numOf (expR l).2 : Int) else (numOf (expR l).2 : Int)
theorem intB_ok {l : List UInt8} (h0 : (expR l).2 ≠ []) (hd : Digs (expR l).2) (h : numOf (expR l).2 ≤ 9999) : Lib.parseIntB 32 l = .ok (expV l) := by
  match l, h0, hd, h with
  | [], h0, _, _ => exact absurd rfl h0
  | c :: r, h0, hd, h =>
    have hb : (2 : Nat) ^ 32 - 1 = 4294967295 := by decide
    by_cases h45 : c.toNat = 45
    · have e1 : expR (c :: r) = (true, r) := by simp [expR, h45]
      rw [e1] at h0 hd h
      have h' : numOf r ≤ 9999 := h
      have hx : (if c.toNat = 43 ∨ c.toNat = 45 then r else c :: r) = r := if_pos (.inr h45)
      have hu := uintB_ok (B := 32) (l := r) (by rw [hb]; omega) h0 hd (by rw [hb]; omega)
      unfold expV
      rw [e1]
      unfold Lib.parseIntB
      dsimp only
      rw [hx, hu]
      simp [h45]
      omega
    · by_cases h43 : c.toNat = 43
      · have e1 : expR (c :: r) = (false, r) := by simp [expR, h43]
        rw [e1] at h0 hd h
        have h' : numOf r ≤ 9999 := h
        have hx : (if c.toNat = 43 ∨ c.toNat = 45 then r else c :: r) = r := if_pos (.inl h43)
        have hu := uintB_ok (B := 32) (l := r) (by rw [hb]; omega) h0 hd (by rw [hb]; omega)
        unfold expV
        rw [e1]
        unfold Lib.parseIntB
        dsimp only
        rw [hx, hu]
        simp [h45]
        omega
      · have e1 : expR (c :: r) = (false, c :: r) := by simp [expR, h43, h45]
        rw [e1] at h0 hd h
        have h' : numOf (c :: r) ≤ 9999 := h
        have hx : (if c.toNat = 43 ∨ c.toNat = 45 then r else c :: r) = c :: r := if_neg (by omega)
        have hu := uintB_ok (B := 32) (l := c :: r) (by rw [hb]; omega) h0 hd (by rw [hb]; omega)
        unfold expV
        rw [e1]
        unfold Lib.parseIntB
        dsimp only
        rw [hx, hu]
        simp [h45]
        omega
theorem intB_digs {l : List UInt8} {v : Int} (h : Lib.parseIntB 32 l = .ok v) : (expR l).2 ≠ [] ∧ Digs (expR l).2 := by
  match l, h with
  | [], h => simp [Lib.parseIntB] at h
  | c :: r, h =>
    unfold expR
    simp only [Lib.parseIntB] at h
    have key : ∀ m, (∃ u, Lib.parseUintB 32 m = .ok u) → m ≠ [] ∧ Digs m := fun m ⟨u, hu⟩ => ⟨(uintB_digs hu).1, (uintB_digs hu).2.1⟩
    have hx : ∃ u, Lib.parseUintB 32 (if c.toNat = 43 ∨ c.toNat = 45 then r else c :: r) = .ok u := by
      revert h
      rcases Lib.parseUintB 32 (if c.toNat = 43 ∨ c.toNat = 45 then r else c :: r) with u | _ | _
      · intro _; exact ⟨u, rfl⟩
      · intro h; cases h
      · intro h; cases h
    by_cases h45 : c.toNat = 45
    · rw [if_pos (.inr h45)] at hx
      simp only [h45, if_true]
      exact key _ hx
    · simp only [h45, if_false]
      by_cases h43 : c.toNat = 43
      · rw [if_pos (.inl h43)] at hx
        simp only [h43, if_true]
        exact key _ hx
      · rw [if_neg (by omega)] at hx
        simp only [h43, if_false]
        exact key _ hx
/-- A sign ahead of a text, and what stands behind it. -/
def sgnR (l : List UInt8) : Bool × List UInt8 := match l with | [] => (false, []) | c :: r => if c.toNat = 45 then (true, r) else if c.toNat = 43 then (false, r) else (false, c :: r)
theorem sgnR_cases (l : List UInt8) : (∃ r, l = 45 :: r ∧ sgnR l = (true, r)) ∨ (∃ r, l = 43 :: r ∧ sgnR l = (false, r)) ∨ (sgnR l = (false, l) ∧ Lib.hasPrefix l [45] = false ∧ Lib.hasPrefix l [43] = false) := by
  match l with
  | [] => exact .inr (.inr ⟨rfl, rfl, rfl⟩)
  | c :: r =>
    by_cases h45 : c.toNat = 45
    · obtain rfl : c = 45 := UInt8.toNat_inj.1 h45
      exact .inl ⟨r, rfl, rfl⟩
    · by_cases h43 : c.toNat = 43
      · obtain rfl : c = 43 := UInt8.toNat_inj.1 h43
        exact .inr (.inl ⟨r, rfl, rfl⟩)
      · refine .inr (.inr ⟨by simp [sgnR, h45, h43], ?_, ?_⟩)
        · have hne : ((45 : UInt8) == c) = false := by rw [beq_eq_false_iff_ne]; rintro rfl; exact h45 rfl
          simp [Lib.hasPrefix, List.isPrefixOf, hne]
        · have hne : ((43 : UInt8) == c) = false := by rw [beq_eq_false_iff_ne]; rintro rfl; exact h43 rfl
          simp [Lib.hasPrefix, List.isPrefixOf, hne]
end Go.Proofs.YtifkpcijheabhaaGreatDoor
namespace Go.Proofs.YtifkpcijheabhaaGreatDoor
open Go.RowKit

theorem sgn_len {s : ByteArray} {ng : Bool} {r : List UInt8} (hsg : sgnR s.data.toList = (ng, r)) (hs : s.size ≤ 1000) : r.length ≤ 1000 := by
  have e1 : s.data.toList.length = s.size := rfl
  rcases sgnR_cases s.data.toList with ⟨q, h1, h2⟩ | ⟨q, h1, h2⟩ | ⟨h1, _, _⟩
  · rw [hsg] at h2; cases h2; rw [h1] at e1; simp at e1; omega
  · rw [hsg] at h2; cases h2; rw [h1] at e1; simp at e1; omega
  · rw [hsg] at h1; cases h1; omega
theorem sgn_calls {s : ByteArray} {ng : Bool} {r : List UInt8} (hsg : sgnR s.data.toList = (ng, r)) (hs : s.size ≤ 1000) : ∃ s1 : ByteArray,
    (∀ w, Calls Tryz.prog 73 #[.string s, .string ⟨#[45]⟩] w fun e w' => e = .returned (.tuple #[.string s1, .bool ng]) ∧ w' = w) ∧
    (ng = false → ∀ w, Calls Tryz.prog 73 #[.string s1, .string ⟨#[43]⟩] w fun e w' => (∃ p : Bool, e = .returned (.tuple #[.string (mk r), .bool p])) ∧ w' = w) ∧ (ng = true → s1 = mk r) := by
  rcases sgnR_cases s.data.toList with ⟨q, h1, h2⟩ | ⟨q, h1, h2⟩ | ⟨h1, h2, h3⟩
  · rw [hsg] at h2; cases h2
    have es : s = mk (45 :: r) := by rw [← h1]; exact mk_of s
    refine ⟨mk r, fun w => ?_, fun k => by simp at k, fun _ => rfl⟩
    refine (consume_yes s ⟨#[45]⟩ (by rw [h1]; simp [Lib.hasPrefix]) (by rw [es, mk_size]; show 1 ≤ _; simp) (by omega) w).mono ?_
    rintro e w' ⟨rfl, rfl⟩
    refine ⟨?_, rfl⟩
    rw [← tail_extract 45, ← es]; rfl
  · rw [hsg] at h2; cases h2
    have es : s = mk (43 :: r) := by rw [← h1]; exact mk_of s
    refine ⟨s, fun w => consume_no s ⟨#[45]⟩ (by rw [h1]; simp [Lib.hasPrefix, List.isPrefixOf]) w, fun _ w => ?_, fun k => by simp at k⟩
    refine (consume_yes s ⟨#[43]⟩ (by rw [h1]; simp [Lib.hasPrefix]) (by rw [es, mk_size]; show 1 ≤ _; simp) (by omega) w).mono ?_
    rintro e w' ⟨rfl, rfl⟩
    refine ⟨⟨true, ?_⟩, rfl⟩
    rw [← tail_extract 43, ← es]; rfl
  · rw [hsg] at h1; cases h1
    refine ⟨s, fun w => consume_no s ⟨#[45]⟩ h2 w, fun _ w => ?_, fun k => by simp at k⟩
    refine (consume_no s ⟨#[43]⟩ h3 w).mono ?_
    rintro e w' ⟨rfl, rfl⟩
    exact ⟨⟨false, by rw [← mk_of]⟩, rfl⟩
theorem lower_asc {r : List UInt8} (h : ∀ x ∈ r, x.toNat < 128) : ∀ x ∈ Lib.toLowerA r, x.toNat < 128 := by
  intro x hx
  unfold Lib.toLowerA at hx
  obtain ⟨y, hy, rfl⟩ := List.mem_map.1 hx
  have := h y hy
  unfold Lib.lowerB
  split
  · rename_i k
    have h2 : y.toNat ≤ 90 := by
      simp only [Lib.isUpperB, Bool.and_eq_true, decide_eq_true_eq, UInt8.le_iff_toNat_le] at k
      exact k.2
    rw [UInt8.toNat_add]
    have : (32 : UInt8).toNat = 32 := rfl
    omega
  · exact this
set_option maxRecDepth 100000 in
theorem errNew (t : ByteArray) (w : World) :
    Calls Tryz.prog 77 #[.string t] w fun e1 w' => e1 = .returned (.iface 150 (.pointer (some ⟨w.heap.size, 0, none⟩))) ∧ Fr (fun _ _ => False) w w' := by
  go_enter Tryz.func77, Tryz.ntmps77
  go_wp2_with fail
  go_ret
  exact ⟨rfl, (Fr.refl _ w).alloc _⟩
/-- The exponents' array, as far as it is filled. -/
structure EX (w5 wr : World) (gb : Nat) (L : List Int) : Prop where
  c0 : wr.cell? ⟨gb, 0, none⟩ = some (.int .i64 (L.getD 0 0))
  c1 : wr.cell? ⟨gb, 1, none⟩ = some (.int .i64 (L.getD 1 0))
  kind : kind? wr gb = some (2, (0, 0))
  fr : Fr (fun _ _ => False) w5 wr
  lt : gb < wr.heap.size
  old : w5.heap.size ≤ gb
theorem EX.start {w5 w6 : World} {gb : Nat} (h : w5.heap.size = gb) (hw : w6 = w5.alloc (.cells #[.int .i64 0, .int .i64 0] 2)) : EX w5 w6 gb [] := by
  subst hw h
  exact ⟨by rw [World.cell?_alloc_new]; rfl, by rw [World.cell?_alloc_new]; rfl, kind_alloc_new _ _ _ _, (Fr.refl _ _).alloc _, by simp, Nat.le_refl _⟩
theorem EX.new {w5 wr w2 : World} {gb : Nat} {L : List Int} (h : EX w5 wr gb L) (f : Fr (fun _ _ => False) wr w2) : EX w5 w2 gb L :=
  ⟨(f.cell gb 0 h.lt (fun q => q)).trans h.c0, (f.cell gb 1 h.lt (fun q => q)).trans h.c1, (f.kind gb h.lt).trans h.kind, h.fr.trans f, Nat.lt_of_lt_of_le h.lt f.size, h.old⟩
theorem EX.drewN {w5 wr : World} {gb : Nat} {L : List Int} (h : EX w5 wr gb L) (d : Nat) : EX w5 (wr.drewN d) gb L := h.new ((Fr.refl _ wr).drewN d)
theorem EX.cell {w5 wr : World} {gb : Nat} {L : List Int} (h : EX w5 wr gb L) (o : Nat) (ho : o < 2) (x : Obj) : ∃ u, (wr.alloc x).cell? ⟨gb, o, none⟩ = some u := by
  have h2 := h.new ((Fr.refl _ wr).alloc x)
  match o, ho with
  | 0, _ => exact ⟨_, h2.c0⟩
  | 1, _ => exact ⟨_, h2.c1⟩
theorem EX.free {w5 wr : World} {gb : Nat} {L : List Int} (h : EX w5 wr gb L) (o : Nat) (x : Obj) : (wr.alloc x).frozen? ⟨gb, o, none⟩ = false := free_of_kind (h.new ((Fr.refl _ wr).alloc x)).kind o
theorem EX.push0 {w5 wr : World} {gb : Nat} (h : EX w5 wr gb []) (v : Int) (x : Obj) : EX w5 ((wr.alloc x).setCell ⟨gb, 0, none⟩ (.int .i64 v)) gb [v] := by
  have h2 := h.new ((Fr.refl _ wr).alloc x)
  exact ⟨World.cell?_setCell_same _ _ _ h2.c0, (World.cell?_setCell_other _ _ _ _ (by simp)).trans h2.c1, (kind_setCell _ _ _ _).trans h2.kind, h2.fr.setCell gb 0 _ (fun q => by have := h.old; omega), by rw [World.size_setCell]; exact h2.lt, h.old⟩
theorem EX.push1 {w5 wr : World} {gb : Nat} {y : Int} (h : EX w5 wr gb [y]) (v : Int) (x : Obj) : EX w5 ((wr.alloc x).setCell ⟨gb, 1, none⟩ (.int .i64 v)) gb [y, v] := by
  have h2 := h.new ((Fr.refl _ wr).alloc x)
  exact ⟨(World.cell?_setCell_other _ _ _ _ (by simp)).trans h2.c0, World.cell?_setCell_same _ _ _ h2.c1, (kind_setCell _ _ _ _).trans h2.kind, h2.fr.setCell gb 1 _ (fun q => by have := h.old; omega), by rw [World.size_setCell]; exact h2.lt, h.old⟩
theorem EX.xs {w5 wr w' : World} {gb : Nat} {L : List Int} (h : EX w5 wr gb L) (hl : L.length ≤ 2) (hc : ∀ o, o < 2 → w'.cell? ⟨gb, o, none⟩ = wr.cell? ⟨gb, o, none⟩) : Xs w' (some ⟨gb, 0, none⟩) L := by
  intro k hk
  refine ⟨gb, 0, rfl, ?_⟩
  rw [Nat.zero_add, hc k (by omega)]
  have e1 : L[k] = L.getD k 0 := by rw [List.getD_eq_getElem?_getD, List.getElem?_eq_getElem hk]; rfl
  rw [e1]
  have : k < 2 := by omega
  match k, this with
  | 0, _ => exact h.c0
  | 1, _ => exact h.c1
/-- What the variables of strconv's errors hold. -/
def SyV (w : World) : Prop := (∃ ev, w.cell? ⟨7, 0, none⟩ = some ev ∧ (ev = .nilIface ∨ ∃ te pe, ev = .iface te pe)) ∧ (∃ ev, w.cell? ⟨8, 0, none⟩ = some ev ∧ (ev = .nilIface ∨ ∃ te pe, ev = .iface te pe))
theorem SyV.fr {S : Nat → Nat → Prop} {w w' : World} (h : SyV w) (hG : NG ≤ w.heap.size) (f : Fr S w w') (hs : ∀ x y, S x y → NG ≤ x) : SyV w' := by
  obtain ⟨⟨e1, h1, k1⟩, ⟨e2, h2, k2⟩⟩ := h
  exact ⟨⟨e1, (f.cell _ _ (Nat.lt_of_lt_of_le (by decide : 7 < NG) hG) (fun k => absurd (hs _ _ k) (by decide))).trans h1, k1⟩, ⟨e2, (f.cell _ _ (Nat.lt_of_lt_of_le (by decide : 8 < NG) hG) (fun k => absurd (hs _ _ k) (by decide))).trans h2, k2⟩⟩
theorem parseInt_ok {l : List UInt8} {v : Int} (hv : Lib.parseIntB 32 l = .ok v) (hl : l.length ≤ 1000) {w : World} :
    Calls Tryz.prog 80 #[.string (mk l), .int .i64 10, .int .i64 32] w fun e w2 => e = .returned (.tuple #[.int .i64 v, .nilIface]) ∧ Aside (Fr (fun _ _ => False) w w2) := by
  refine (Tryz.strconv_ParseInt_10_at32_ok (mk l) (by rw [mk_size]; omega) v (by rw [mk_toList]; exact hv) w).mono ?_
  rintro e w2 ⟨rfl, rfl | ⟨t, rfl⟩⟩
  · exact ⟨rfl, ⟨Fr.refl _ _⟩⟩
  · exact ⟨rfl, ⟨Fr.of_below (Lib.bytesWorld_below _ _ _)⟩⟩
theorem parseInt_bad {l : List UInt8} (hv : ∀ v, Lib.parseIntB 32 l = .ok v → False) (hl : l.length ≤ 1000) {w : World} (hw : SyV w) :
    Calls Tryz.prog 80 #[.string (mk l), .int .i64 10, .int .i64 32] w fun e w2 => ∃ x T p, e = .returned (.tuple #[.int .i64 x, .iface T (.pointer (some p))]) ∧ Aside (Fr (fun _ _ => False) w w2) := by
  obtain ⟨⟨e1, h1, k1⟩, ⟨e2, h2, k2⟩⟩ := hw
  rcases hq : Lib.parseIntB 32 l with v | _ | _
  · exact absurd hq (fun k => hv v k)
  · refine (Any.strconv_ParseInt_10_at32_syntax Tryz.laysC174 (mk l) (by rw [mk_size]; omega) (by rw [mk_toList]; exact hq) e1 w h1 k1).mono ?_
    rintro e w2 ⟨N, rfl, _, _, hb⟩
    exact ⟨_, _, _, rfl, ⟨Fr.of_below hb⟩⟩
  · refine (Any.strconv_ParseInt_10_at32_range Tryz.laysC174 (mk l) (by rw [mk_size]; omega) (by rw [mk_toList]; exact hq) e2 w h2 k2).mono ?_
    rintro e w2 ⟨N, rfl, _, _, hb⟩
    exact ⟨_, _, _, rfl, ⟨Fr.of_below hb⟩⟩
theorem parseUint_ok {l : List UInt8} {u : Nat} (hv : Lib.parseUintB 64 l = .ok u) (hl : l.length ≤ 1000) {w : World} :
    Calls Tryz.prog 78 #[.string (mk l), .int .i64 10, .int .i64 64] w fun e w2 => e = .returned (.tuple #[.int .u64 u, .nilIface]) ∧ Aside (Fr (fun _ _ => False) w w2) := by
  refine (Tryz.strconv_ParseUint_10_at64_ok (mk l) (by rw [mk_size]; omega) u (by rw [mk_toList]; exact hv) w).mono ?_
  rintro e w2 ⟨rfl, rfl | rfl⟩
  · exact ⟨rfl, ⟨Fr.refl _ _⟩⟩
  · exact ⟨rfl, ⟨Fr.of_below (Lib.bytesWorld_below _ _ _)⟩⟩
theorem parseUint_bad {l : List UInt8} (hv : ∀ v, Lib.parseUintB 64 l = .ok v → False) (hl : l.length ≤ 1000) {w : World} (hw : SyV w) :
    Calls Tryz.prog 78 #[.string (mk l), .int .i64 10, .int .i64 64] w fun e w2 => ∃ x T p, e = .returned (.tuple #[.int .u64 x, .iface T (.pointer (some p))]) ∧ Aside (Fr (fun _ _ => False) w w2) := by
  obtain ⟨⟨e1, h1, k1⟩, ⟨e2, h2, k2⟩⟩ := hw
  rcases hq : Lib.parseUintB 64 l with v | _ | _
  · exact absurd hq (fun k => hv v k)
  · refine (Any.strconv_ParseUint_10_at64_syntax Tryz.laysPu14 (mk l) (by rw [mk_size]; omega) (by rw [mk_toList]; exact hq) e1 w h1 k1).mono ?_
    rintro e w2 ⟨N, rfl, _, _, hb⟩
    exact ⟨_, _, _, rfl, ⟨Fr.of_below hb⟩⟩
  · refine (Any.strconv_ParseUint_10_at64_range Tryz.laysPu14 (mk l) (by rw [mk_size]; omega) (by rw [mk_toList]; exact hq) e2 w h2 k2).mono ?_
    rintro e w2 ⟨N, rfl, _, _, hb⟩
    exact ⟨_, _, _, rfl, ⟨Fr.of_below hb⟩⟩
end Go.Proofs.YtifkpcijheabhaaGreatDoor
