/- Words of base 2^64 in memory, and what a call may have written: definitions and their laws. No program is named here. -/
import Derived.WalkKit
import Derived.Lib.Hide
import Derived.Deep.Draws
set_option linter.unusedSimpArgs false
set_option linter.unusedVariables false
namespace Go.Proofs.YtgilnnipephfjaaGreatDoor
open Go.RowKit

/-- The base of the words. -/
def B : Nat := 18446744073709551616
theorem B_eq : B = 18446744073709551616 := rfl
theorem B_pos : 0 < B := by decide
theorem Bpow_pos (n : Nat) : 0 < B ^ n := Nat.pow_pos B_pos

/-- Word i of a number. -/
def wd (v i : Nat) : Nat := v / B ^ i % B
theorem wd_lt (v i : Nat) : wd v i < B := Nat.mod_lt _ B_pos
theorem wd_zero (i : Nat) : wd 0 i = 0 := by simp [wd]
theorem mod_succ (v k : Nat) : v % B ^ (k + 1) = v % B ^ k + B ^ k * wd v k := Nat.mod_pow_succ

theorem gsplit (b v z i m : Nat) : v + b ^ (i + 1 + m) * z = v + b ^ i * (b * (b ^ m * z)) := by
  rw [Nat.pow_add, Nat.pow_succ]; simp only [Nat.mul_assoc]
theorem wd_lo {k i : Nat} (v z : Nat) (h : i < k) : wd (v + B ^ k * z) i = wd v i := by
  unfold wd
  obtain ⟨m, rfl⟩ : ∃ m, k = i + 1 + m := ⟨k - (i + 1), by omega⟩
  rw [gsplit B v z i m, Nat.add_mul_div_left _ _ (Bpow_pos i), Nat.add_mul_mod_self_left]

theorem wd_hi {k : Nat} (v z : Nat) (hv : v < B ^ k) (hz : z < B) : wd (v + B ^ k * z) k = z := by
  unfold wd
  rw [Nat.add_mul_div_left _ _ (Bpow_pos k), Nat.div_eq_of_lt hv, Nat.zero_add, Nat.mod_eq_of_lt hz]

theorem wd_mod {k i : Nat} (v : Nat) (h : i < k) : wd (v % B ^ k) i = wd v i := by
  have : v = v % B ^ k + B ^ k * (v / B ^ k) := (Nat.mod_add_div v (B ^ k)).symm
  conv => rhs; rw [this]
  exact (wd_lo _ _ h).symm

theorem wd_ge {k i : Nat} (v : Nat) (hv : v < B ^ k) (h : k ≤ i) : wd v i = 0 := by
  unfold wd
  rw [Nat.div_eq_of_lt (Nat.lt_of_lt_of_le hv (Nat.pow_le_pow_right B_pos h)), Nat.zero_mod]

theorem gsnoc_lt (b k v z : Nat) (hv : v < b ^ k) (hz : z < b) : v + b ^ k * z < b ^ (k + 1) := by
  rw [Nat.pow_succ]
  have : b ^ k * (z + 1) ≤ b ^ k * b := Nat.mul_le_mul_left _ hz
  rw [Nat.mul_succ] at this
  omega
theorem snoc_lt {k : Nat} {v z : Nat} (hv : v < B ^ k) (hz : z < B) : v + B ^ k * z < B ^ (k + 1) := gsnoc_lt B k v z hv hz

theorem wd_div (v j i : Nat) : wd (v / B ^ j) i = wd v (j + i) := by
  unfold wd; rw [Nat.div_div_eq_div_mul, Nat.pow_add]

/-- A fact kept from the walk. -/
structure Aside (p : Prop) : Prop where
  out : p

/-- n words from (b, o) on are those of v. -/
structure Words (w : World) (b o n v : Nat) : Prop where
  lt : v < B ^ n
  cell : ∀ i, i < n → w.cell? ⟨b, o + i, none⟩ = some (.int .u64 (wd v i : Nat))
/-- What kind of cells a block has: their type, and what of them may not be written. -/
def kind? (w : World) (b : Nat) : Option (TypeId × (Nat × Nat)) := match w.heap[b]? with
  | some (.cells _ t f) => some (t, f)
  | _ => none
theorem kind_block {w w' : World} {b : Nat} (h : w'.heap[b]? = w.heap[b]?) : kind? w' b = kind? w b := by simp [kind?, h]
theorem kind_setCell (w : World) (a : Addr) (v : Value) (b : Nat) : kind? (w.setCell a v) b = kind? w b := by
  unfold kind? World.setCell
  simp only [Array.getElem?_modify]
  by_cases h : a.block = b
  · simp only [h, if_true]
    cases hh : w.heap[b]? with
    | none => simp
    | some x => cases x <;> simp
  · simp [h]
theorem kind_alloc (w : World) (o : Obj) (b : Nat) (h : b < w.heap.size) : kind? (w.alloc o) b = kind? w b := kind_block (Below.heap_alloc w o b h)
theorem kind_alloc_new (w : World) (c : Array Value) (t : TypeId) (f : Nat × Nat) : kind? (w.alloc (.cells c t f)) w.heap.size = some (t, f) := by
  have : (w.alloc (.cells c t f)).heap[w.heap.size]? = some (.cells c t f) := by
    show (w.heap.push (.cells c t f))[w.heap.size]? = _
    simp
  simp only [kind?, this]
theorem frozen_kind {w w' : World} {b : Nat} (h : kind? w' b = kind? w b) (o : Nat) : w'.frozen? ⟨b, o, none⟩ = w.frozen? ⟨b, o, none⟩ := by
  unfold kind? at h
  unfold World.frozen?
  dsimp only
  cases h1 : w'.heap[b]? with
  | none => cases h2 : w.heap[b]? with
    | none => rfl
    | some x => cases x <;> simp_all
  | some y => cases h2 : w.heap[b]? with
    | none => cases y <;> simp_all
    | some x => cases x <;> cases y <;> simp_all
theorem free_of_kind {w : World} {b t : Nat} (h : kind? w b = some (t, (0, 0))) (o : Nat) : w.frozen? ⟨b, o, none⟩ = false := by
  unfold kind? at h
  unfold World.frozen?
  dsimp only
  cases h2 : w.heap[b]? with
  | none => rfl
  | some x => cases x <;> simp_all
theorem block_of_kind {w : World} {b t : Nat} {f : Nat × Nat} (h : kind? w b = some (t, f)) : ∃ c, w.heap[b]? = some (.cells c t f) := by
  unfold kind? at h
  cases h2 : w.heap[b]? with
  | none => simp [h2] at h
  | some x => cases x <;> simp_all
/-- How many blocks are package-level variables: all others lie behind them. -/
def NG : Nat := 19
/-- A block of cells that is no package-level variable, and may be written. -/
def Blk (w : World) (b : Nat) : Prop := NG ≤ b ∧ ∃ t, kind? w b = some (t, (0, 0))
theorem Blk.of_kind {w w' : World} {b : Nat} (h : Blk w b) (hk : kind? w' b = kind? w b) : Blk w' b := ⟨h.1, let ⟨t, q⟩ := h.2; ⟨t, hk.trans q⟩⟩
theorem Blk.free {w : World} {b : Nat} (h : Blk w b) (o : Nat) : w.frozen? ⟨b, o, none⟩ = false := let ⟨_, q⟩ := h.2; free_of_kind q _
theorem kind_lt {w : World} {b : Nat} {k : TypeId × (Nat × Nat)} (h : kind? w b = some k) : b < w.heap.size := by
  rcases Nat.lt_or_ge b w.heap.size with q | q
  · exact q
  · simp [kind?, Array.getElem?_eq_none q] at h
theorem Blk.lt {w : World} {b : Nat} (h : Blk w b) : b < w.heap.size := let ⟨_, q⟩ := h.2; kind_lt q
/-- n words from (b, o) on may be written, whatever they hold. -/
structure Own (w : World) (b o n : Nat) : Prop where
  cell : ∀ i, i < n → ∃ x : Nat, x < B ∧ w.cell? ⟨b, o + i, none⟩ = some (.int .u64 (x : Nat))
  kind : Blk w b
theorem Own.free {w : World} {b o n : Nat} (h : Own w b o n) (i : Nat) (_ : i < n) : w.frozen? ⟨b, o + i, none⟩ = false := h.kind.free _
theorem Own.le {w : World} {b o n m : Nat} (h : Own w b o n) (hm : m ≤ n) : Own w b o m := ⟨fun i hi => h.cell i (by omega), h.kind⟩

/-- What may have turned between two worlds: the cells that S names, and what is new. -/
structure Fr (S : Nat → Nat → Prop) (w w' : World) : Prop where
  os : w'.os = w.os
  tape : w'.tape = w.tape
  output : w'.output = w.output
  size : w.heap.size ≤ w'.heap.size
  cell : ∀ b o, b < w.heap.size → ¬ S b o → w'.cell? ⟨b, o, none⟩ = w.cell? ⟨b, o, none⟩
  kind : ∀ b, b < w.heap.size → kind? w' b = kind? w b
  block : ∀ b, b < w.heap.size → (∀ o, ¬ S b o) → w'.heap[b]? = w.heap[b]?

theorem Fr.frozen {S : Nat → Nat → Prop} {w w' : World} (h : Fr S w w') (b o : Nat) (hb : b < w.heap.size) : w'.frozen? ⟨b, o, none⟩ = w.frozen? ⟨b, o, none⟩ := frozen_kind (h.kind b hb) o
theorem Fr.refl (S : Nat → Nat → Prop) (w : World) : Fr S w w := ⟨rfl, rfl, rfl, Nat.le_refl _, fun _ _ _ _ => rfl, fun _ _ => rfl, fun _ _ _ => rfl⟩
theorem Fr.trans {S : Nat → Nat → Prop} {a b c : World} (h : Fr S a b) (k : Fr S b c) : Fr S a c :=
  ⟨k.os.trans h.os, k.tape.trans h.tape, k.output.trans h.output, Nat.le_trans h.size k.size,
   fun x o hx hs => (k.cell x o (Nat.lt_of_lt_of_le hx h.size) hs).trans (h.cell x o hx hs),
   fun x hx => (k.kind x (Nat.lt_of_lt_of_le hx h.size)).trans (h.kind x hx),
   fun x hx hs => (k.block x (Nat.lt_of_lt_of_le hx h.size) hs).trans (h.block x hx hs)⟩
/-- What is new besides need not be named. -/
theorem Fr.mono {S T : Nat → Nat → Prop} {w w' : World} (h : Fr S w w') (hs : ∀ b o, b < w.heap.size → S b o → T b o) : Fr T w w' :=
  ⟨h.os, h.tape, h.output, h.size, fun b o hb ht => h.cell b o hb (fun k => ht (hs b o hb k)), h.kind,
   fun b hb ht => h.block b hb (fun o k => ht o (hs b o hb k))⟩
theorem Fr.trans' {S T U : Nat → Nat → Prop} {a b c : World} (h : Fr S a b) (k : Fr T b c) (hs : ∀ b o, b < a.heap.size → S b o → U b o) (ht : ∀ b o, b < a.heap.size → T b o → U b o) : Fr U a c := by
  have h1 := h.mono hs
  refine ⟨k.os.trans h.os, k.tape.trans h.tape, k.output.trans h.output, Nat.le_trans h.size k.size, ?_, ?_, ?_⟩
  · exact fun x o hx hu => (k.cell x o (Nat.lt_of_lt_of_le hx h.size) (fun q => hu (ht x o hx q))).trans (h1.cell x o hx hu)
  · exact fun x hx => (k.kind x (Nat.lt_of_lt_of_le hx h.size)).trans (h.kind x hx)
  · exact fun x hx hu => (k.block x (Nat.lt_of_lt_of_le hx h.size) (fun o q => hu o (ht x o hx q))).trans (h1.block x hx hu)
theorem Fr.drew {S : Nat → Nat → Prop} {a w : World} (h : Fr S a w) : Fr S a w.drew := ⟨h.os, h.tape, h.output, h.size, h.cell, h.kind, h.block⟩
theorem Fr.drewN {S : Nat → Nat → Prop} {a w : World} (h : Fr S a w) (n : Nat) : Fr S a (w.drewN n) := ⟨h.os, h.tape, h.output, h.size, h.cell, h.kind, h.block⟩
theorem Fr.alloc {S : Nat → Nat → Prop} {a w : World} (h : Fr S a w) (o : Obj) : Fr S a (w.alloc o) :=
  h.trans ⟨rfl, rfl, rfl, by simp, fun b i hb _ => World.cell?_alloc_lt w o _ hb, fun b hb => kind_alloc w o b hb, fun b hb _ => Below.heap_alloc w o b hb⟩
theorem Fr.setCell {S : Nat → Nat → Prop} {a w : World} (h : Fr S a w) (b o : Nat) (v : Value) (hs : b < a.heap.size → S b o) : Fr S a (w.setCell ⟨b, o, none⟩ v) := by
  refine ⟨h.os, h.tape, h.output, by simpa using h.size, ?_, ?_, ?_⟩
  · intro x i hx hn
    rw [World.cell?_setCell_other _ _ _ _ (by intro e; cases e; exact hn (hs hx))]
    exact h.cell x i hx hn
  · intro x hx; rw [kind_setCell]; exact h.kind x hx
  · intro x hx hn
    rw [Below.heap_setCell _ _ _ _ (by intro e; simp at e; subst e; exact hn o (hs hx))]
    exact h.block x hx hn
theorem Fr.below {S : Nat → Nat → Prop} {w w' : World} {N : Nat} (h : Fr S w w') (hN : N ≤ w.heap.size) (hs : ∀ b o, b < N → ¬ S b o) : Below N w w' :=
  ⟨h.os, h.tape, h.output, h.size, fun k hk => h.block k (by omega) (fun o => hs k o hk)⟩
theorem Fr.words {S : Nat → Nat → Prop} {w w' : World} {b o n v : Nat} (h : Fr S w w') (hw : Words w b o n v) (hs : ∀ i, i < n → ¬ S b (o + i)) : Words w' b o n v :=
  ⟨hw.lt, fun i hi => (h.cell b (o + i) (World.block_lt_of_cell? w _ (hw.cell i hi)) (hs i hi)).trans (hw.cell i hi)⟩
theorem Fr.own {S : Nat → Nat → Prop} {w w' : World} {b o n : Nat} (h : Fr S w w') (hw : Own w b o n) (hs : ∀ i, i < n → ¬ S b (o + i)) : Own w' b o n :=
  ⟨fun i hi => by
    obtain ⟨x, hx, hc⟩ := hw.cell i hi
    exact ⟨x, hx, (h.cell b (o + i) (World.block_lt_of_cell? w _ hc) (hs i hi)).trans hc⟩,
   hw.kind.of_kind (h.kind b hw.kind.lt)⟩

/-- The world with n words of v written from (b, o) on. -/
def putW (w : World) (b o : Nat) : Nat → Nat → World
  | 0, _ => w
  | n + 1, v => (putW w b o n v).setCell ⟨b, o + n, none⟩ (.int .u64 (wd v n : Nat))
theorem putW_congr (w : World) (b o n v u : Nat) (h : ∀ i, i < n → wd v i = wd u i) : putW w b o n v = putW w b o n u := by
  induction n with
  | zero => rfl
  | succ n ih => simp only [putW]; rw [ih (fun i hi => h i (by omega)), h n (by omega)]
theorem putW_mod (w : World) (b o n v : Nat) : putW w b o n (v % B ^ n) = putW w b o n v := putW_congr w b o n _ _ fun _ hi => wd_mod v hi
theorem putW_snoc (w : World) (b o k v z : Nat) (hv : v < B ^ k) (hz : z < B) : (putW w b o k v).setCell ⟨b, o + k, none⟩ (.int .u64 (z : Nat)) = putW w b o (k + 1) (v + B ^ k * z) := by
  simp only [putW]
  rw [wd_hi v z hv hz, putW_congr w b o k v (v + B ^ k * z) (fun i hi => (wd_lo v z hi).symm)]
theorem size_putW (w : World) (b o n v : Nat) : (putW w b o n v).heap.size = w.heap.size := by
  induction n with
  | zero => rfl
  | succ n ih => simp only [putW, World.size_setCell]; exact ih
theorem frozen_putW (w : World) (b o n v : Nat) (a : Addr) : (putW w b o n v).frozen? a = w.frozen? a := by
  induction n with
  | zero => rfl
  | succ n ih => simp only [putW, World.frozen?_setCell]; exact ih
theorem cell_putW_out (w : World) (b o n v : Nat) (b' o' : Nat) (h : b' ≠ b ∨ o' < o ∨ o + n ≤ o') : (putW w b o n v).cell? ⟨b', o', none⟩ = w.cell? ⟨b', o', none⟩ := by
  induction n with
  | zero => rfl
  | succ n ih =>
    simp only [putW]
    rw [World.cell?_setCell_other _ _ _ _ (by simp only [ne_eq, Addr.mk.injEq, and_true]; omega)]
    exact ih (by omega)
theorem cell_putW_some (w : World) (b o n v : Nat) (a : Addr) (h : ∃ u, w.cell? a = some u) : ∃ u, (putW w b o n v).cell? a = some u := by
  induction n with
  | zero => exact h
  | succ n ih =>
    simp only [putW]
    by_cases e : (⟨b, o + n, none⟩ : Addr) = a
    · obtain ⟨u, hu⟩ := ih
      subst e
      exact ⟨_, World.cell?_setCell_same _ _ _ hu⟩
    · rw [World.cell?_setCell_other _ _ _ _ e]; exact ih
theorem cell_putW_in (w : World) (b o n v i : Nat) (hi : i < n) (h : ∃ u, w.cell? ⟨b, o + i, none⟩ = some u) : (putW w b o n v).cell? ⟨b, o + i, none⟩ = some (.int .u64 (wd v i : Nat)) := by
  induction n with
  | zero => omega
  | succ n ih =>
    simp only [putW]
    by_cases e : i = n
    · subst e
      obtain ⟨u, hu⟩ := cell_putW_some w b o i v _ h
      exact World.cell?_setCell_same _ _ _ hu
    · rw [World.cell?_setCell_other _ _ _ _ (by simp only [ne_eq, Addr.mk.injEq, and_true]; omega)]
      exact ih (by omega)
theorem Fr_putW (w : World) (b o n v : Nat) : Fr (fun b' o' => b' = b ∧ o ≤ o' ∧ o' < o + n) w (putW w b o n v) := by
  induction n with
  | zero => exact Fr.refl _ _
  | succ n ih =>
    simp only [putW]
    exact Fr.setCell (ih.mono (by intro x y _ h; omega)) b (o + n) _ (fun _ => ⟨rfl, by omega, by omega⟩)
theorem Words_putW (w : World) (b o n v : Nat) (hv : v < B ^ n) (h : Own w b o n) : Words (putW w b o n v) b o n v :=
  ⟨hv, fun i hi => cell_putW_in w b o n v i hi (let ⟨_, _, q⟩ := h.cell i hi; ⟨_, q⟩)⟩
theorem Own.sub {w : World} {b o n : Nat} (h : Own w b o n) (k m : Nat) (hk : k + m ≤ n) : Own w b (o + k) m :=
  ⟨fun i hi => by have := h.cell (k + i) (by omega); rwa [← Nat.add_assoc] at this, h.kind⟩
theorem kind_putW (w : World) (b o n v b' : Nat) : kind? (putW w b o n v) b' = kind? w b' := by
  induction n with
  | zero => rfl
  | succ n ih => simp only [putW, kind_setCell]; exact ih
theorem Own.put {w : World} {b o n : Nat} (h : Own w b o n) (b' o' m v : Nat) : Own (putW w b' o' m v) b o n := by
  induction m with
  | zero => exact h
  | succ m ih =>
    simp only [putW]
    refine ⟨fun i hi => ?_, ih.kind.of_kind (kind_setCell _ _ _ _)⟩
    by_cases e : (⟨b', o' + m, none⟩ : Addr) = ⟨b, o + i, none⟩
    · obtain ⟨x, _, hx⟩ := ih.cell i hi
      rw [e]
      exact ⟨_, wd_lt v m, World.cell?_setCell_same _ _ _ hx⟩
    · rw [World.cell?_setCell_other _ _ _ _ e]; exact ih.cell i hi
theorem Words.own {w : World} {b o n v : Nat} (h : Words w b o n v) (hf : Blk w b) : Own w b o n :=
  ⟨fun i hi => ⟨_, wd_lt v i, h.cell i hi⟩, hf⟩
theorem Fr.blk {S : Nat → Nat → Prop} {w w' : World} {b : Nat} (h : Fr S w w') (hk : Blk w b) : Blk w' b := hk.of_kind (h.kind b hk.lt)
theorem Words.sub {w : World} {b o n v : Nat} (h : Words w b o n v) (k m : Nat) (hk : k + m ≤ n) : Words w b (o + k) m (v / B ^ k % B ^ m) :=
  ⟨Nat.mod_lt _ (Bpow_pos m), fun i hi => by rw [wd_mod _ hi, wd_div, Nat.add_assoc]; exact h.cell (k + i) (by omega)⟩
/-- Whatever words lie there, they are those of some number. -/
theorem Own.words {w : World} {b o n : Nat} (h : Own w b o n) : ∃ v, Words w b o n v := by
  induction n with
  | zero => exact ⟨0, by simp, fun i hi => by omega⟩
  | succ n ih =>
    obtain ⟨v, hv⟩ := ih (h.le (by omega))
    obtain ⟨x, hx, hc⟩ := h.cell n (by omega)
    refine ⟨v + B ^ n * x, snoc_lt hv.lt hx, fun i hi => ?_⟩
    by_cases e : i = n
    · subst e; rw [wd_hi v x hv.lt hx]; exact hc
    · rw [wd_lo v x (by omega)]; exact hv.cell i (by omega)

theorem set_drewN (w : World) (d q : Nat) (a : Addr) (v : Value) : ((w.drewN d).drewN q).setCell a v = (w.setCell a v).drewN (d + q) := by
  simp [World.drewN, World.setCell, Nat.add_assoc]
/-- One word more, behind draws. -/
theorem put_step {w wr : World} {b o k v z d : Nat} (q : Nat) (hw : Aside (wr = (putW w b o k v).drewN d)) (hv : v < B ^ k) (hz : z < B) :
    Aside ((wr.drewN q).setCell ⟨b, o + k, none⟩ (.int .u64 (z : Nat)) = (putW w b o (k + 1) (v + B ^ k * z)).drewN (d + q)) :=
  ⟨by rw [hw.out, set_drewN, putW_snoc _ _ _ _ _ _ hv hz]⟩
theorem put_step0 {w wr : World} {b o k v z d : Nat} (hw : Aside (wr = (putW w b o k v).drewN d)) (hv : v < B ^ k) (hz : z < B) :
    Aside (wr.setCell ⟨b, o + k, none⟩ (.int .u64 (z : Nat)) = (putW w b o (k + 1) (v + B ^ k * z)).drewN d) := put_step 0 hw hv hz
theorem put_some {w wr : World} {b o k v d n : Nat} (i : Nat) (hw : Aside (wr = (putW w b o k v).drewN d)) (h : Own w b o n) (hi : i < n) :
    (∃ x : Nat, wr.cell? ⟨b, o + i, none⟩ = some (.int .u64 (x : Nat))) ∧ wr.frozen? ⟨b, o + i, none⟩ = false := by
  rw [hw.out]
  obtain ⟨x, _, hx⟩ := (h.put b o k v).cell i hi
  exact ⟨⟨x, hx⟩, (h.put b o k v).free i hi⟩
theorem put_read {w wr : World} {b o k v d b' o' n x : Nat} (i : Nat) (hw : Aside (wr = (putW w b o k v).drewN d)) (h : Words w b' o' n x) (hi : i < n) (ho : b' ≠ b ∨ o' + i < o ∨ o + k ≤ o' + i) :
    wr.cell? ⟨b', o' + i, none⟩ = some (.int .u64 (wd x i : Nat)) := by
  rw [hw.out]
  exact (cell_putW_out _ _ _ _ _ _ _ ho).trans (h.cell i hi)
theorem Fr.put {S : Nat → Nat → Prop} {a w : World} (h : Fr S a w) (b o n v : Nat) (hs : ∀ i, i < n → b < a.heap.size → S b (o + i)) : Fr S a (putW w b o n v) := by
  induction n with
  | zero => exact h
  | succ n ih => exact (ih fun i hi => hs i (by omega)).setCell b (o + n) _ (hs n (by omega))

theorem Own.set {w : World} {b o n : Nat} (h : Own w b o n) (b' o' : Nat) {x : Nat} (hx : x < B) : Own (w.setCell ⟨b', o', none⟩ (.int .u64 (x : Nat))) b o n := by
  refine ⟨fun i hi => ?_, h.kind.of_kind (kind_setCell _ _ _ _)⟩
  obtain ⟨y, hy, hc⟩ := h.cell i hi
  by_cases e : (⟨b', o', none⟩ : Addr) = ⟨b, o + i, none⟩
  · rw [e]; exact ⟨x, hx, World.cell?_setCell_same _ _ _ hc⟩
  · exact ⟨y, hy, (World.cell?_setCell_other _ _ _ _ e).trans hc⟩
/-- Two words, the higher one first. -/
theorem Words.two {w : World} {b o : Nat} (h : Own w b o 2) {lo hi : Nat} (hl : lo < B) (hh : hi < B) :
    Words ((w.setCell ⟨b, o + 1, none⟩ (.int .u64 (hi : Nat))).setCell ⟨b, o, none⟩ (.int .u64 (lo : Nat))) b o 2 (lo + B * hi) := by
  have e0 : wd (lo + B * hi) 0 = lo := by have := wd_lo (k := 1) (i := 0) lo hi (by omega); rw [Nat.pow_one] at this; rw [this]; simp [wd, Nat.mod_eq_of_lt hl]
  have e1 : wd (lo + B * hi) 1 = hi := by have := wd_hi (k := 1) lo hi (by simpa using hl) hh; rwa [Nat.pow_one] at this
  refine ⟨?_, fun i hi2 => ?_⟩
  · have := snoc_lt (k := 1) (v := lo) (by simpa using hl) hh
    rwa [Nat.pow_one] at this
  · obtain ⟨u0, _, h0⟩ := h.cell 0 (by omega)
    obtain ⟨u1, _, h1⟩ := h.cell 1 (by omega)
    rw [Nat.add_zero] at h0
    match i, hi2 with
    | 0, _ =>
      rw [e0, Nat.add_zero]
      exact World.cell?_setCell_same _ _ _ ((World.cell?_setCell_other _ _ _ _ (by simp)).trans h0)
    | 1, _ =>
      rw [e1, World.cell?_setCell_other _ _ _ _ (by simp)]
      exact World.cell?_setCell_same _ _ _ h1
end Go.Proofs.YtgilnnipephfjaaGreatDoor
