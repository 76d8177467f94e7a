/- spec.Parse: the state between its steps. Region 19 of spec.Parse: the two stores behind a text that says NaN. -/
import Derived.Test.YtifkpcijheabhaaGreatDoorP45SpecP1
import Derived.Test.YtifkpcijheabhaaGreatDoorQ46Par6
import Derived.Deep.RegionHeld3
set_option linter.unusedSimpArgs false
set_option linter.unusedVariables false
namespace Go.Proofs.YtifkpcijheabhaaGreatDoor
open Go.RowKit

/-- The block of what is read, beside the block of the result. -/
structure PO (w wr : World) (p : Nat) (f : Int) (ng : Bool) (e : Int) (s : ByteArray) (ok sd : Bool) : Prop where
  c0 : Cl wr p 0 (.int .i64 f)
  c1 : Cl wr p 1 (.bool ng)
  c2 : Cl wr p 2 (.int .i32 e)
  c3 : Cl wr p 3 (.string s)
  c4 : Cl wr p 4 (.bool ok)
  c5 : Cl wr p 5 (.bool sd)
  kr : kind? wr w.heap.size = some (25, (0, 0))
  rc : ∀ o, o < 6 → ∃ u, wr.cell? ⟨w.heap.size, o, none⟩ = some u
  fr : Fr (fun _ _ => False) w wr
  hp : p = w.heap.size + 1
  lt : w.heap.size + 1 < wr.heap.size
theorem PO.new {w wr w2 : World} {p : Nat} {f e : Int} {ng ok sd : Bool} {s : ByteArray} (h : PO w wr p f ng e s ok sd) (k : Fr (fun _ _ => False) wr w2) : PO w w2 p f ng e s ok sd :=
  ⟨h.c0.fr k (fun q => q), h.c1.fr k (fun q => q), h.c2.fr k (fun q => q), h.c3.fr k (fun q => q), h.c4.fr k (fun q => q), h.c5.fr k (fun q => q), (k.kind _ (by have := h.lt; omega)).trans h.kr,
   fun o ho => by obtain ⟨u, hu⟩ := h.rc o ho; exact ⟨u, (k.cell _ o (by have := h.lt; omega) (fun q => q)).trans hu⟩, h.fr.trans k, h.hp, Nat.lt_of_lt_of_le h.lt k.size⟩
/-- One cell written. -/
theorem PO.keep {w wr : World} {p : Nat} {f e : Int} {ng ok sd : Bool} {s : ByteArray} (h : PO w wr p f ng e s ok sd) (i : Nat) (v : Value) :
    kind? (wr.setCell ⟨p, i, none⟩ v) w.heap.size = some (25, (0, 0)) ∧ (∀ o, o < 6 → ∃ u, (wr.setCell ⟨p, i, none⟩ v).cell? ⟨w.heap.size, o, none⟩ = some u) ∧ Fr (fun _ _ => False) w (wr.setCell ⟨p, i, none⟩ v) ∧ w.heap.size + 1 < (wr.setCell ⟨p, i, none⟩ v).heap.size := by
  have hp := h.hp
  refine ⟨(kind_setCell _ _ _ _).trans h.kr, fun o ho => ?_, h.fr.setCell p i v (fun q => by omega), by rw [World.size_setCell]; exact h.lt⟩
  obtain ⟨u, hu⟩ := h.rc o ho
  exact ⟨u, (World.cell?_setCell_other _ _ _ _ (by simp only [ne_eq, Addr.mk.injEq, and_true]; omega)).trans hu⟩
theorem PO.set0 {w wr : World} {p : Nat} {f e : Int} {ng ok sd : Bool} {s : ByteArray} (h : PO w wr p f ng e s ok sd) (v : Int) : PO w (wr.setCell ⟨p, 0, none⟩ (.int .i64 v)) p v ng e s ok sd :=
  let ⟨k1, k2, k3, k4⟩ := h.keep 0 (.int .i64 v)
  ⟨h.c0.set _, h.c1.other p 0 _ (by omega), h.c2.other p 0 _ (by omega), h.c3.other p 0 _ (by omega), h.c4.other p 0 _ (by omega), h.c5.other p 0 _ (by omega), k1, k2, k3, h.hp, k4⟩
theorem PO.set1 {w wr : World} {p : Nat} {f e : Int} {ng ok sd : Bool} {s : ByteArray} (h : PO w wr p f ng e s ok sd) (v : Bool) : PO w (wr.setCell ⟨p, 1, none⟩ (.bool v)) p f v e s ok sd :=
  let ⟨k1, k2, k3, k4⟩ := h.keep 1 (.bool v)
  ⟨h.c0.other p 1 _ (by omega), h.c1.set _, h.c2.other p 1 _ (by omega), h.c3.other p 1 _ (by omega), h.c4.other p 1 _ (by omega), h.c5.other p 1 _ (by omega), k1, k2, k3, h.hp, k4⟩
theorem PO.set2 {w wr : World} {p : Nat} {f e : Int} {ng ok sd : Bool} {s : ByteArray} (h : PO w wr p f ng e s ok sd) (v : Int) : PO w (wr.setCell ⟨p, 2, none⟩ (.int .i32 v)) p f ng v s ok sd :=
  let ⟨k1, k2, k3, k4⟩ := h.keep 2 (.int .i32 v)
  ⟨h.c0.other p 2 _ (by omega), h.c1.other p 2 _ (by omega), h.c2.set _, h.c3.other p 2 _ (by omega), h.c4.other p 2 _ (by omega), h.c5.other p 2 _ (by omega), k1, k2, k3, h.hp, k4⟩
theorem PO.set3 {w wr : World} {p : Nat} {f e : Int} {ng ok sd : Bool} {s : ByteArray} (h : PO w wr p f ng e s ok sd) (v : ByteArray) : PO w (wr.setCell ⟨p, 3, none⟩ (.string v)) p f ng e v ok sd :=
  let ⟨k1, k2, k3, k4⟩ := h.keep 3 (.string v)
  ⟨h.c0.other p 3 _ (by omega), h.c1.other p 3 _ (by omega), h.c2.other p 3 _ (by omega), h.c3.set _, h.c4.other p 3 _ (by omega), h.c5.other p 3 _ (by omega), k1, k2, k3, h.hp, k4⟩
theorem PO.set4 {w wr : World} {p : Nat} {f e : Int} {ng ok sd : Bool} {s : ByteArray} (h : PO w wr p f ng e s ok sd) (v : Bool) : PO w (wr.setCell ⟨p, 4, none⟩ (.bool v)) p f ng e s v sd :=
  let ⟨k1, k2, k3, k4⟩ := h.keep 4 (.bool v)
  ⟨h.c0.other p 4 _ (by omega), h.c1.other p 4 _ (by omega), h.c2.other p 4 _ (by omega), h.c3.other p 4 _ (by omega), h.c4.set _, h.c5.other p 4 _ (by omega), k1, k2, k3, h.hp, k4⟩
theorem PO.set5 {w wr : World} {p : Nat} {f e : Int} {ng ok sd : Bool} {s : ByteArray} (h : PO w wr p f ng e s ok sd) (v : Bool) : PO w (wr.setCell ⟨p, 5, none⟩ (.bool v)) p f ng e s ok v :=
  let ⟨k1, k2, k3, k4⟩ := h.keep 5 (.bool v)
  ⟨h.c0.other p 5 _ (by omega), h.c1.other p 5 _ (by omega), h.c2.other p 5 _ (by omega), h.c3.other p 5 _ (by omega), h.c4.other p 5 _ (by omega), h.c5.set _, k1, k2, k3, h.hp, k4⟩
/-- The cells, for the walk. -/
def E6 (wr : World) (p : Nat) (f : Int) (ng : Bool) (e : Int) (s : ByteArray) (ok sd : Bool) : Prop := wr.cell? ⟨p, 0, none⟩ = some (.int .i64 f) ∧ wr.cell? ⟨p, 1, none⟩ = some (.bool ng) ∧ wr.cell? ⟨p, 2, none⟩ = some (.int .i32 e) ∧ wr.cell? ⟨p, 3, none⟩ = some (.string s) ∧ wr.cell? ⟨p, 4, none⟩ = some (.bool ok) ∧ wr.cell? ⟨p, 5, none⟩ = some (.bool sd) ∧
  wr.frozen? ⟨p, 0, none⟩ = false ∧ wr.frozen? ⟨p, 1, none⟩ = false ∧ wr.frozen? ⟨p, 2, none⟩ = false ∧ wr.frozen? ⟨p, 3, none⟩ = false ∧ wr.frozen? ⟨p, 4, none⟩ = false ∧ wr.frozen? ⟨p, 5, none⟩ = false
theorem PO.e6 {w wr : World} {p : Nat} {f e : Int} {ng ok sd : Bool} {s : ByteArray} (h : PO w wr p f ng e s ok sd) : E6 wr p f ng e s ok sd :=
  ⟨h.c0.cell, h.c1.cell, h.c2.cell, h.c3.cell, h.c4.cell, h.c5.cell, h.c0.free, h.c1.free, h.c2.free, h.c3.free, h.c4.free, h.c5.free⟩
/-- The result's cells, for the walk. -/
def R6 (wr : World) (r : Nat) : Prop := ∃ u0 u1 u2 u3 u4 u5 : Value, wr.cell? ⟨r, 0, none⟩ = some u0 ∧ wr.cell? ⟨r, 1, none⟩ = some u1 ∧ wr.cell? ⟨r, 2, none⟩ = some u2 ∧ wr.cell? ⟨r, 3, none⟩ = some u3 ∧ wr.cell? ⟨r, 4, none⟩ = some u4 ∧ wr.cell? ⟨r, 5, none⟩ = some u5 ∧
  wr.frozen? ⟨r, 0, none⟩ = false ∧ wr.frozen? ⟨r, 1, none⟩ = false ∧ wr.frozen? ⟨r, 2, none⟩ = false ∧ wr.frozen? ⟨r, 3, none⟩ = false ∧ wr.frozen? ⟨r, 4, none⟩ = false ∧ wr.frozen? ⟨r, 5, none⟩ = false
theorem PO.r6 {w wr : World} {p : Nat} {f e : Int} {ng ok sd : Bool} {s : ByteArray} (h : PO w wr p f ng e s ok sd) : R6 wr w.heap.size := by
  obtain ⟨u0, r0⟩ := h.rc 0 (by omega)
  obtain ⟨u1, r1⟩ := h.rc 1 (by omega)
  obtain ⟨u2, r2⟩ := h.rc 2 (by omega)
  obtain ⟨u3, r3⟩ := h.rc 3 (by omega)
  obtain ⟨u4, r4⟩ := h.rc 4 (by omega)
  obtain ⟨u5, r5⟩ := h.rc 5 (by omega)
  have rf := fun o => free_of_kind h.kr o
  exact ⟨u0, u1, u2, u3, u4, u5, r0, r1, r2, r3, r4, r5, rf 0, rf 1, rf 2, rf 3, rf 4, rf 5⟩
theorem PO.start (w : World) : PO w ((w.alloc (.cells #[.int .i64 0, .bool false, .int .i32 0, .string ⟨#[]⟩, .bool false, .bool false] 25)).alloc (.cells #[.int .i64 0, .bool false, .int .i32 0, .string ⟨#[48]⟩, .bool false, .bool true] 25)) (w.heap.size + 1) 0 false 0 ⟨#[48]⟩ false true := by
  have hk := kind_alloc_new (w.alloc (.cells #[.int .i64 0, .bool false, .int .i32 0, .string ⟨#[]⟩, .bool false, .bool false] 25)) #[.int .i64 0, .bool false, .int .i32 0, .string ⟨#[48]⟩, .bool false, .bool true] 25 (0, 0)
  rw [World.size_alloc] at hk
  have hc : ∀ o, ((w.alloc (.cells #[.int .i64 0, .bool false, .int .i32 0, .string ⟨#[]⟩, .bool false, .bool false] 25)).alloc (.cells #[.int .i64 0, .bool false, .int .i32 0, .string ⟨#[48]⟩, .bool false, .bool true] 25)).cell? ⟨w.heap.size + 1, o, none⟩ = (#[.int .i64 0, .bool false, .int .i32 0, .string ⟨#[48]⟩, .bool false, .bool true] : Array Value)[o]? := fun o => by
    have := World.cell?_alloc_new (w.alloc (.cells #[.int .i64 0, .bool false, .int .i32 0, .string ⟨#[]⟩, .bool false, .bool false] 25)) #[.int .i64 0, .bool false, .int .i32 0, .string ⟨#[48]⟩, .bool false, .bool true] 25 o
    rw [World.size_alloc] at this
    exact this
  have fr := fun o => free_of_kind hk o
  refine ⟨⟨hc 0, fr 0⟩, ⟨hc 1, fr 1⟩, ⟨hc 2, fr 2⟩, ⟨hc 3, fr 3⟩, ⟨hc 4, fr 4⟩, ⟨hc 5, fr 5⟩, ?_, fun o ho => ?_, ((Fr.refl _ w).alloc _).alloc _, rfl, by simp⟩
  · exact (kind_alloc _ _ _ (by simp)).trans (kind_alloc_new w _ _ _)
  · rw [World.cell?_alloc_lt _ _ _ (by simp), World.cell?_alloc_new]
    match o, ho with
    | 0, _ => exact ⟨_, rfl⟩
    | 1, _ => exact ⟨_, rfl⟩
    | 2, _ => exact ⟨_, rfl⟩
    | 3, _ => exact ⟨_, rfl⟩
    | 4, _ => exact ⟨_, rfl⟩
    | 5, _ => exact ⟨_, rfl⟩
/-- A sign ahead of a lowered text. -/
theorem lower_sign (x : UInt8) : ((Lib.lowerB x).toNat = 45 ↔ x.toNat = 45) ∧ ((Lib.lowerB x).toNat = 43 ↔ x.toNat = 43) := by
  by_cases h : 65 ≤ x.toNat ∧ x.toNat ≤ 90
  · rw [lower_up h]; omega
  · rw [lower_no h]; exact ⟨Iff.rfl, Iff.rfl⟩
theorem sgnR_lower (l : List UInt8) : sgnR (Lib.toLowerA l) = ((sgnR l).1, Lib.toLowerA (sgnR l).2) := by
  cases l with
  | nil => rfl
  | cons x r =>
    have h := lower_sign x
    show sgnR (Lib.lowerB x :: Lib.toLowerA r) = _
    unfold sgnR
    by_cases h45 : x.toNat = 45
    · simp only [h45, h.1.2 h45, if_true]
    · have h45' : ¬ (Lib.lowerB x).toNat = 45 := fun k => h45 (h.1.1 k)
      by_cases h43 : x.toNat = 43
      · simp only [h43, h.2.2 h43]; rfl
      · have h43' : ¬ (Lib.lowerB x).toNat = 43 := fun k => h43 (h.2.1 k)
        simp only [h45, h43, h45', h43', if_false]
        rfl
theorem has_split {u q : List UInt8} (h : Lib.hasPrefix u q = true) : ∃ R, u = q ++ R := by
  unfold Lib.hasPrefix at h
  obtain ⟨R, hR⟩ := List.isPrefixOf_iff_prefix.1 h
  exact ⟨R, hR.symm⟩
theorem has_short {u q : List UInt8} (h : u.length < q.length) : Lib.hasPrefix u q = false := by
  rw [Bool.eq_false_iff]
  intro k
  obtain ⟨R, hR⟩ := has_split k
  rw [hR, List.length_append] at h
  omega
theorem ext_pre {t : ByteArray} {l u R : List UInt8} (hl : t.data.toList = u) (hu : u = l ++ R) : (t.extract 0 l.length).data.toList = l := by
  have h := mk_extract u 0 l.length
  rw [← hl, ← mk_of, hl] at h
  rw [h, mk_toList, hu]
  simp
theorem ext_post {t : ByteArray} {l u R : List UInt8} {n : Nat} (hl : t.data.toList = u) (hu : u = l ++ R) (hn : l.length = n) : t.extract n t.size = mk R := by
  have h := mk_extract u n t.size
  rw [← hl, ← mk_of, hl] at h
  have e1 : t.size = u.length := by rw [← hl]; rfl
  rw [h, e1, hu, ← hn, List.drop_left, List.take_of_length_le (by simp)]
theorem ext_no {t : ByteArray} {q u : List UInt8} {n : Nat} (hl : t.data.toList = u) (hq : Lib.hasPrefix u q = false) (hn : q.length = n) : (t.extract 0 n).data.toList ≠ q := by
  intro k
  have h := mk_extract u 0 n
  rw [← hl, ← mk_of, hl] at h
  rw [h, mk_toList, List.drop_zero, Nat.sub_zero] at k
  have : Lib.hasPrefix u q = true := by
    unfold Lib.hasPrefix
    rw [List.isPrefixOf_iff_prefix, ← k]
    exact List.take_prefix _ _
  rw [hq] at this
  cases this
end Go.Proofs.YtifkpcijheabhaaGreatDoor
namespace Go.Proofs.YtifkpcijheabhaaGreatDoor
open Go.RowKit

/-- The region of that number. -/
def regionOf (n : Nat) : Code → Option Code
  | .region k ops d => if k == n then some (.region k ops d) else none
  | .seq a b => match regionOf n a with
    | some c => some c
    | none => regionOf n b
  | .loop c => regionOf n c
  | .block _ c => regionOf n c
  | .scope c => regionOf n c
  | .cond _ a b => match regionOf n a with
    | some c => some c
    | none => regionOf n b
  | _ => none
/-- Region 19. -/
noncomputable def c19 : Code := ((Tryz.f7.body.bind (regionOf 19)).getD .skip)
set_option maxRecDepth 100000 in
set_option maxHeartbeats 40000000 in
theorem r19 {c : Code} (hc : c = c19) {wr : World} {p : Nat} {rs : ByteArray} {R : List UInt8} {ok sd dg : Bool} (hrsl : rs.data.toList = R) (hrss : rs.size ≤ 2147483647)
    (c4 : wr.cell? ⟨p, 4, none⟩ = some (.bool ok)) (c5 : wr.cell? ⟨p, 5, none⟩ = some (.bool sd)) (g4 : wr.frozen? ⟨p, 4, none⟩ = false) (g5 : wr.frozen? ⟨p, 5, none⟩ = false)
    (hdg : dg = true ↔ Digs R) (u0 u1 u2 u4 u5 u6 u8 u9 u10 u11 u12 u13 u14 u15 u16 u17 u18 u19 u20 u21 u22 u23 u24 u25 u26 u27 u28 u29 u30 u31 u32 u33 u34 u35 u36 u37 u38 u39 u40 u41 u42 u43 u44 u45 u46 u47 u48 u49 u50 u51 u52 u53 u54 u55 u56 u57 u58 u59 u60 u61 u62 u63 u64 u65 u66 u67 u68 u69 u70 u71 u72 u73 u74 u75 u76 u77 u78 u79 u80 u81 u82 u83 u84 u85 u86 u87 u88 u89 u90 u91 u92 u93 u94 u95 u96 u97 u98 u99 u100 u101 u102 u103 u104 u105 u106 u107 u108 u109 u110 u111 u112 u113 u114 u115 u116 u117 u118 u119 u120 u121 u122 u123 u124 u125 u126 u127 u128 u129 u130 u131 u132 u133 u134 u135 u136 u137 u138 u139 u140 u141 u142 u143 u144 u145 u146 u147 u148 u149 u150 u151 u152 u153 u154 u155 u156 u157 u158 u159 u160 u161 u162 u163 u164 u165 u166 u167 u168 u169 u170 u171 u172 u173 u174 u175 u176 u177 u178 u179 u180 u181 u182 u183 u184 u185 u186 u187 u188 u189 u190 u191 u192 u193 u194 u195 u196 u197 u198 u199 u200 u201 u202 u203 u204 u205 u206 u207 u208 u209 u210 u211 u212 u213 u214 u215 u216 u217 u218 u219 u220 u221 u222 u223 u224 u225 u226 : Value) (Q : Exit → Act → World → Prop) (HP : ∀ (c : _) (a : Act) (t : _) (v : Value) (w : World), Q (.panic c) (a.put (some t) v) w → Q (.panic c) a w)
    (HQ : Aside (∀ (sx : Bool) (_ : sx = true → sd = true ∧ R.length ≤ 15 ∧ Lib.hasPrefix R [115, 110, 97, 110] = false) (v78 v79 v80 v81 v82 v83 v84 v85 v86 v87 v88 v89 v90 v91 v92 v93 v94 v95 v96 v97 v98 v99 : Value) (w' : World) (_ : w' = ((wr.setCell ⟨p, 4, none⟩ (.bool dg)).setCell ⟨p, 5, none⟩ (.bool sx)).drew), Q .normal ⟨#[u0, u1, u2, .pointer (some ⟨p, 0, none⟩), u4, u5, u6, .string rs, u8, u9, u10, u11, u12, u13, u14, u15, u16, u17, u18, u19, u20, u21, u22, u23, u24, u25, u26, u27, u28, u29, u30, u31, u32, u33, u34, u35, u36, u37, u38, u39, u40, u41, u42, u43, u44, u45, u46, u47, u48, u49, u50, u51, u52, u53, u54, u55, u56, u57, u58, u59, u60, u61, u62, u63, u64, u65, u66, u67, u68, u69, u70, u71, u72, u73, u74, u75, u76, u77, v78, v79, v80, v81, v82, v83, v84, v85, v86, v87, v88, v89, v90, v91, v92, v93, v94, v95, v96, v97, v98, v99, u100, u101, u102, u103, u104, u105, u106, u107, u108, u109, u110, u111, u112, u113, u114, u115, u116, u117, u118, u119, u120, u121, u122, u123, u124, u125, u126, u127, u128, u129, u130, u131, u132, u133, u134, u135, u136, u137, u138, u139, u140, u141, u142, u143, u144, u145, u146, u147, u148, u149, u150, u151, u152, u153, u154, u155, u156, u157, u158, u159, u160, u161, u162, u163, u164, u165, u166, u167, u168, u169, u170, u171, u172, u173, u174, u175, u176, u177, u178, u179, u180, u181, u182, u183, u184, u185, u186, u187, u188, u189, u190, u191, u192, u193, u194, u195, u196, u197, u198, u199, u200, u201, u202, u203, u204, u205, u206, u207, u208, u209, u210, u211, u212, u213, u214, u215, u216, u217, u218, u219, u220, u221, u222, u223, u224, u225, u226], []⟩ w')) :
    Code.wp Tryz.prog c Q ⟨#[u0, u1, u2, .pointer (some ⟨p, 0, none⟩), u4, u5, u6, .string rs, u8, u9, u10, u11, u12, u13, u14, u15, u16, u17, u18, u19, u20, u21, u22, u23, u24, u25, u26, u27, u28, u29, u30, u31, u32, u33, u34, u35, u36, u37, u38, u39, u40, u41, u42, u43, u44, u45, u46, u47, u48, u49, u50, u51, u52, u53, u54, u55, u56, u57, u58, u59, u60, u61, u62, u63, u64, u65, u66, u67, u68, u69, u70, u71, u72, u73, u74, u75, u76, u77, u78, u79, u80, u81, u82, u83, u84, u85, u86, u87, u88, u89, u90, u91, u92, u93, u94, u95, u96, u97, u98, u99, u100, u101, u102, u103, u104, u105, u106, u107, u108, u109, u110, u111, u112, u113, u114, u115, u116, u117, u118, u119, u120, u121, u122, u123, u124, u125, u126, u127, u128, u129, u130, u131, u132, u133, u134, u135, u136, u137, u138, u139, u140, u141, u142, u143, u144, u145, u146, u147, u148, u149, u150, u151, u152, u153, u154, u155, u156, u157, u158, u159, u160, u161, u162, u163, u164, u165, u166, u167, u168, u169, u170, u171, u172, u173, u174, u175, u176, u177, u178, u179, u180, u181, u182, u183, u184, u185, u186, u187, u188, u189, u190, u191, u192, u193, u194, u195, u196, u197, u198, u199, u200, u201, u202, u203, u204, u205, u206, u207, u208, u209, u210, u211, u212, u213, u214, u215, u216, u217, u218, u219, u220, u221, u222, u223, u224, u225, u226], []⟩ wr := by
  subst hc
  conv => arg 2; whnf
  have hO : Hid (∀ w1, Calls Tryz.prog 19 #[.string rs] w1 fun e1 w' => e1 = .returned (.bool dg) ∧ w' = w1) := Lib.hid (fun w1 => by
    refine (only2_any (w := w1) hrss).mono ?_
    rintro e1 w' ⟨rfl, ⟨rfl, q⟩ | ⟨rfl, q⟩⟩
    · rw [hrsl] at q
      have : dg = false := by rw [Bool.eq_false_iff]; intro k; exact q (hdg.1 k)
      exact ⟨by rw [this], rfl⟩
    · rw [hrsl] at q
      exact ⟨by rw [hdg.2 q], rfl⟩)
  have hrR : rs.size = R.length := by
    have e1 : rs.size = rs.data.toList.length := rfl
    rw [e1, hrsl]
  have HRR := Aside.mk hrR
  have HRL := Aside.mk hrsl
  clear hdg hrsl hrR
  cases sd
  case false =>
    refine wp_region_any (by kernel_rfl) ?_
    change wpAny _ _ _ _ _ _ _ (World.drew _)
    refine wpAny_take (i := 0) (v := ?_) rfl (by kernel_rfl) (by kernel_rfl) (by kernel_rfl) (fun c a w h => HP c a _ _ w h) (Or.inl ⟨by kernel_rfl, ?_⟩) ?_
    rotate_left 1
    · intro w
      go_simp
      try with_reducible rfl
    try simp only [Act.put, List.setIfInBounds_toArray, List.set_cons_zero, List.set_cons_succ]
    refine wpAny_take (i := 2) (v := ?_) rfl (by kernel_rfl) (by kernel_rfl) (by kernel_rfl) (fun c a w h => HP c a _ _ w h) (Or.inl ⟨by kernel_rfl, ?_⟩) ?_
    rotate_left 1
    · intro w
      go_simp
      try with_reducible rfl
    try simp only [Act.put, List.setIfInBounds_toArray, List.set_cons_zero, List.set_cons_succ]
    refine wpAny_ready (rs := [1, 3]) (by kernel_rfl) (by simp) ?_
    refine AllReady.cons rfl (fun K hK => ?_) (AllReady.cons rfl (fun K hK => ?_) AllReady.nil)
    · go_simp
      go_must (refine (hO.out _).mono ?_; rintro e1 w' ⟨rfl, rfl⟩)
      refine hK _ _ ?_
      clear hK K
      try simp only [Act.put, List.setIfInBounds_toArray, List.set_cons_zero, List.set_cons_succ]
      refine wpAny_ready (rs := [3]) (by kernel_rfl) (by simp) ?_
      refine AllReady.cons rfl (fun K hK => ?_) AllReady.nil
      go_simp
      refine hK _ _ ?_
      clear hK K
      try simp only [Act.put, List.setIfInBounds_toArray, List.set_cons_zero, List.set_cons_succ]
      refine wpAny_take (i := 4) (v := ?_) rfl (by kernel_rfl) (by kernel_rfl) (by kernel_rfl) (fun c a w h => HP c a _ _ w h) (Or.inl ⟨by kernel_rfl, ?_⟩) ?_
      rotate_left 1
      · intro w
        go_simp
        try with_reducible rfl
      try simp only [Act.put, List.setIfInBounds_toArray, List.set_cons_zero, List.set_cons_succ]
      refine wpAny_take (i := 5) (v := undef) rfl (by kernel_rfl) (by kernel_rfl) (by kernel_rfl) (fun c a w h => HP c a _ _ w h) (Or.inr ⟨by kernel_rfl, rfl⟩) ?_
      try simp only [Act.put, List.setIfInBounds_toArray, List.set_cons_zero, List.set_cons_succ]
      refine wpAny_take (i := 6) (v := undef) rfl (by kernel_rfl) (by kernel_rfl) (by kernel_rfl) (fun c a w h => HP c a _ _ w h) (Or.inr ⟨by kernel_rfl, rfl⟩) ?_
      try simp only [Act.put, List.setIfInBounds_toArray, List.set_cons_zero, List.set_cons_succ]
      refine wpAny_take (i := 7) (v := undef) rfl (by kernel_rfl) (by kernel_rfl) (by kernel_rfl) (fun c a w h => HP c a _ _ w h) (Or.inr ⟨by kernel_rfl, rfl⟩) ?_
      try simp only [Act.put, List.setIfInBounds_toArray, List.set_cons_zero, List.set_cons_succ]
      refine wpAny_take (i := 8) (v := ?_) rfl (by kernel_rfl) (by kernel_rfl) (by kernel_rfl) (fun c a w h => HP c a _ _ w h) (Or.inl ⟨by kernel_rfl, ?_⟩) ?_
      rotate_left 1
      · intro w
        go_simp
        try with_reducible rfl
      try simp only [Act.put, List.setIfInBounds_toArray, List.set_cons_zero, List.set_cons_succ]
      refine wpAny_take (i := 9) (v := ?_) rfl (by kernel_rfl) (by kernel_rfl) (by kernel_rfl) (fun c a w h => HP c a _ _ w h) (Or.inl ⟨by kernel_rfl, ?_⟩) ?_
      rotate_left 1
      · intro w
        go_simp
        try with_reducible rfl
      try simp only [Act.put, List.setIfInBounds_toArray, List.set_cons_zero, List.set_cons_succ]
      refine wpAny_take (i := 10) (v := undef) rfl (by kernel_rfl) (by kernel_rfl) (by kernel_rfl) (fun c a w h => HP c a _ _ w h) (Or.inr ⟨by kernel_rfl, rfl⟩) ?_
      try simp only [Act.put, List.setIfInBounds_toArray, List.set_cons_zero, List.set_cons_succ]
      refine wpAny_take (i := 11) (v := undef) rfl (by kernel_rfl) (by kernel_rfl) (by kernel_rfl) (fun c a w h => HP c a _ _ w h) (Or.inr ⟨by kernel_rfl, rfl⟩) ?_
      try simp only [Act.put, List.setIfInBounds_toArray, List.set_cons_zero, List.set_cons_succ]
      refine wpAny_take (i := 12) (v := undef) rfl (by kernel_rfl) (by kernel_rfl) (by kernel_rfl) (fun c a w h => HP c a _ _ w h) (Or.inr ⟨by kernel_rfl, rfl⟩) ?_
      try simp only [Act.put, List.setIfInBounds_toArray, List.set_cons_zero, List.set_cons_succ]
      refine wpAny_take (i := 13) (v := undef) rfl (by kernel_rfl) (by kernel_rfl) (by kernel_rfl) (fun c a w h => HP c a _ _ w h) (Or.inr ⟨by kernel_rfl, rfl⟩) ?_
      try simp only [Act.put, List.setIfInBounds_toArray, List.set_cons_zero, List.set_cons_succ]
      refine wpAny_take (i := 14) (v := undef) rfl (by kernel_rfl) (by kernel_rfl) (by kernel_rfl) (fun c a w h => HP c a _ _ w h) (Or.inr ⟨by kernel_rfl, rfl⟩) ?_
      try simp only [Act.put, List.setIfInBounds_toArray, List.set_cons_zero, List.set_cons_succ]
      refine wpAny_take (i := 15) (v := undef) rfl (by kernel_rfl) (by kernel_rfl) (by kernel_rfl) (fun c a w h => HP c a _ _ w h) (Or.inr ⟨by kernel_rfl, rfl⟩) ?_
      try simp only [Act.put, List.setIfInBounds_toArray, List.set_cons_zero, List.set_cons_succ]
      refine wpAny_take (i := 16) (v := undef) rfl (by kernel_rfl) (by kernel_rfl) (by kernel_rfl) (fun c a w h => HP c a _ _ w h) (Or.inr ⟨by kernel_rfl, rfl⟩) ?_
      try simp only [Act.put, List.setIfInBounds_toArray, List.set_cons_zero, List.set_cons_succ]
      refine wpAny_take (i := 17) (v := undef) rfl (by kernel_rfl) (by kernel_rfl) (by kernel_rfl) (fun c a w h => HP c a _ _ w h) (Or.inr ⟨by kernel_rfl, rfl⟩) ?_
      try simp only [Act.put, List.setIfInBounds_toArray, List.set_cons_zero, List.set_cons_succ]
      refine wpAny_take (i := 18) (v := undef) rfl (by kernel_rfl) (by kernel_rfl) (by kernel_rfl) (fun c a w h => HP c a _ _ w h) (Or.inr ⟨by kernel_rfl, rfl⟩) ?_
      try simp only [Act.put, List.setIfInBounds_toArray, List.set_cons_zero, List.set_cons_succ]
      refine wpAny_take (i := 19) (v := ?_) rfl (by kernel_rfl) (by kernel_rfl) (by kernel_rfl) (fun c a w h => HP c a _ _ w h) (Or.inl ⟨by kernel_rfl, ?_⟩) ?_
      rotate_left 1
      · intro w
        go_simp
        try with_reducible rfl
      try simp only [Act.put, List.setIfInBounds_toArray, List.set_cons_zero, List.set_cons_succ]
      refine wpAny_take (i := 20) (v := ?_) rfl (by kernel_rfl) (by kernel_rfl) (by kernel_rfl) (fun c a w h => HP c a _ _ w h) (Or.inl ⟨by kernel_rfl, ?_⟩) ?_
      rotate_left 1
      · intro w
        go_simp
        try with_reducible rfl
      try simp only [Act.put, List.setIfInBounds_toArray, List.set_cons_zero, List.set_cons_succ]
      refine wpAny_ready (rs := [21]) (by kernel_rfl) (by simp) ?_
      refine AllReady.cons rfl (fun K hK => ?_) AllReady.nil
      go_simp
      refine hK _ _ ?_
      clear hK K
      try simp only [Act.put, List.setIfInBounds_toArray, List.set_cons_zero, List.set_cons_succ]
      refine wpAny_take (i := 22) (v := ?_) rfl (by kernel_rfl) (by kernel_rfl) (by kernel_rfl) (fun c a w h => HP c a _ _ w h) (Or.inl ⟨by kernel_rfl, ?_⟩) ?_
      rotate_left 1
      · intro w
        go_simp
        try with_reducible rfl
      try simp only [Act.put, List.setIfInBounds_toArray, List.set_cons_zero, List.set_cons_succ]
      refine wpAny_ready (rs := [23]) (by kernel_rfl) (by simp) ?_
      refine AllReady.cons rfl (fun K hK => ?_) AllReady.nil
      go_simp
      refine hK _ _ ?_
      clear hK K
      try simp only [Act.put, List.setIfInBounds_toArray, List.set_cons_zero, List.set_cons_succ]
      refine wpAny_done (by kernel_rfl) ?_ _
      exact HQ.out false (fun q => by cases q) _ _ _ _ _ _ _ _ _ _ _ _ _ _ _ _ _ _ _ _ _ _ _ rfl
    · go_simp
      refine hK _ _ ?_
      clear hK K
      try simp only [Act.put, List.setIfInBounds_toArray, List.set_cons_zero, List.set_cons_succ]
      refine wpAny_ready (rs := [1]) (by kernel_rfl) (by simp) ?_
      refine AllReady.cons rfl (fun K hK => ?_) AllReady.nil
      go_simp
      go_must (refine (hO.out _).mono ?_; rintro e1 w' ⟨rfl, rfl⟩)
      refine hK _ _ ?_
      clear hK K
      try simp only [Act.put, List.setIfInBounds_toArray, List.set_cons_zero, List.set_cons_succ]
      refine wpAny_take (i := 4) (v := ?_) rfl (by kernel_rfl) (by kernel_rfl) (by kernel_rfl) (fun c a w h => HP c a _ _ w h) (Or.inl ⟨by kernel_rfl, ?_⟩) ?_
      rotate_left 1
      · intro w
        go_simp
        try with_reducible rfl
      try simp only [Act.put, List.setIfInBounds_toArray, List.set_cons_zero, List.set_cons_succ]
      refine wpAny_take (i := 5) (v := undef) rfl (by kernel_rfl) (by kernel_rfl) (by kernel_rfl) (fun c a w h => HP c a _ _ w h) (Or.inr ⟨by kernel_rfl, rfl⟩) ?_
      try simp only [Act.put, List.setIfInBounds_toArray, List.set_cons_zero, List.set_cons_succ]
      refine wpAny_take (i := 6) (v := undef) rfl (by kernel_rfl) (by kernel_rfl) (by kernel_rfl) (fun c a w h => HP c a _ _ w h) (Or.inr ⟨by kernel_rfl, rfl⟩) ?_
      try simp only [Act.put, List.setIfInBounds_toArray, List.set_cons_zero, List.set_cons_succ]
      refine wpAny_take (i := 7) (v := undef) rfl (by kernel_rfl) (by kernel_rfl) (by kernel_rfl) (fun c a w h => HP c a _ _ w h) (Or.inr ⟨by kernel_rfl, rfl⟩) ?_
      try simp only [Act.put, List.setIfInBounds_toArray, List.set_cons_zero, List.set_cons_succ]
      refine wpAny_take (i := 8) (v := ?_) rfl (by kernel_rfl) (by kernel_rfl) (by kernel_rfl) (fun c a w h => HP c a _ _ w h) (Or.inl ⟨by kernel_rfl, ?_⟩) ?_
      rotate_left 1
      · intro w
        go_simp
        try with_reducible rfl
      try simp only [Act.put, List.setIfInBounds_toArray, List.set_cons_zero, List.set_cons_succ]
      refine wpAny_take (i := 9) (v := ?_) rfl (by kernel_rfl) (by kernel_rfl) (by kernel_rfl) (fun c a w h => HP c a _ _ w h) (Or.inl ⟨by kernel_rfl, ?_⟩) ?_
      rotate_left 1
      · intro w
        go_simp
        try with_reducible rfl
      try simp only [Act.put, List.setIfInBounds_toArray, List.set_cons_zero, List.set_cons_succ]
      refine wpAny_take (i := 10) (v := undef) rfl (by kernel_rfl) (by kernel_rfl) (by kernel_rfl) (fun c a w h => HP c a _ _ w h) (Or.inr ⟨by kernel_rfl, rfl⟩) ?_
      try simp only [Act.put, List.setIfInBounds_toArray, List.set_cons_zero, List.set_cons_succ]
      refine wpAny_take (i := 11) (v := undef) rfl (by kernel_rfl) (by kernel_rfl) (by kernel_rfl) (fun c a w h => HP c a _ _ w h) (Or.inr ⟨by kernel_rfl, rfl⟩) ?_
      try simp only [Act.put, List.setIfInBounds_toArray, List.set_cons_zero, List.set_cons_succ]
      refine wpAny_take (i := 12) (v := undef) rfl (by kernel_rfl) (by kernel_rfl) (by kernel_rfl) (fun c a w h => HP c a _ _ w h) (Or.inr ⟨by kernel_rfl, rfl⟩) ?_
      try simp only [Act.put, List.setIfInBounds_toArray, List.set_cons_zero, List.set_cons_succ]
      refine wpAny_take (i := 13) (v := undef) rfl (by kernel_rfl) (by kernel_rfl) (by kernel_rfl) (fun c a w h => HP c a _ _ w h) (Or.inr ⟨by kernel_rfl, rfl⟩) ?_
      try simp only [Act.put, List.setIfInBounds_toArray, List.set_cons_zero, List.set_cons_succ]
      refine wpAny_take (i := 14) (v := undef) rfl (by kernel_rfl) (by kernel_rfl) (by kernel_rfl) (fun c a w h => HP c a _ _ w h) (Or.inr ⟨by kernel_rfl, rfl⟩) ?_
      try simp only [Act.put, List.setIfInBounds_toArray, List.set_cons_zero, List.set_cons_succ]
      refine wpAny_take (i := 15) (v := undef) rfl (by kernel_rfl) (by kernel_rfl) (by kernel_rfl) (fun c a w h => HP c a _ _ w h) (Or.inr ⟨by kernel_rfl, rfl⟩) ?_
      try simp only [Act.put, List.setIfInBounds_toArray, List.set_cons_zero, List.set_cons_succ]
      refine wpAny_take (i := 16) (v := undef) rfl (by kernel_rfl) (by kernel_rfl) (by kernel_rfl) (fun c a w h => HP c a _ _ w h) (Or.inr ⟨by kernel_rfl, rfl⟩) ?_
      try simp only [Act.put, List.setIfInBounds_toArray, List.set_cons_zero, List.set_cons_succ]
      refine wpAny_take (i := 17) (v := undef) rfl (by kernel_rfl) (by kernel_rfl) (by kernel_rfl) (fun c a w h => HP c a _ _ w h) (Or.inr ⟨by kernel_rfl, rfl⟩) ?_
      try simp only [Act.put, List.setIfInBounds_toArray, List.set_cons_zero, List.set_cons_succ]
      refine wpAny_take (i := 18) (v := undef) rfl (by kernel_rfl) (by kernel_rfl) (by kernel_rfl) (fun c a w h => HP c a _ _ w h) (Or.inr ⟨by kernel_rfl, rfl⟩) ?_
      try simp only [Act.put, List.setIfInBounds_toArray, List.set_cons_zero, List.set_cons_succ]
      refine wpAny_take (i := 19) (v := ?_) rfl (by kernel_rfl) (by kernel_rfl) (by kernel_rfl) (fun c a w h => HP c a _ _ w h) (Or.inl ⟨by kernel_rfl, ?_⟩) ?_
      rotate_left 1
      · intro w
        go_simp
        try with_reducible rfl
      try simp only [Act.put, List.setIfInBounds_toArray, List.set_cons_zero, List.set_cons_succ]
      refine wpAny_take (i := 20) (v := ?_) rfl (by kernel_rfl) (by kernel_rfl) (by kernel_rfl) (fun c a w h => HP c a _ _ w h) (Or.inl ⟨by kernel_rfl, ?_⟩) ?_
      rotate_left 1
      · intro w
        go_simp
        try with_reducible rfl
      try simp only [Act.put, List.setIfInBounds_toArray, List.set_cons_zero, List.set_cons_succ]
      refine wpAny_ready (rs := [21]) (by kernel_rfl) (by simp) ?_
      refine AllReady.cons rfl (fun K hK => ?_) AllReady.nil
      go_simp
      refine hK _ _ ?_
      clear hK K
      try simp only [Act.put, List.setIfInBounds_toArray, List.set_cons_zero, List.set_cons_succ]
      refine wpAny_take (i := 22) (v := ?_) rfl (by kernel_rfl) (by kernel_rfl) (by kernel_rfl) (fun c a w h => HP c a _ _ w h) (Or.inl ⟨by kernel_rfl, ?_⟩) ?_
      rotate_left 1
      · intro w
        go_simp
        try with_reducible rfl
      try simp only [Act.put, List.setIfInBounds_toArray, List.set_cons_zero, List.set_cons_succ]
      refine wpAny_ready (rs := [23]) (by kernel_rfl) (by simp) ?_
      refine AllReady.cons rfl (fun K hK => ?_) AllReady.nil
      go_simp
      refine hK _ _ ?_
      clear hK K
      try simp only [Act.put, List.setIfInBounds_toArray, List.set_cons_zero, List.set_cons_succ]
      refine wpAny_done (by kernel_rfl) ?_ _
      exact HQ.out false (fun q => by cases q) _ _ _ _ _ _ _ _ _ _ _ _ _ _ _ _ _ _ _ _ _ _ _ rfl
  by_cases h15 : (rs.size : Int) ≤ 15
  case neg =>
    have d15 : decide ((rs.size : Int) ≤ 15) = false := by rw [decide_eq_false_iff_not]; exact h15
    clear h15
    refine wp_region_any (by kernel_rfl) ?_
    change wpAny _ _ _ _ _ _ _ (World.drew _)
    refine wpAny_take (i := 0) (v := ?_) rfl (by kernel_rfl) (by kernel_rfl) (by kernel_rfl) (fun c a w h => HP c a _ _ w h) (Or.inl ⟨by kernel_rfl, ?_⟩) ?_
    rotate_left 1
    · intro w
      go_simp
      try with_reducible rfl
    try simp only [Act.put, List.setIfInBounds_toArray, List.set_cons_zero, List.set_cons_succ]
    refine wpAny_take (i := 2) (v := ?_) rfl (by kernel_rfl) (by kernel_rfl) (by kernel_rfl) (fun c a w h => HP c a _ _ w h) (Or.inl ⟨by kernel_rfl, ?_⟩) ?_
    rotate_left 1
    · intro w
      go_simp
      try with_reducible rfl
    try simp only [Act.put, List.setIfInBounds_toArray, List.set_cons_zero, List.set_cons_succ]
    refine wpAny_ready (rs := [1, 3]) (by kernel_rfl) (by simp) ?_
    refine AllReady.cons rfl (fun K hK => ?_) (AllReady.cons rfl (fun K hK => ?_) AllReady.nil)
    · go_simp
      go_must (refine (hO.out _).mono ?_; rintro e1 w' ⟨rfl, rfl⟩)
      refine hK _ _ ?_
      clear hK K
      try simp only [Act.put, List.setIfInBounds_toArray, List.set_cons_zero, List.set_cons_succ]
      refine wpAny_ready (rs := [3]) (by kernel_rfl) (by simp) ?_
      refine AllReady.cons rfl (fun K hK => ?_) AllReady.nil
      go_simp
      refine hK _ _ ?_
      clear hK K
      try simp only [Act.put, List.setIfInBounds_toArray, List.set_cons_zero, List.set_cons_succ]
      refine wpAny_take (i := 4) (v := ?_) rfl (by kernel_rfl) (by kernel_rfl) (by kernel_rfl) (fun c a w h => HP c a _ _ w h) (Or.inl ⟨by kernel_rfl, ?_⟩) ?_
      rotate_left 1
      · intro w
        go_simp
        try with_reducible rfl
      try simp only [Act.put, List.setIfInBounds_toArray, List.set_cons_zero, List.set_cons_succ]
      refine wpAny_take (i := 5) (v := ?_) rfl (by kernel_rfl) (by kernel_rfl) (by kernel_rfl) (fun c a w h => HP c a _ _ w h) (Or.inl ⟨by kernel_rfl, ?_⟩) ?_
      rotate_left 1
      · intro w
        go_simp
        try with_reducible rfl
      try simp only [Act.put, List.setIfInBounds_toArray, List.set_cons_zero, List.set_cons_succ]
      refine wpAny_take (i := 6) (v := ?_) rfl (by kernel_rfl) (by kernel_rfl) (by kernel_rfl) (fun c a w h => HP c a _ _ w h) (Or.inl ⟨by kernel_rfl, ?_⟩) ?_
      rotate_left 1
      · intro w
        go_simp
        try with_reducible rfl
      try simp only [Act.put, List.setIfInBounds_toArray, List.set_cons_zero, List.set_cons_succ]
      refine wpAny_take (i := 7) (v := ?_) rfl (by kernel_rfl) (by kernel_rfl) (by kernel_rfl) (fun c a w h => HP c a _ _ w h) (Or.inl ⟨by kernel_rfl, ?_⟩) ?_
      rotate_left 1
      · intro w
        go_simp
        try with_reducible rfl
      try simp only [Act.put, List.setIfInBounds_toArray, List.set_cons_zero, List.set_cons_succ]
      refine wpAny_take (i := 8) (v := ?_) rfl (by kernel_rfl) (by kernel_rfl) (by kernel_rfl) (fun c a w h => HP c a _ _ w h) (Or.inl ⟨by kernel_rfl, ?_⟩) ?_
      rotate_left 1
      · intro w
        go_simp
        try with_reducible rfl
      try simp only [Act.put, List.setIfInBounds_toArray, List.set_cons_zero, List.set_cons_succ]
      refine wpAny_take (i := 9) (v := ?_) rfl (by kernel_rfl) (by kernel_rfl) (by kernel_rfl) (fun c a w h => HP c a _ _ w h) (Or.inl ⟨by kernel_rfl, ?_⟩) ?_
      rotate_left 1
      · intro w
        go_simp
        try with_reducible rfl
      try simp only [Act.put, List.setIfInBounds_toArray, List.set_cons_zero, List.set_cons_succ]
      refine wpAny_take (i := 10) (v := undef) rfl (by kernel_rfl) (by kernel_rfl) (by kernel_rfl) (fun c a w h => HP c a _ _ w h) (Or.inr ⟨by kernel_rfl, rfl⟩) ?_
      try simp only [Act.put, List.setIfInBounds_toArray, List.set_cons_zero, List.set_cons_succ]
      refine wpAny_take (i := 11) (v := undef) rfl (by kernel_rfl) (by kernel_rfl) (by kernel_rfl) (fun c a w h => HP c a _ _ w h) (Or.inr ⟨by kernel_rfl, rfl⟩) ?_
      try simp only [Act.put, List.setIfInBounds_toArray, List.set_cons_zero, List.set_cons_succ]
      refine wpAny_take (i := 12) (v := undef) rfl (by kernel_rfl) (by kernel_rfl) (by kernel_rfl) (fun c a w h => HP c a _ _ w h) (Or.inr ⟨by kernel_rfl, rfl⟩) ?_
      try simp only [Act.put, List.setIfInBounds_toArray, List.set_cons_zero, List.set_cons_succ]
      refine wpAny_take (i := 13) (v := undef) rfl (by kernel_rfl) (by kernel_rfl) (by kernel_rfl) (fun c a w h => HP c a _ _ w h) (Or.inr ⟨by kernel_rfl, rfl⟩) ?_
      try simp only [Act.put, List.setIfInBounds_toArray, List.set_cons_zero, List.set_cons_succ]
      refine wpAny_take (i := 14) (v := undef) rfl (by kernel_rfl) (by kernel_rfl) (by kernel_rfl) (fun c a w h => HP c a _ _ w h) (Or.inr ⟨by kernel_rfl, rfl⟩) ?_
      try simp only [Act.put, List.setIfInBounds_toArray, List.set_cons_zero, List.set_cons_succ]
      refine wpAny_take (i := 15) (v := undef) rfl (by kernel_rfl) (by kernel_rfl) (by kernel_rfl) (fun c a w h => HP c a _ _ w h) (Or.inr ⟨by kernel_rfl, rfl⟩) ?_
      try simp only [Act.put, List.setIfInBounds_toArray, List.set_cons_zero, List.set_cons_succ]
      refine wpAny_take (i := 16) (v := undef) rfl (by kernel_rfl) (by kernel_rfl) (by kernel_rfl) (fun c a w h => HP c a _ _ w h) (Or.inr ⟨by kernel_rfl, rfl⟩) ?_
      try simp only [Act.put, List.setIfInBounds_toArray, List.set_cons_zero, List.set_cons_succ]
      refine wpAny_take (i := 17) (v := undef) rfl (by kernel_rfl) (by kernel_rfl) (by kernel_rfl) (fun c a w h => HP c a _ _ w h) (Or.inr ⟨by kernel_rfl, rfl⟩) ?_
      try simp only [Act.put, List.setIfInBounds_toArray, List.set_cons_zero, List.set_cons_succ]
      refine wpAny_take (i := 18) (v := undef) rfl (by kernel_rfl) (by kernel_rfl) (by kernel_rfl) (fun c a w h => HP c a _ _ w h) (Or.inr ⟨by kernel_rfl, rfl⟩) ?_
      try simp only [Act.put, List.setIfInBounds_toArray, List.set_cons_zero, List.set_cons_succ]
      refine wpAny_take (i := 19) (v := ?_) rfl (by kernel_rfl) (by kernel_rfl) (by kernel_rfl) (fun c a w h => HP c a _ _ w h) (Or.inl ⟨by kernel_rfl, ?_⟩) ?_
      rotate_left 1
      · intro w
        go_simp
        try with_reducible rfl
      try simp only [Act.put, List.setIfInBounds_toArray, List.set_cons_zero, List.set_cons_succ]
      refine wpAny_take (i := 20) (v := ?_) rfl (by kernel_rfl) (by kernel_rfl) (by kernel_rfl) (fun c a w h => HP c a _ _ w h) (Or.inl ⟨by kernel_rfl, ?_⟩) ?_
      rotate_left 1
      · intro w
        go_simp
        try with_reducible rfl
      try simp only [Act.put, List.setIfInBounds_toArray, List.set_cons_zero, List.set_cons_succ]
      refine wpAny_ready (rs := [21]) (by kernel_rfl) (by simp) ?_
      refine AllReady.cons rfl (fun K hK => ?_) AllReady.nil
      go_simp
      refine hK _ _ ?_
      clear hK K
      try simp only [Act.put, List.setIfInBounds_toArray, List.set_cons_zero, List.set_cons_succ]
      refine wpAny_take (i := 22) (v := ?_) rfl (by kernel_rfl) (by kernel_rfl) (by kernel_rfl) (fun c a w h => HP c a _ _ w h) (Or.inl ⟨by kernel_rfl, ?_⟩) ?_
      rotate_left 1
      · intro w
        go_simp
        try with_reducible rfl
      try simp only [Act.put, List.setIfInBounds_toArray, List.set_cons_zero, List.set_cons_succ]
      refine wpAny_ready (rs := [23]) (by kernel_rfl) (by simp) ?_
      refine AllReady.cons rfl (fun K hK => ?_) AllReady.nil
      go_simp
      refine hK _ _ ?_
      clear hK K
      try simp only [Act.put, List.setIfInBounds_toArray, List.set_cons_zero, List.set_cons_succ]
      refine wpAny_done (by kernel_rfl) ?_ _
      exact HQ.out false (fun q => by cases q) _ _ _ _ _ _ _ _ _ _ _ _ _ _ _ _ _ _ _ _ _ _ _ rfl
    · go_simp
      refine hK _ _ ?_
      clear hK K
      try simp only [Act.put, List.setIfInBounds_toArray, List.set_cons_zero, List.set_cons_succ]
      refine wpAny_ready (rs := [1]) (by kernel_rfl) (by simp) ?_
      refine AllReady.cons rfl (fun K hK => ?_) AllReady.nil
      go_simp
      go_must (refine (hO.out _).mono ?_; rintro e1 w' ⟨rfl, rfl⟩)
      refine hK _ _ ?_
      clear hK K
      try simp only [Act.put, List.setIfInBounds_toArray, List.set_cons_zero, List.set_cons_succ]
      refine wpAny_take (i := 4) (v := ?_) rfl (by kernel_rfl) (by kernel_rfl) (by kernel_rfl) (fun c a w h => HP c a _ _ w h) (Or.inl ⟨by kernel_rfl, ?_⟩) ?_
      rotate_left 1
      · intro w
        go_simp
        try with_reducible rfl
      try simp only [Act.put, List.setIfInBounds_toArray, List.set_cons_zero, List.set_cons_succ]
      refine wpAny_take (i := 5) (v := ?_) rfl (by kernel_rfl) (by kernel_rfl) (by kernel_rfl) (fun c a w h => HP c a _ _ w h) (Or.inl ⟨by kernel_rfl, ?_⟩) ?_
      rotate_left 1
      · intro w
        go_simp
        try with_reducible rfl
      try simp only [Act.put, List.setIfInBounds_toArray, List.set_cons_zero, List.set_cons_succ]
      refine wpAny_take (i := 6) (v := ?_) rfl (by kernel_rfl) (by kernel_rfl) (by kernel_rfl) (fun c a w h => HP c a _ _ w h) (Or.inl ⟨by kernel_rfl, ?_⟩) ?_
      rotate_left 1
      · intro w
        go_simp
        try with_reducible rfl
      try simp only [Act.put, List.setIfInBounds_toArray, List.set_cons_zero, List.set_cons_succ]
      refine wpAny_take (i := 7) (v := ?_) rfl (by kernel_rfl) (by kernel_rfl) (by kernel_rfl) (fun c a w h => HP c a _ _ w h) (Or.inl ⟨by kernel_rfl, ?_⟩) ?_
      rotate_left 1
      · intro w
        go_simp
        try with_reducible rfl
      try simp only [Act.put, List.setIfInBounds_toArray, List.set_cons_zero, List.set_cons_succ]
      refine wpAny_take (i := 8) (v := ?_) rfl (by kernel_rfl) (by kernel_rfl) (by kernel_rfl) (fun c a w h => HP c a _ _ w h) (Or.inl ⟨by kernel_rfl, ?_⟩) ?_
      rotate_left 1
      · intro w
        go_simp
        try with_reducible rfl
      try simp only [Act.put, List.setIfInBounds_toArray, List.set_cons_zero, List.set_cons_succ]
      refine wpAny_take (i := 9) (v := ?_) rfl (by kernel_rfl) (by kernel_rfl) (by kernel_rfl) (fun c a w h => HP c a _ _ w h) (Or.inl ⟨by kernel_rfl, ?_⟩) ?_
      rotate_left 1
      · intro w
        go_simp
        try with_reducible rfl
      try simp only [Act.put, List.setIfInBounds_toArray, List.set_cons_zero, List.set_cons_succ]
      refine wpAny_take (i := 10) (v := undef) rfl (by kernel_rfl) (by kernel_rfl) (by kernel_rfl) (fun c a w h => HP c a _ _ w h) (Or.inr ⟨by kernel_rfl, rfl⟩) ?_
      try simp only [Act.put, List.setIfInBounds_toArray, List.set_cons_zero, List.set_cons_succ]
      refine wpAny_take (i := 11) (v := undef) rfl (by kernel_rfl) (by kernel_rfl) (by kernel_rfl) (fun c a w h => HP c a _ _ w h) (Or.inr ⟨by kernel_rfl, rfl⟩) ?_
      try simp only [Act.put, List.setIfInBounds_toArray, List.set_cons_zero, List.set_cons_succ]
      refine wpAny_take (i := 12) (v := undef) rfl (by kernel_rfl) (by kernel_rfl) (by kernel_rfl) (fun c a w h => HP c a _ _ w h) (Or.inr ⟨by kernel_rfl, rfl⟩) ?_
      try simp only [Act.put, List.setIfInBounds_toArray, List.set_cons_zero, List.set_cons_succ]
      refine wpAny_take (i := 13) (v := undef) rfl (by kernel_rfl) (by kernel_rfl) (by kernel_rfl) (fun c a w h => HP c a _ _ w h) (Or.inr ⟨by kernel_rfl, rfl⟩) ?_
      try simp only [Act.put, List.setIfInBounds_toArray, List.set_cons_zero, List.set_cons_succ]
      refine wpAny_take (i := 14) (v := undef) rfl (by kernel_rfl) (by kernel_rfl) (by kernel_rfl) (fun c a w h => HP c a _ _ w h) (Or.inr ⟨by kernel_rfl, rfl⟩) ?_
      try simp only [Act.put, List.setIfInBounds_toArray, List.set_cons_zero, List.set_cons_succ]
      refine wpAny_take (i := 15) (v := undef) rfl (by kernel_rfl) (by kernel_rfl) (by kernel_rfl) (fun c a w h => HP c a _ _ w h) (Or.inr ⟨by kernel_rfl, rfl⟩) ?_
      try simp only [Act.put, List.setIfInBounds_toArray, List.set_cons_zero, List.set_cons_succ]
      refine wpAny_take (i := 16) (v := undef) rfl (by kernel_rfl) (by kernel_rfl) (by kernel_rfl) (fun c a w h => HP c a _ _ w h) (Or.inr ⟨by kernel_rfl, rfl⟩) ?_
      try simp only [Act.put, List.setIfInBounds_toArray, List.set_cons_zero, List.set_cons_succ]
      refine wpAny_take (i := 17) (v := undef) rfl (by kernel_rfl) (by kernel_rfl) (by kernel_rfl) (fun c a w h => HP c a _ _ w h) (Or.inr ⟨by kernel_rfl, rfl⟩) ?_
      try simp only [Act.put, List.setIfInBounds_toArray, List.set_cons_zero, List.set_cons_succ]
      refine wpAny_take (i := 18) (v := undef) rfl (by kernel_rfl) (by kernel_rfl) (by kernel_rfl) (fun c a w h => HP c a _ _ w h) (Or.inr ⟨by kernel_rfl, rfl⟩) ?_
      try simp only [Act.put, List.setIfInBounds_toArray, List.set_cons_zero, List.set_cons_succ]
      refine wpAny_take (i := 19) (v := ?_) rfl (by kernel_rfl) (by kernel_rfl) (by kernel_rfl) (fun c a w h => HP c a _ _ w h) (Or.inl ⟨by kernel_rfl, ?_⟩) ?_
      rotate_left 1
      · intro w
        go_simp
        try with_reducible rfl
      try simp only [Act.put, List.setIfInBounds_toArray, List.set_cons_zero, List.set_cons_succ]
      refine wpAny_take (i := 20) (v := ?_) rfl (by kernel_rfl) (by kernel_rfl) (by kernel_rfl) (fun c a w h => HP c a _ _ w h) (Or.inl ⟨by kernel_rfl, ?_⟩) ?_
      rotate_left 1
      · intro w
        go_simp
        try with_reducible rfl
      try simp only [Act.put, List.setIfInBounds_toArray, List.set_cons_zero, List.set_cons_succ]
      refine wpAny_ready (rs := [21]) (by kernel_rfl) (by simp) ?_
      refine AllReady.cons rfl (fun K hK => ?_) AllReady.nil
      go_simp
      refine hK _ _ ?_
      clear hK K
      try simp only [Act.put, List.setIfInBounds_toArray, List.set_cons_zero, List.set_cons_succ]
      refine wpAny_take (i := 22) (v := ?_) rfl (by kernel_rfl) (by kernel_rfl) (by kernel_rfl) (fun c a w h => HP c a _ _ w h) (Or.inl ⟨by kernel_rfl, ?_⟩) ?_
      rotate_left 1
      · intro w
        go_simp
        try with_reducible rfl
      try simp only [Act.put, List.setIfInBounds_toArray, List.set_cons_zero, List.set_cons_succ]
      refine wpAny_ready (rs := [23]) (by kernel_rfl) (by simp) ?_
      refine AllReady.cons rfl (fun K hK => ?_) AllReady.nil
      go_simp
      refine hK _ _ ?_
      clear hK K
      try simp only [Act.put, List.setIfInBounds_toArray, List.set_cons_zero, List.set_cons_succ]
      refine wpAny_done (by kernel_rfl) ?_ _
      exact HQ.out false (fun q => by cases q) _ _ _ _ _ _ _ _ _ _ _ _ _ _ _ _ _ _ _ _ _ _ _ rfl
  have d15 : decide ((rs.size : Int) ≤ 15) = true := by rw [decide_eq_true_eq]; exact h15
  by_cases h4 : (4 : Int) ≤ (rs.size : Int)
  case neg =>
    have HNS : Aside (Lib.hasPrefix R [115, 110, 97, 110] = false) := ⟨has_short (by have := HRR.out; simp; omega)⟩
    have d4 : decide ((4 : Int) ≤ (rs.size : Int)) = false := by rw [decide_eq_false_iff_not]; exact h4
    clear h4
    refine wp_region_any (by kernel_rfl) ?_
    change wpAny _ _ _ _ _ _ _ (World.drew _)
    refine wpAny_take (i := 0) (v := ?_) rfl (by kernel_rfl) (by kernel_rfl) (by kernel_rfl) (fun c a w h => HP c a _ _ w h) (Or.inl ⟨by kernel_rfl, ?_⟩) ?_
    rotate_left 1
    · intro w
      go_simp
      try with_reducible rfl
    try simp only [Act.put, List.setIfInBounds_toArray, List.set_cons_zero, List.set_cons_succ]
    refine wpAny_take (i := 2) (v := ?_) rfl (by kernel_rfl) (by kernel_rfl) (by kernel_rfl) (fun c a w h => HP c a _ _ w h) (Or.inl ⟨by kernel_rfl, ?_⟩) ?_
    rotate_left 1
    · intro w
      go_simp
      try with_reducible rfl
    try simp only [Act.put, List.setIfInBounds_toArray, List.set_cons_zero, List.set_cons_succ]
    refine wpAny_ready (rs := [1, 3]) (by kernel_rfl) (by simp) ?_
    refine AllReady.cons rfl (fun K hK => ?_) (AllReady.cons rfl (fun K hK => ?_) AllReady.nil)
    · go_simp
      go_must (refine (hO.out _).mono ?_; rintro e1 w' ⟨rfl, rfl⟩)
      refine hK _ _ ?_
      clear hK K
      try simp only [Act.put, List.setIfInBounds_toArray, List.set_cons_zero, List.set_cons_succ]
      refine wpAny_ready (rs := [3]) (by kernel_rfl) (by simp) ?_
      refine AllReady.cons rfl (fun K hK => ?_) AllReady.nil
      go_simp
      refine hK _ _ ?_
      clear hK K
      try simp only [Act.put, List.setIfInBounds_toArray, List.set_cons_zero, List.set_cons_succ]
      refine wpAny_take (i := 4) (v := ?_) rfl (by kernel_rfl) (by kernel_rfl) (by kernel_rfl) (fun c a w h => HP c a _ _ w h) (Or.inl ⟨by kernel_rfl, ?_⟩) ?_
      rotate_left 1
      · intro w
        go_simp
        try with_reducible rfl
      try simp only [Act.put, List.setIfInBounds_toArray, List.set_cons_zero, List.set_cons_succ]
      refine wpAny_take (i := 5) (v := ?_) rfl (by kernel_rfl) (by kernel_rfl) (by kernel_rfl) (fun c a w h => HP c a _ _ w h) (Or.inl ⟨by kernel_rfl, ?_⟩) ?_
      rotate_left 1
      · intro w
        go_simp
        try with_reducible rfl
      try simp only [Act.put, List.setIfInBounds_toArray, List.set_cons_zero, List.set_cons_succ]
      refine wpAny_take (i := 6) (v := ?_) rfl (by kernel_rfl) (by kernel_rfl) (by kernel_rfl) (fun c a w h => HP c a _ _ w h) (Or.inl ⟨by kernel_rfl, ?_⟩) ?_
      rotate_left 1
      · intro w
        go_simp
        try with_reducible rfl
      try simp only [Act.put, List.setIfInBounds_toArray, List.set_cons_zero, List.set_cons_succ]
      refine wpAny_take (i := 7) (v := ?_) rfl (by kernel_rfl) (by kernel_rfl) (by kernel_rfl) (fun c a w h => HP c a _ _ w h) (Or.inl ⟨by kernel_rfl, ?_⟩) ?_
      rotate_left 1
      · intro w
        go_simp
        try with_reducible rfl
      try simp only [Act.put, List.setIfInBounds_toArray, List.set_cons_zero, List.set_cons_succ]
      refine wpAny_take (i := 8) (v := ?_) rfl (by kernel_rfl) (by kernel_rfl) (by kernel_rfl) (fun c a w h => HP c a _ _ w h) (Or.inl ⟨by kernel_rfl, ?_⟩) ?_
      rotate_left 1
      · intro w
        go_simp
        try with_reducible rfl
      try simp only [Act.put, List.setIfInBounds_toArray, List.set_cons_zero, List.set_cons_succ]
      refine wpAny_take (i := 9) (v := ?_) rfl (by kernel_rfl) (by kernel_rfl) (by kernel_rfl) (fun c a w h => HP c a _ _ w h) (Or.inl ⟨by kernel_rfl, ?_⟩) ?_
      rotate_left 1
      · intro w
        go_simp
        try with_reducible rfl
      try simp only [Act.put, List.setIfInBounds_toArray, List.set_cons_zero, List.set_cons_succ]
      refine wpAny_take (i := 10) (v := ?_) rfl (by kernel_rfl) (by kernel_rfl) (by kernel_rfl) (fun c a w h => HP c a _ _ w h) (Or.inl ⟨by kernel_rfl, ?_⟩) ?_
      rotate_left 1
      · intro w
        go_simp
        try with_reducible rfl
      try simp only [Act.put, List.setIfInBounds_toArray, List.set_cons_zero, List.set_cons_succ]
      refine wpAny_take (i := 11) (v := ?_) rfl (by kernel_rfl) (by kernel_rfl) (by kernel_rfl) (fun c a w h => HP c a _ _ w h) (Or.inl ⟨by kernel_rfl, ?_⟩) ?_
      rotate_left 1
      · intro w
        go_simp
        try with_reducible rfl
      try simp only [Act.put, List.setIfInBounds_toArray, List.set_cons_zero, List.set_cons_succ]
      refine wpAny_take (i := 12) (v := ?_) rfl (by kernel_rfl) (by kernel_rfl) (by kernel_rfl) (fun c a w h => HP c a _ _ w h) (Or.inl ⟨by kernel_rfl, ?_⟩) ?_
      rotate_left 1
      · intro w
        go_simp
        try with_reducible rfl
      try simp only [Act.put, List.setIfInBounds_toArray, List.set_cons_zero, List.set_cons_succ]
      refine wpAny_take (i := 13) (v := ?_) rfl (by kernel_rfl) (by kernel_rfl) (by kernel_rfl) (fun c a w h => HP c a _ _ w h) (Or.inl ⟨by kernel_rfl, ?_⟩) ?_
      rotate_left 1
      · intro w
        go_simp
        try with_reducible rfl
      try simp only [Act.put, List.setIfInBounds_toArray, List.set_cons_zero, List.set_cons_succ]
      refine wpAny_take (i := 14) (v := undef) rfl (by kernel_rfl) (by kernel_rfl) (by kernel_rfl) (fun c a w h => HP c a _ _ w h) (Or.inr ⟨by kernel_rfl, rfl⟩) ?_
      try simp only [Act.put, List.setIfInBounds_toArray, List.set_cons_zero, List.set_cons_succ]
      refine wpAny_take (i := 15) (v := undef) rfl (by kernel_rfl) (by kernel_rfl) (by kernel_rfl) (fun c a w h => HP c a _ _ w h) (Or.inr ⟨by kernel_rfl, rfl⟩) ?_
      try simp only [Act.put, List.setIfInBounds_toArray, List.set_cons_zero, List.set_cons_succ]
      refine wpAny_take (i := 16) (v := undef) rfl (by kernel_rfl) (by kernel_rfl) (by kernel_rfl) (fun c a w h => HP c a _ _ w h) (Or.inr ⟨by kernel_rfl, rfl⟩) ?_
      try simp only [Act.put, List.setIfInBounds_toArray, List.set_cons_zero, List.set_cons_succ]
      refine wpAny_take (i := 17) (v := ?_) rfl (by kernel_rfl) (by kernel_rfl) (by kernel_rfl) (fun c a w h => HP c a _ _ w h) (Or.inl ⟨by kernel_rfl, ?_⟩) ?_
      rotate_left 1
      · intro w
        go_simp
        try with_reducible rfl
      try simp only [Act.put, List.setIfInBounds_toArray, List.set_cons_zero, List.set_cons_succ]
      refine wpAny_take (i := 18) (v := ?_) rfl (by kernel_rfl) (by kernel_rfl) (by kernel_rfl) (fun c a w h => HP c a _ _ w h) (Or.inl ⟨by kernel_rfl, ?_⟩) ?_
      rotate_left 1
      · intro w
        go_simp
        try with_reducible rfl
      try simp only [Act.put, List.setIfInBounds_toArray, List.set_cons_zero, List.set_cons_succ]
      refine wpAny_take (i := 19) (v := ?_) rfl (by kernel_rfl) (by kernel_rfl) (by kernel_rfl) (fun c a w h => HP c a _ _ w h) (Or.inl ⟨by kernel_rfl, ?_⟩) ?_
      rotate_left 1
      · intro w
        go_simp
        try with_reducible rfl
      try simp only [Act.put, List.setIfInBounds_toArray, List.set_cons_zero, List.set_cons_succ]
      refine wpAny_take (i := 20) (v := ?_) rfl (by kernel_rfl) (by kernel_rfl) (by kernel_rfl) (fun c a w h => HP c a _ _ w h) (Or.inl ⟨by kernel_rfl, ?_⟩) ?_
      rotate_left 1
      · intro w
        go_simp
        try with_reducible rfl
      try simp only [Act.put, List.setIfInBounds_toArray, List.set_cons_zero, List.set_cons_succ]
      refine wpAny_ready (rs := [21]) (by kernel_rfl) (by simp) ?_
      refine AllReady.cons rfl (fun K hK => ?_) AllReady.nil
      go_simp
      refine hK _ _ ?_
      clear hK K
      try simp only [Act.put, List.setIfInBounds_toArray, List.set_cons_zero, List.set_cons_succ]
      refine wpAny_take (i := 22) (v := ?_) rfl (by kernel_rfl) (by kernel_rfl) (by kernel_rfl) (fun c a w h => HP c a _ _ w h) (Or.inl ⟨by kernel_rfl, ?_⟩) ?_
      rotate_left 1
      · intro w
        go_simp
        try with_reducible rfl
      try simp only [Act.put, List.setIfInBounds_toArray, List.set_cons_zero, List.set_cons_succ]
      refine wpAny_ready (rs := [23]) (by kernel_rfl) (by simp) ?_
      refine AllReady.cons rfl (fun K hK => ?_) AllReady.nil
      go_simp
      refine hK _ _ ?_
      clear hK K
      try simp only [Act.put, List.setIfInBounds_toArray, List.set_cons_zero, List.set_cons_succ]
      refine wpAny_done (by kernel_rfl) ?_ _
      exact HQ.out true (fun _ => ⟨rfl, by have := HRR.out; omega, HNS.out⟩) _ _ _ _ _ _ _ _ _ _ _ _ _ _ _ _ _ _ _ _ _ _ _ rfl
    · go_simp
      refine hK _ _ ?_
      clear hK K
      try simp only [Act.put, List.setIfInBounds_toArray, List.set_cons_zero, List.set_cons_succ]
      refine wpAny_ready (rs := [1]) (by kernel_rfl) (by simp) ?_
      refine AllReady.cons rfl (fun K hK => ?_) AllReady.nil
      go_simp
      go_must (refine (hO.out _).mono ?_; rintro e1 w' ⟨rfl, rfl⟩)
      refine hK _ _ ?_
      clear hK K
      try simp only [Act.put, List.setIfInBounds_toArray, List.set_cons_zero, List.set_cons_succ]
      refine wpAny_take (i := 4) (v := ?_) rfl (by kernel_rfl) (by kernel_rfl) (by kernel_rfl) (fun c a w h => HP c a _ _ w h) (Or.inl ⟨by kernel_rfl, ?_⟩) ?_
      rotate_left 1
      · intro w
        go_simp
        try with_reducible rfl
      try simp only [Act.put, List.setIfInBounds_toArray, List.set_cons_zero, List.set_cons_succ]
      refine wpAny_take (i := 5) (v := ?_) rfl (by kernel_rfl) (by kernel_rfl) (by kernel_rfl) (fun c a w h => HP c a _ _ w h) (Or.inl ⟨by kernel_rfl, ?_⟩) ?_
      rotate_left 1
      · intro w
        go_simp
        try with_reducible rfl
      try simp only [Act.put, List.setIfInBounds_toArray, List.set_cons_zero, List.set_cons_succ]
      refine wpAny_take (i := 6) (v := ?_) rfl (by kernel_rfl) (by kernel_rfl) (by kernel_rfl) (fun c a w h => HP c a _ _ w h) (Or.inl ⟨by kernel_rfl, ?_⟩) ?_
      rotate_left 1
      · intro w
        go_simp
        try with_reducible rfl
      try simp only [Act.put, List.setIfInBounds_toArray, List.set_cons_zero, List.set_cons_succ]
      refine wpAny_take (i := 7) (v := ?_) rfl (by kernel_rfl) (by kernel_rfl) (by kernel_rfl) (fun c a w h => HP c a _ _ w h) (Or.inl ⟨by kernel_rfl, ?_⟩) ?_
      rotate_left 1
      · intro w
        go_simp
        try with_reducible rfl
      try simp only [Act.put, List.setIfInBounds_toArray, List.set_cons_zero, List.set_cons_succ]
      refine wpAny_take (i := 8) (v := ?_) rfl (by kernel_rfl) (by kernel_rfl) (by kernel_rfl) (fun c a w h => HP c a _ _ w h) (Or.inl ⟨by kernel_rfl, ?_⟩) ?_
      rotate_left 1
      · intro w
        go_simp
        try with_reducible rfl
      try simp only [Act.put, List.setIfInBounds_toArray, List.set_cons_zero, List.set_cons_succ]
      refine wpAny_take (i := 9) (v := ?_) rfl (by kernel_rfl) (by kernel_rfl) (by kernel_rfl) (fun c a w h => HP c a _ _ w h) (Or.inl ⟨by kernel_rfl, ?_⟩) ?_
      rotate_left 1
      · intro w
        go_simp
        try with_reducible rfl
      try simp only [Act.put, List.setIfInBounds_toArray, List.set_cons_zero, List.set_cons_succ]
      refine wpAny_take (i := 10) (v := ?_) rfl (by kernel_rfl) (by kernel_rfl) (by kernel_rfl) (fun c a w h => HP c a _ _ w h) (Or.inl ⟨by kernel_rfl, ?_⟩) ?_
      rotate_left 1
      · intro w
        go_simp
        try with_reducible rfl
      try simp only [Act.put, List.setIfInBounds_toArray, List.set_cons_zero, List.set_cons_succ]
      refine wpAny_take (i := 11) (v := ?_) rfl (by kernel_rfl) (by kernel_rfl) (by kernel_rfl) (fun c a w h => HP c a _ _ w h) (Or.inl ⟨by kernel_rfl, ?_⟩) ?_
      rotate_left 1
      · intro w
        go_simp
        try with_reducible rfl
      try simp only [Act.put, List.setIfInBounds_toArray, List.set_cons_zero, List.set_cons_succ]
      refine wpAny_take (i := 12) (v := ?_) rfl (by kernel_rfl) (by kernel_rfl) (by kernel_rfl) (fun c a w h => HP c a _ _ w h) (Or.inl ⟨by kernel_rfl, ?_⟩) ?_
      rotate_left 1
      · intro w
        go_simp
        try with_reducible rfl
      try simp only [Act.put, List.setIfInBounds_toArray, List.set_cons_zero, List.set_cons_succ]
      refine wpAny_take (i := 13) (v := ?_) rfl (by kernel_rfl) (by kernel_rfl) (by kernel_rfl) (fun c a w h => HP c a _ _ w h) (Or.inl ⟨by kernel_rfl, ?_⟩) ?_
      rotate_left 1
      · intro w
        go_simp
        try with_reducible rfl
      try simp only [Act.put, List.setIfInBounds_toArray, List.set_cons_zero, List.set_cons_succ]
      refine wpAny_take (i := 14) (v := undef) rfl (by kernel_rfl) (by kernel_rfl) (by kernel_rfl) (fun c a w h => HP c a _ _ w h) (Or.inr ⟨by kernel_rfl, rfl⟩) ?_
      try simp only [Act.put, List.setIfInBounds_toArray, List.set_cons_zero, List.set_cons_succ]
      refine wpAny_take (i := 15) (v := undef) rfl (by kernel_rfl) (by kernel_rfl) (by kernel_rfl) (fun c a w h => HP c a _ _ w h) (Or.inr ⟨by kernel_rfl, rfl⟩) ?_
      try simp only [Act.put, List.setIfInBounds_toArray, List.set_cons_zero, List.set_cons_succ]
      refine wpAny_take (i := 16) (v := undef) rfl (by kernel_rfl) (by kernel_rfl) (by kernel_rfl) (fun c a w h => HP c a _ _ w h) (Or.inr ⟨by kernel_rfl, rfl⟩) ?_
      try simp only [Act.put, List.setIfInBounds_toArray, List.set_cons_zero, List.set_cons_succ]
      refine wpAny_take (i := 17) (v := ?_) rfl (by kernel_rfl) (by kernel_rfl) (by kernel_rfl) (fun c a w h => HP c a _ _ w h) (Or.inl ⟨by kernel_rfl, ?_⟩) ?_
      rotate_left 1
      · intro w
        go_simp
        try with_reducible rfl
      try simp only [Act.put, List.setIfInBounds_toArray, List.set_cons_zero, List.set_cons_succ]
      refine wpAny_take (i := 18) (v := ?_) rfl (by kernel_rfl) (by kernel_rfl) (by kernel_rfl) (fun c a w h => HP c a _ _ w h) (Or.inl ⟨by kernel_rfl, ?_⟩) ?_
      rotate_left 1
      · intro w
        go_simp
        try with_reducible rfl
      try simp only [Act.put, List.setIfInBounds_toArray, List.set_cons_zero, List.set_cons_succ]
      refine wpAny_take (i := 19) (v := ?_) rfl (by kernel_rfl) (by kernel_rfl) (by kernel_rfl) (fun c a w h => HP c a _ _ w h) (Or.inl ⟨by kernel_rfl, ?_⟩) ?_
      rotate_left 1
      · intro w
        go_simp
        try with_reducible rfl
      try simp only [Act.put, List.setIfInBounds_toArray, List.set_cons_zero, List.set_cons_succ]
      refine wpAny_take (i := 20) (v := ?_) rfl (by kernel_rfl) (by kernel_rfl) (by kernel_rfl) (fun c a w h => HP c a _ _ w h) (Or.inl ⟨by kernel_rfl, ?_⟩) ?_
      rotate_left 1
      · intro w
        go_simp
        try with_reducible rfl
      try simp only [Act.put, List.setIfInBounds_toArray, List.set_cons_zero, List.set_cons_succ]
      refine wpAny_ready (rs := [21]) (by kernel_rfl) (by simp) ?_
      refine AllReady.cons rfl (fun K hK => ?_) AllReady.nil
      go_simp
      refine hK _ _ ?_
      clear hK K
      try simp only [Act.put, List.setIfInBounds_toArray, List.set_cons_zero, List.set_cons_succ]
      refine wpAny_take (i := 22) (v := ?_) rfl (by kernel_rfl) (by kernel_rfl) (by kernel_rfl) (fun c a w h => HP c a _ _ w h) (Or.inl ⟨by kernel_rfl, ?_⟩) ?_
      rotate_left 1
      · intro w
        go_simp
        try with_reducible rfl
      try simp only [Act.put, List.setIfInBounds_toArray, List.set_cons_zero, List.set_cons_succ]
      refine wpAny_ready (rs := [23]) (by kernel_rfl) (by simp) ?_
      refine AllReady.cons rfl (fun K hK => ?_) AllReady.nil
      go_simp
      refine hK _ _ ?_
      clear hK K
      try simp only [Act.put, List.setIfInBounds_toArray, List.set_cons_zero, List.set_cons_succ]
      refine wpAny_done (by kernel_rfl) ?_ _
      exact HQ.out true (fun _ => ⟨rfl, by have := HRR.out; omega, HNS.out⟩) _ _ _ _ _ _ _ _ _ _ _ _ _ _ _ _ _ _ _ _ _ _ _ rfl
  have d4 : decide ((4 : Int) ≤ (rs.size : Int)) = true := by rw [decide_eq_true_eq]; exact h4
  cases hx4 : Lib.hasPrefix R [115, 110, 97, 110]
  case false =>
    have HNS := Aside.mk hx4
    have q4 : ((rs.extract 0 4).toList == [115, 110, 97, 110]) = false := by rw [ByteArray.toList_eq, beq_eq_false_iff_ne]; exact ext_no HRL.out hx4 (by simp)
    clear hx4
    refine wp_region_any (by kernel_rfl) ?_
    change wpAny _ _ _ _ _ _ _ (World.drew _)
    refine wpAny_take (i := 0) (v := ?_) rfl (by kernel_rfl) (by kernel_rfl) (by kernel_rfl) (fun c a w h => HP c a _ _ w h) (Or.inl ⟨by kernel_rfl, ?_⟩) ?_
    rotate_left 1
    · intro w
      go_simp
      try with_reducible rfl
    try simp only [Act.put, List.setIfInBounds_toArray, List.set_cons_zero, List.set_cons_succ]
    refine wpAny_take (i := 2) (v := ?_) rfl (by kernel_rfl) (by kernel_rfl) (by kernel_rfl) (fun c a w h => HP c a _ _ w h) (Or.inl ⟨by kernel_rfl, ?_⟩) ?_
    rotate_left 1
    · intro w
      go_simp
      try with_reducible rfl
    try simp only [Act.put, List.setIfInBounds_toArray, List.set_cons_zero, List.set_cons_succ]
    refine wpAny_ready (rs := [1, 3]) (by kernel_rfl) (by simp) ?_
    refine AllReady.cons rfl (fun K hK => ?_) (AllReady.cons rfl (fun K hK => ?_) AllReady.nil)
    · go_simp
      go_must (refine (hO.out _).mono ?_; rintro e1 w' ⟨rfl, rfl⟩)
      refine hK _ _ ?_
      clear hK K
      try simp only [Act.put, List.setIfInBounds_toArray, List.set_cons_zero, List.set_cons_succ]
      refine wpAny_ready (rs := [3]) (by kernel_rfl) (by simp) ?_
      refine AllReady.cons rfl (fun K hK => ?_) AllReady.nil
      go_simp
      refine hK _ _ ?_
      clear hK K
      try simp only [Act.put, List.setIfInBounds_toArray, List.set_cons_zero, List.set_cons_succ]
      refine wpAny_take (i := 4) (v := ?_) rfl (by kernel_rfl) (by kernel_rfl) (by kernel_rfl) (fun c a w h => HP c a _ _ w h) (Or.inl ⟨by kernel_rfl, ?_⟩) ?_
      rotate_left 1
      · intro w
        go_simp
        try with_reducible rfl
      try simp only [Act.put, List.setIfInBounds_toArray, List.set_cons_zero, List.set_cons_succ]
      refine wpAny_take (i := 5) (v := ?_) rfl (by kernel_rfl) (by kernel_rfl) (by kernel_rfl) (fun c a w h => HP c a _ _ w h) (Or.inl ⟨by kernel_rfl, ?_⟩) ?_
      rotate_left 1
      · intro w
        go_simp
        try with_reducible rfl
      try simp only [Act.put, List.setIfInBounds_toArray, List.set_cons_zero, List.set_cons_succ]
      refine wpAny_take (i := 6) (v := ?_) rfl (by kernel_rfl) (by kernel_rfl) (by kernel_rfl) (fun c a w h => HP c a _ _ w h) (Or.inl ⟨by kernel_rfl, ?_⟩) ?_
      rotate_left 1
      · intro w
        go_simp
        try with_reducible rfl
      try simp only [Act.put, List.setIfInBounds_toArray, List.set_cons_zero, List.set_cons_succ]
      refine wpAny_take (i := 7) (v := ?_) rfl (by kernel_rfl) (by kernel_rfl) (by kernel_rfl) (fun c a w h => HP c a _ _ w h) (Or.inl ⟨by kernel_rfl, ?_⟩) ?_
      rotate_left 1
      · intro w
        go_simp
        try with_reducible rfl
      try simp only [Act.put, List.setIfInBounds_toArray, List.set_cons_zero, List.set_cons_succ]
      refine wpAny_take (i := 8) (v := ?_) rfl (by kernel_rfl) (by kernel_rfl) (by kernel_rfl) (fun c a w h => HP c a _ _ w h) (Or.inl ⟨by kernel_rfl, ?_⟩) ?_
      rotate_left 1
      · intro w
        go_simp
        try with_reducible rfl
      try simp only [Act.put, List.setIfInBounds_toArray, List.set_cons_zero, List.set_cons_succ]
      refine wpAny_take (i := 9) (v := ?_) rfl (by kernel_rfl) (by kernel_rfl) (by kernel_rfl) (fun c a w h => HP c a _ _ w h) (Or.inl ⟨by kernel_rfl, ?_⟩) ?_
      rotate_left 1
      · intro w
        go_simp
        try with_reducible rfl
      try simp only [Act.put, List.setIfInBounds_toArray, List.set_cons_zero, List.set_cons_succ]
      refine wpAny_take (i := 10) (v := ?_) rfl (by kernel_rfl) (by kernel_rfl) (by kernel_rfl) (fun c a w h => HP c a _ _ w h) (Or.inl ⟨by kernel_rfl, ?_⟩) ?_
      rotate_left 1
      · intro w
        go_simp
        try with_reducible rfl
      try simp only [Act.put, List.setIfInBounds_toArray, List.set_cons_zero, List.set_cons_succ]
      refine wpAny_take (i := 11) (v := ?_) rfl (by kernel_rfl) (by kernel_rfl) (by kernel_rfl) (fun c a w h => HP c a _ _ w h) (Or.inl ⟨by kernel_rfl, ?_⟩) ?_
      rotate_left 1
      · intro w
        go_simp
        try with_reducible rfl
      try simp only [Act.put, List.setIfInBounds_toArray, List.set_cons_zero, List.set_cons_succ]
      refine wpAny_take (i := 12) (v := ?_) rfl (by kernel_rfl) (by kernel_rfl) (by kernel_rfl) (fun c a w h => HP c a _ _ w h) (Or.inl ⟨by kernel_rfl, ?_⟩) ?_
      rotate_left 1
      · intro w
        go_simp
        try with_reducible rfl
      try simp only [Act.put, List.setIfInBounds_toArray, List.set_cons_zero, List.set_cons_succ]
      refine wpAny_take (i := 13) (v := ?_) rfl (by kernel_rfl) (by kernel_rfl) (by kernel_rfl) (fun c a w h => HP c a _ _ w h) (Or.inl ⟨by kernel_rfl, ?_⟩) ?_
      rotate_left 1
      · intro w
        go_simp
        try with_reducible rfl
      try simp only [Act.put, List.setIfInBounds_toArray, List.set_cons_zero, List.set_cons_succ]
      refine wpAny_take (i := 14) (v := ?_) rfl (by kernel_rfl) (by kernel_rfl) (by kernel_rfl) (fun c a w h => HP c a _ _ w h) (Or.inl ⟨by kernel_rfl, ?_⟩) ?_
      rotate_left 1
      · intro w
        go_simp
        try with_reducible rfl
      try simp only [Act.put, List.setIfInBounds_toArray, List.set_cons_zero, List.set_cons_succ]
      refine wpAny_take (i := 15) (v := ?_) rfl (by kernel_rfl) (by kernel_rfl) (by kernel_rfl) (fun c a w h => HP c a _ _ w h) (Or.inl ⟨by kernel_rfl, ?_⟩) ?_
      rotate_left 1
      · intro w
        go_simp
        try with_reducible rfl
      try simp only [Act.put, List.setIfInBounds_toArray, List.set_cons_zero, List.set_cons_succ]
      refine wpAny_take (i := 16) (v := ?_) rfl (by kernel_rfl) (by kernel_rfl) (by kernel_rfl) (fun c a w h => HP c a _ _ w h) (Or.inl ⟨by kernel_rfl, ?_⟩) ?_
      rotate_left 1
      · intro w
        go_simp
        try with_reducible rfl
      try simp only [Act.put, List.setIfInBounds_toArray, List.set_cons_zero, List.set_cons_succ]
      refine wpAny_take (i := 17) (v := ?_) rfl (by kernel_rfl) (by kernel_rfl) (by kernel_rfl) (fun c a w h => HP c a _ _ w h) (Or.inl ⟨by kernel_rfl, ?_⟩) ?_
      rotate_left 1
      · intro w
        go_simp
        try with_reducible rfl
      try simp only [Act.put, List.setIfInBounds_toArray, List.set_cons_zero, List.set_cons_succ]
      refine wpAny_take (i := 18) (v := ?_) rfl (by kernel_rfl) (by kernel_rfl) (by kernel_rfl) (fun c a w h => HP c a _ _ w h) (Or.inl ⟨by kernel_rfl, ?_⟩) ?_
      rotate_left 1
      · intro w
        go_simp
        try with_reducible rfl
      try simp only [Act.put, List.setIfInBounds_toArray, List.set_cons_zero, List.set_cons_succ]
      refine wpAny_take (i := 19) (v := ?_) rfl (by kernel_rfl) (by kernel_rfl) (by kernel_rfl) (fun c a w h => HP c a _ _ w h) (Or.inl ⟨by kernel_rfl, ?_⟩) ?_
      rotate_left 1
      · intro w
        go_simp
        try with_reducible rfl
      try simp only [Act.put, List.setIfInBounds_toArray, List.set_cons_zero, List.set_cons_succ]
      refine wpAny_take (i := 20) (v := ?_) rfl (by kernel_rfl) (by kernel_rfl) (by kernel_rfl) (fun c a w h => HP c a _ _ w h) (Or.inl ⟨by kernel_rfl, ?_⟩) ?_
      rotate_left 1
      · intro w
        go_simp
        try with_reducible rfl
      try simp only [Act.put, List.setIfInBounds_toArray, List.set_cons_zero, List.set_cons_succ]
      refine wpAny_ready (rs := [21]) (by kernel_rfl) (by simp) ?_
      refine AllReady.cons rfl (fun K hK => ?_) AllReady.nil
      go_simp
      refine hK _ _ ?_
      clear hK K
      try simp only [Act.put, List.setIfInBounds_toArray, List.set_cons_zero, List.set_cons_succ]
      refine wpAny_take (i := 22) (v := ?_) rfl (by kernel_rfl) (by kernel_rfl) (by kernel_rfl) (fun c a w h => HP c a _ _ w h) (Or.inl ⟨by kernel_rfl, ?_⟩) ?_
      rotate_left 1
      · intro w
        go_simp
        try with_reducible rfl
      try simp only [Act.put, List.setIfInBounds_toArray, List.set_cons_zero, List.set_cons_succ]
      refine wpAny_ready (rs := [23]) (by kernel_rfl) (by simp) ?_
      refine AllReady.cons rfl (fun K hK => ?_) AllReady.nil
      go_simp
      refine hK _ _ ?_
      clear hK K
      try simp only [Act.put, List.setIfInBounds_toArray, List.set_cons_zero, List.set_cons_succ]
      refine wpAny_done (by kernel_rfl) ?_ _
      exact HQ.out true (fun _ => ⟨rfl, by have := HRR.out; omega, HNS.out⟩) _ _ _ _ _ _ _ _ _ _ _ _ _ _ _ _ _ _ _ _ _ _ _ rfl
    · go_simp
      refine hK _ _ ?_
      clear hK K
      try simp only [Act.put, List.setIfInBounds_toArray, List.set_cons_zero, List.set_cons_succ]
      refine wpAny_ready (rs := [1]) (by kernel_rfl) (by simp) ?_
      refine AllReady.cons rfl (fun K hK => ?_) AllReady.nil
      go_simp
      go_must (refine (hO.out _).mono ?_; rintro e1 w' ⟨rfl, rfl⟩)
      refine hK _ _ ?_
      clear hK K
      try simp only [Act.put, List.setIfInBounds_toArray, List.set_cons_zero, List.set_cons_succ]
      refine wpAny_take (i := 4) (v := ?_) rfl (by kernel_rfl) (by kernel_rfl) (by kernel_rfl) (fun c a w h => HP c a _ _ w h) (Or.inl ⟨by kernel_rfl, ?_⟩) ?_
      rotate_left 1
      · intro w
        go_simp
        try with_reducible rfl
      try simp only [Act.put, List.setIfInBounds_toArray, List.set_cons_zero, List.set_cons_succ]
      refine wpAny_take (i := 5) (v := ?_) rfl (by kernel_rfl) (by kernel_rfl) (by kernel_rfl) (fun c a w h => HP c a _ _ w h) (Or.inl ⟨by kernel_rfl, ?_⟩) ?_
      rotate_left 1
      · intro w
        go_simp
        try with_reducible rfl
      try simp only [Act.put, List.setIfInBounds_toArray, List.set_cons_zero, List.set_cons_succ]
      refine wpAny_take (i := 6) (v := ?_) rfl (by kernel_rfl) (by kernel_rfl) (by kernel_rfl) (fun c a w h => HP c a _ _ w h) (Or.inl ⟨by kernel_rfl, ?_⟩) ?_
      rotate_left 1
      · intro w
        go_simp
        try with_reducible rfl
      try simp only [Act.put, List.setIfInBounds_toArray, List.set_cons_zero, List.set_cons_succ]
      refine wpAny_take (i := 7) (v := ?_) rfl (by kernel_rfl) (by kernel_rfl) (by kernel_rfl) (fun c a w h => HP c a _ _ w h) (Or.inl ⟨by kernel_rfl, ?_⟩) ?_
      rotate_left 1
      · intro w
        go_simp
        try with_reducible rfl
      try simp only [Act.put, List.setIfInBounds_toArray, List.set_cons_zero, List.set_cons_succ]
      refine wpAny_take (i := 8) (v := ?_) rfl (by kernel_rfl) (by kernel_rfl) (by kernel_rfl) (fun c a w h => HP c a _ _ w h) (Or.inl ⟨by kernel_rfl, ?_⟩) ?_
      rotate_left 1
      · intro w
        go_simp
        try with_reducible rfl
      try simp only [Act.put, List.setIfInBounds_toArray, List.set_cons_zero, List.set_cons_succ]
      refine wpAny_take (i := 9) (v := ?_) rfl (by kernel_rfl) (by kernel_rfl) (by kernel_rfl) (fun c a w h => HP c a _ _ w h) (Or.inl ⟨by kernel_rfl, ?_⟩) ?_
      rotate_left 1
      · intro w
        go_simp
        try with_reducible rfl
      try simp only [Act.put, List.setIfInBounds_toArray, List.set_cons_zero, List.set_cons_succ]
      refine wpAny_take (i := 10) (v := ?_) rfl (by kernel_rfl) (by kernel_rfl) (by kernel_rfl) (fun c a w h => HP c a _ _ w h) (Or.inl ⟨by kernel_rfl, ?_⟩) ?_
      rotate_left 1
      · intro w
        go_simp
        try with_reducible rfl
      try simp only [Act.put, List.setIfInBounds_toArray, List.set_cons_zero, List.set_cons_succ]
      refine wpAny_take (i := 11) (v := ?_) rfl (by kernel_rfl) (by kernel_rfl) (by kernel_rfl) (fun c a w h => HP c a _ _ w h) (Or.inl ⟨by kernel_rfl, ?_⟩) ?_
      rotate_left 1
      · intro w
        go_simp
        try with_reducible rfl
      try simp only [Act.put, List.setIfInBounds_toArray, List.set_cons_zero, List.set_cons_succ]
      refine wpAny_take (i := 12) (v := ?_) rfl (by kernel_rfl) (by kernel_rfl) (by kernel_rfl) (fun c a w h => HP c a _ _ w h) (Or.inl ⟨by kernel_rfl, ?_⟩) ?_
      rotate_left 1
      · intro w
        go_simp
        try with_reducible rfl
      try simp only [Act.put, List.setIfInBounds_toArray, List.set_cons_zero, List.set_cons_succ]
      refine wpAny_take (i := 13) (v := ?_) rfl (by kernel_rfl) (by kernel_rfl) (by kernel_rfl) (fun c a w h => HP c a _ _ w h) (Or.inl ⟨by kernel_rfl, ?_⟩) ?_
      rotate_left 1
      · intro w
        go_simp
        try with_reducible rfl
      try simp only [Act.put, List.setIfInBounds_toArray, List.set_cons_zero, List.set_cons_succ]
      refine wpAny_take (i := 14) (v := ?_) rfl (by kernel_rfl) (by kernel_rfl) (by kernel_rfl) (fun c a w h => HP c a _ _ w h) (Or.inl ⟨by kernel_rfl, ?_⟩) ?_
      rotate_left 1
      · intro w
        go_simp
        try with_reducible rfl
      try simp only [Act.put, List.setIfInBounds_toArray, List.set_cons_zero, List.set_cons_succ]
      refine wpAny_take (i := 15) (v := ?_) rfl (by kernel_rfl) (by kernel_rfl) (by kernel_rfl) (fun c a w h => HP c a _ _ w h) (Or.inl ⟨by kernel_rfl, ?_⟩) ?_
      rotate_left 1
      · intro w
        go_simp
        try with_reducible rfl
      try simp only [Act.put, List.setIfInBounds_toArray, List.set_cons_zero, List.set_cons_succ]
      refine wpAny_take (i := 16) (v := ?_) rfl (by kernel_rfl) (by kernel_rfl) (by kernel_rfl) (fun c a w h => HP c a _ _ w h) (Or.inl ⟨by kernel_rfl, ?_⟩) ?_
      rotate_left 1
      · intro w
        go_simp
        try with_reducible rfl
      try simp only [Act.put, List.setIfInBounds_toArray, List.set_cons_zero, List.set_cons_succ]
      refine wpAny_take (i := 17) (v := ?_) rfl (by kernel_rfl) (by kernel_rfl) (by kernel_rfl) (fun c a w h => HP c a _ _ w h) (Or.inl ⟨by kernel_rfl, ?_⟩) ?_
      rotate_left 1
      · intro w
        go_simp
        try with_reducible rfl
      try simp only [Act.put, List.setIfInBounds_toArray, List.set_cons_zero, List.set_cons_succ]
      refine wpAny_take (i := 18) (v := ?_) rfl (by kernel_rfl) (by kernel_rfl) (by kernel_rfl) (fun c a w h => HP c a _ _ w h) (Or.inl ⟨by kernel_rfl, ?_⟩) ?_
      rotate_left 1
      · intro w
        go_simp
        try with_reducible rfl
      try simp only [Act.put, List.setIfInBounds_toArray, List.set_cons_zero, List.set_cons_succ]
      refine wpAny_take (i := 19) (v := ?_) rfl (by kernel_rfl) (by kernel_rfl) (by kernel_rfl) (fun c a w h => HP c a _ _ w h) (Or.inl ⟨by kernel_rfl, ?_⟩) ?_
      rotate_left 1
      · intro w
        go_simp
        try with_reducible rfl
      try simp only [Act.put, List.setIfInBounds_toArray, List.set_cons_zero, List.set_cons_succ]
      refine wpAny_take (i := 20) (v := ?_) rfl (by kernel_rfl) (by kernel_rfl) (by kernel_rfl) (fun c a w h => HP c a _ _ w h) (Or.inl ⟨by kernel_rfl, ?_⟩) ?_
      rotate_left 1
      · intro w
        go_simp
        try with_reducible rfl
      try simp only [Act.put, List.setIfInBounds_toArray, List.set_cons_zero, List.set_cons_succ]
      refine wpAny_ready (rs := [21]) (by kernel_rfl) (by simp) ?_
      refine AllReady.cons rfl (fun K hK => ?_) AllReady.nil
      go_simp
      refine hK _ _ ?_
      clear hK K
      try simp only [Act.put, List.setIfInBounds_toArray, List.set_cons_zero, List.set_cons_succ]
      refine wpAny_take (i := 22) (v := ?_) rfl (by kernel_rfl) (by kernel_rfl) (by kernel_rfl) (fun c a w h => HP c a _ _ w h) (Or.inl ⟨by kernel_rfl, ?_⟩) ?_
      rotate_left 1
      · intro w
        go_simp
        try with_reducible rfl
      try simp only [Act.put, List.setIfInBounds_toArray, List.set_cons_zero, List.set_cons_succ]
      refine wpAny_ready (rs := [23]) (by kernel_rfl) (by simp) ?_
      refine AllReady.cons rfl (fun K hK => ?_) AllReady.nil
      go_simp
      refine hK _ _ ?_
      clear hK K
      try simp only [Act.put, List.setIfInBounds_toArray, List.set_cons_zero, List.set_cons_succ]
      refine wpAny_done (by kernel_rfl) ?_ _
      exact HQ.out true (fun _ => ⟨rfl, by have := HRR.out; omega, HNS.out⟩) _ _ _ _ _ _ _ _ _ _ _ _ _ _ _ _ _ _ _ _ _ _ _ rfl
  case true =>
    have q4 : ((rs.extract 0 4).toList == [115, 110, 97, 110]) = true := by
      obtain ⟨R2, hR2⟩ := has_split (by simpa using hx4)
      rw [ByteArray.toList_eq, beq_iff_eq]
      exact ext_pre (l := [115, 110, 97, 110]) HRL.out (by rw [hR2])
    clear hx4
    refine wp_region_any (by kernel_rfl) ?_
    change wpAny _ _ _ _ _ _ _ (World.drew _)
    refine wpAny_take (i := 0) (v := ?_) rfl (by kernel_rfl) (by kernel_rfl) (by kernel_rfl) (fun c a w h => HP c a _ _ w h) (Or.inl ⟨by kernel_rfl, ?_⟩) ?_
    rotate_left 1
    · intro w
      go_simp
      try with_reducible rfl
    try simp only [Act.put, List.setIfInBounds_toArray, List.set_cons_zero, List.set_cons_succ]
    refine wpAny_take (i := 2) (v := ?_) rfl (by kernel_rfl) (by kernel_rfl) (by kernel_rfl) (fun c a w h => HP c a _ _ w h) (Or.inl ⟨by kernel_rfl, ?_⟩) ?_
    rotate_left 1
    · intro w
      go_simp
      try with_reducible rfl
    try simp only [Act.put, List.setIfInBounds_toArray, List.set_cons_zero, List.set_cons_succ]
    refine wpAny_ready (rs := [1, 3]) (by kernel_rfl) (by simp) ?_
    refine AllReady.cons rfl (fun K hK => ?_) (AllReady.cons rfl (fun K hK => ?_) AllReady.nil)
    · go_simp
      go_must (refine (hO.out _).mono ?_; rintro e1 w' ⟨rfl, rfl⟩)
      refine hK _ _ ?_
      clear hK K
      try simp only [Act.put, List.setIfInBounds_toArray, List.set_cons_zero, List.set_cons_succ]
      refine wpAny_ready (rs := [3]) (by kernel_rfl) (by simp) ?_
      refine AllReady.cons rfl (fun K hK => ?_) AllReady.nil
      go_simp
      refine hK _ _ ?_
      clear hK K
      try simp only [Act.put, List.setIfInBounds_toArray, List.set_cons_zero, List.set_cons_succ]
      refine wpAny_take (i := 4) (v := ?_) rfl (by kernel_rfl) (by kernel_rfl) (by kernel_rfl) (fun c a w h => HP c a _ _ w h) (Or.inl ⟨by kernel_rfl, ?_⟩) ?_
      rotate_left 1
      · intro w
        go_simp
        try with_reducible rfl
      try simp only [Act.put, List.setIfInBounds_toArray, List.set_cons_zero, List.set_cons_succ]
      refine wpAny_take (i := 5) (v := ?_) rfl (by kernel_rfl) (by kernel_rfl) (by kernel_rfl) (fun c a w h => HP c a _ _ w h) (Or.inl ⟨by kernel_rfl, ?_⟩) ?_
      rotate_left 1
      · intro w
        go_simp
        try with_reducible rfl
      try simp only [Act.put, List.setIfInBounds_toArray, List.set_cons_zero, List.set_cons_succ]
      refine wpAny_take (i := 6) (v := ?_) rfl (by kernel_rfl) (by kernel_rfl) (by kernel_rfl) (fun c a w h => HP c a _ _ w h) (Or.inl ⟨by kernel_rfl, ?_⟩) ?_
      rotate_left 1
      · intro w
        go_simp
        try with_reducible rfl
      try simp only [Act.put, List.setIfInBounds_toArray, List.set_cons_zero, List.set_cons_succ]
      refine wpAny_take (i := 7) (v := ?_) rfl (by kernel_rfl) (by kernel_rfl) (by kernel_rfl) (fun c a w h => HP c a _ _ w h) (Or.inl ⟨by kernel_rfl, ?_⟩) ?_
      rotate_left 1
      · intro w
        go_simp
        try with_reducible rfl
      try simp only [Act.put, List.setIfInBounds_toArray, List.set_cons_zero, List.set_cons_succ]
      refine wpAny_take (i := 8) (v := ?_) rfl (by kernel_rfl) (by kernel_rfl) (by kernel_rfl) (fun c a w h => HP c a _ _ w h) (Or.inl ⟨by kernel_rfl, ?_⟩) ?_
      rotate_left 1
      · intro w
        go_simp
        try with_reducible rfl
      try simp only [Act.put, List.setIfInBounds_toArray, List.set_cons_zero, List.set_cons_succ]
      refine wpAny_take (i := 9) (v := ?_) rfl (by kernel_rfl) (by kernel_rfl) (by kernel_rfl) (fun c a w h => HP c a _ _ w h) (Or.inl ⟨by kernel_rfl, ?_⟩) ?_
      rotate_left 1
      · intro w
        go_simp
        try with_reducible rfl
      try simp only [Act.put, List.setIfInBounds_toArray, List.set_cons_zero, List.set_cons_succ]
      refine wpAny_take (i := 10) (v := ?_) rfl (by kernel_rfl) (by kernel_rfl) (by kernel_rfl) (fun c a w h => HP c a _ _ w h) (Or.inl ⟨by kernel_rfl, ?_⟩) ?_
      rotate_left 1
      · intro w
        go_simp
        try with_reducible rfl
      try simp only [Act.put, List.setIfInBounds_toArray, List.set_cons_zero, List.set_cons_succ]
      refine wpAny_take (i := 11) (v := ?_) rfl (by kernel_rfl) (by kernel_rfl) (by kernel_rfl) (fun c a w h => HP c a _ _ w h) (Or.inl ⟨by kernel_rfl, ?_⟩) ?_
      rotate_left 1
      · intro w
        go_simp
        try with_reducible rfl
      try simp only [Act.put, List.setIfInBounds_toArray, List.set_cons_zero, List.set_cons_succ]
      refine wpAny_take (i := 12) (v := ?_) rfl (by kernel_rfl) (by kernel_rfl) (by kernel_rfl) (fun c a w h => HP c a _ _ w h) (Or.inl ⟨by kernel_rfl, ?_⟩) ?_
      rotate_left 1
      · intro w
        go_simp
        try with_reducible rfl
      try simp only [Act.put, List.setIfInBounds_toArray, List.set_cons_zero, List.set_cons_succ]
      refine wpAny_take (i := 13) (v := ?_) rfl (by kernel_rfl) (by kernel_rfl) (by kernel_rfl) (fun c a w h => HP c a _ _ w h) (Or.inl ⟨by kernel_rfl, ?_⟩) ?_
      rotate_left 1
      · intro w
        go_simp
        try with_reducible rfl
      try simp only [Act.put, List.setIfInBounds_toArray, List.set_cons_zero, List.set_cons_succ]
      refine wpAny_take (i := 14) (v := ?_) rfl (by kernel_rfl) (by kernel_rfl) (by kernel_rfl) (fun c a w h => HP c a _ _ w h) (Or.inl ⟨by kernel_rfl, ?_⟩) ?_
      rotate_left 1
      · intro w
        go_simp
        try with_reducible rfl
      try simp only [Act.put, List.setIfInBounds_toArray, List.set_cons_zero, List.set_cons_succ]
      refine wpAny_take (i := 15) (v := ?_) rfl (by kernel_rfl) (by kernel_rfl) (by kernel_rfl) (fun c a w h => HP c a _ _ w h) (Or.inl ⟨by kernel_rfl, ?_⟩) ?_
      rotate_left 1
      · intro w
        go_simp
        try with_reducible rfl
      try simp only [Act.put, List.setIfInBounds_toArray, List.set_cons_zero, List.set_cons_succ]
      refine wpAny_take (i := 16) (v := ?_) rfl (by kernel_rfl) (by kernel_rfl) (by kernel_rfl) (fun c a w h => HP c a _ _ w h) (Or.inl ⟨by kernel_rfl, ?_⟩) ?_
      rotate_left 1
      · intro w
        go_simp
        try with_reducible rfl
      try simp only [Act.put, List.setIfInBounds_toArray, List.set_cons_zero, List.set_cons_succ]
      refine wpAny_take (i := 17) (v := ?_) rfl (by kernel_rfl) (by kernel_rfl) (by kernel_rfl) (fun c a w h => HP c a _ _ w h) (Or.inl ⟨by kernel_rfl, ?_⟩) ?_
      rotate_left 1
      · intro w
        go_simp
        try with_reducible rfl
      try simp only [Act.put, List.setIfInBounds_toArray, List.set_cons_zero, List.set_cons_succ]
      refine wpAny_take (i := 18) (v := ?_) rfl (by kernel_rfl) (by kernel_rfl) (by kernel_rfl) (fun c a w h => HP c a _ _ w h) (Or.inl ⟨by kernel_rfl, ?_⟩) ?_
      rotate_left 1
      · intro w
        go_simp
        try with_reducible rfl
      try simp only [Act.put, List.setIfInBounds_toArray, List.set_cons_zero, List.set_cons_succ]
      refine wpAny_take (i := 19) (v := ?_) rfl (by kernel_rfl) (by kernel_rfl) (by kernel_rfl) (fun c a w h => HP c a _ _ w h) (Or.inl ⟨by kernel_rfl, ?_⟩) ?_
      rotate_left 1
      · intro w
        go_simp
        try with_reducible rfl
      try simp only [Act.put, List.setIfInBounds_toArray, List.set_cons_zero, List.set_cons_succ]
      refine wpAny_take (i := 20) (v := ?_) rfl (by kernel_rfl) (by kernel_rfl) (by kernel_rfl) (fun c a w h => HP c a _ _ w h) (Or.inl ⟨by kernel_rfl, ?_⟩) ?_
      rotate_left 1
      · intro w
        go_simp
        try with_reducible rfl
      try simp only [Act.put, List.setIfInBounds_toArray, List.set_cons_zero, List.set_cons_succ]
      refine wpAny_ready (rs := [21]) (by kernel_rfl) (by simp) ?_
      refine AllReady.cons rfl (fun K hK => ?_) AllReady.nil
      go_simp
      refine hK _ _ ?_
      clear hK K
      try simp only [Act.put, List.setIfInBounds_toArray, List.set_cons_zero, List.set_cons_succ]
      refine wpAny_take (i := 22) (v := ?_) rfl (by kernel_rfl) (by kernel_rfl) (by kernel_rfl) (fun c a w h => HP c a _ _ w h) (Or.inl ⟨by kernel_rfl, ?_⟩) ?_
      rotate_left 1
      · intro w
        go_simp
        try with_reducible rfl
      try simp only [Act.put, List.setIfInBounds_toArray, List.set_cons_zero, List.set_cons_succ]
      refine wpAny_ready (rs := [23]) (by kernel_rfl) (by simp) ?_
      refine AllReady.cons rfl (fun K hK => ?_) AllReady.nil
      go_simp
      refine hK _ _ ?_
      clear hK K
      try simp only [Act.put, List.setIfInBounds_toArray, List.set_cons_zero, List.set_cons_succ]
      refine wpAny_done (by kernel_rfl) ?_ _
      exact HQ.out false (fun q => by cases q) _ _ _ _ _ _ _ _ _ _ _ _ _ _ _ _ _ _ _ _ _ _ _ rfl
    · go_simp
      refine hK _ _ ?_
      clear hK K
      try simp only [Act.put, List.setIfInBounds_toArray, List.set_cons_zero, List.set_cons_succ]
      refine wpAny_ready (rs := [1]) (by kernel_rfl) (by simp) ?_
      refine AllReady.cons rfl (fun K hK => ?_) AllReady.nil
      go_simp
      go_must (refine (hO.out _).mono ?_; rintro e1 w' ⟨rfl, rfl⟩)
      refine hK _ _ ?_
      clear hK K
      try simp only [Act.put, List.setIfInBounds_toArray, List.set_cons_zero, List.set_cons_succ]
      refine wpAny_take (i := 4) (v := ?_) rfl (by kernel_rfl) (by kernel_rfl) (by kernel_rfl) (fun c a w h => HP c a _ _ w h) (Or.inl ⟨by kernel_rfl, ?_⟩) ?_
      rotate_left 1
      · intro w
        go_simp
        try with_reducible rfl
      try simp only [Act.put, List.setIfInBounds_toArray, List.set_cons_zero, List.set_cons_succ]
      refine wpAny_take (i := 5) (v := ?_) rfl (by kernel_rfl) (by kernel_rfl) (by kernel_rfl) (fun c a w h => HP c a _ _ w h) (Or.inl ⟨by kernel_rfl, ?_⟩) ?_
      rotate_left 1
      · intro w
        go_simp
        try with_reducible rfl
      try simp only [Act.put, List.setIfInBounds_toArray, List.set_cons_zero, List.set_cons_succ]
      refine wpAny_take (i := 6) (v := ?_) rfl (by kernel_rfl) (by kernel_rfl) (by kernel_rfl) (fun c a w h => HP c a _ _ w h) (Or.inl ⟨by kernel_rfl, ?_⟩) ?_
      rotate_left 1
      · intro w
        go_simp
        try with_reducible rfl
      try simp only [Act.put, List.setIfInBounds_toArray, List.set_cons_zero, List.set_cons_succ]
      refine wpAny_take (i := 7) (v := ?_) rfl (by kernel_rfl) (by kernel_rfl) (by kernel_rfl) (fun c a w h => HP c a _ _ w h) (Or.inl ⟨by kernel_rfl, ?_⟩) ?_
      rotate_left 1
      · intro w
        go_simp
        try with_reducible rfl
      try simp only [Act.put, List.setIfInBounds_toArray, List.set_cons_zero, List.set_cons_succ]
      refine wpAny_take (i := 8) (v := ?_) rfl (by kernel_rfl) (by kernel_rfl) (by kernel_rfl) (fun c a w h => HP c a _ _ w h) (Or.inl ⟨by kernel_rfl, ?_⟩) ?_
      rotate_left 1
      · intro w
        go_simp
        try with_reducible rfl
      try simp only [Act.put, List.setIfInBounds_toArray, List.set_cons_zero, List.set_cons_succ]
      refine wpAny_take (i := 9) (v := ?_) rfl (by kernel_rfl) (by kernel_rfl) (by kernel_rfl) (fun c a w h => HP c a _ _ w h) (Or.inl ⟨by kernel_rfl, ?_⟩) ?_
      rotate_left 1
      · intro w
        go_simp
        try with_reducible rfl
      try simp only [Act.put, List.setIfInBounds_toArray, List.set_cons_zero, List.set_cons_succ]
      refine wpAny_take (i := 10) (v := ?_) rfl (by kernel_rfl) (by kernel_rfl) (by kernel_rfl) (fun c a w h => HP c a _ _ w h) (Or.inl ⟨by kernel_rfl, ?_⟩) ?_
      rotate_left 1
      · intro w
        go_simp
        try with_reducible rfl
      try simp only [Act.put, List.setIfInBounds_toArray, List.set_cons_zero, List.set_cons_succ]
      refine wpAny_take (i := 11) (v := ?_) rfl (by kernel_rfl) (by kernel_rfl) (by kernel_rfl) (fun c a w h => HP c a _ _ w h) (Or.inl ⟨by kernel_rfl, ?_⟩) ?_
      rotate_left 1
      · intro w
        go_simp
        try with_reducible rfl
      try simp only [Act.put, List.setIfInBounds_toArray, List.set_cons_zero, List.set_cons_succ]
      refine wpAny_take (i := 12) (v := ?_) rfl (by kernel_rfl) (by kernel_rfl) (by kernel_rfl) (fun c a w h => HP c a _ _ w h) (Or.inl ⟨by kernel_rfl, ?_⟩) ?_
      rotate_left 1
      · intro w
        go_simp
        try with_reducible rfl
      try simp only [Act.put, List.setIfInBounds_toArray, List.set_cons_zero, List.set_cons_succ]
      refine wpAny_take (i := 13) (v := ?_) rfl (by kernel_rfl) (by kernel_rfl) (by kernel_rfl) (fun c a w h => HP c a _ _ w h) (Or.inl ⟨by kernel_rfl, ?_⟩) ?_
      rotate_left 1
      · intro w
        go_simp
        try with_reducible rfl
      try simp only [Act.put, List.setIfInBounds_toArray, List.set_cons_zero, List.set_cons_succ]
      refine wpAny_take (i := 14) (v := ?_) rfl (by kernel_rfl) (by kernel_rfl) (by kernel_rfl) (fun c a w h => HP c a _ _ w h) (Or.inl ⟨by kernel_rfl, ?_⟩) ?_
      rotate_left 1
      · intro w
        go_simp
        try with_reducible rfl
      try simp only [Act.put, List.setIfInBounds_toArray, List.set_cons_zero, List.set_cons_succ]
      refine wpAny_take (i := 15) (v := ?_) rfl (by kernel_rfl) (by kernel_rfl) (by kernel_rfl) (fun c a w h => HP c a _ _ w h) (Or.inl ⟨by kernel_rfl, ?_⟩) ?_
      rotate_left 1
      · intro w
        go_simp
        try with_reducible rfl
      try simp only [Act.put, List.setIfInBounds_toArray, List.set_cons_zero, List.set_cons_succ]
      refine wpAny_take (i := 16) (v := ?_) rfl (by kernel_rfl) (by kernel_rfl) (by kernel_rfl) (fun c a w h => HP c a _ _ w h) (Or.inl ⟨by kernel_rfl, ?_⟩) ?_
      rotate_left 1
      · intro w
        go_simp
        try with_reducible rfl
      try simp only [Act.put, List.setIfInBounds_toArray, List.set_cons_zero, List.set_cons_succ]
      refine wpAny_take (i := 17) (v := ?_) rfl (by kernel_rfl) (by kernel_rfl) (by kernel_rfl) (fun c a w h => HP c a _ _ w h) (Or.inl ⟨by kernel_rfl, ?_⟩) ?_
      rotate_left 1
      · intro w
        go_simp
        try with_reducible rfl
      try simp only [Act.put, List.setIfInBounds_toArray, List.set_cons_zero, List.set_cons_succ]
      refine wpAny_take (i := 18) (v := ?_) rfl (by kernel_rfl) (by kernel_rfl) (by kernel_rfl) (fun c a w h => HP c a _ _ w h) (Or.inl ⟨by kernel_rfl, ?_⟩) ?_
      rotate_left 1
      · intro w
        go_simp
        try with_reducible rfl
      try simp only [Act.put, List.setIfInBounds_toArray, List.set_cons_zero, List.set_cons_succ]
      refine wpAny_take (i := 19) (v := ?_) rfl (by kernel_rfl) (by kernel_rfl) (by kernel_rfl) (fun c a w h => HP c a _ _ w h) (Or.inl ⟨by kernel_rfl, ?_⟩) ?_
      rotate_left 1
      · intro w
        go_simp
        try with_reducible rfl
      try simp only [Act.put, List.setIfInBounds_toArray, List.set_cons_zero, List.set_cons_succ]
      refine wpAny_take (i := 20) (v := ?_) rfl (by kernel_rfl) (by kernel_rfl) (by kernel_rfl) (fun c a w h => HP c a _ _ w h) (Or.inl ⟨by kernel_rfl, ?_⟩) ?_
      rotate_left 1
      · intro w
        go_simp
        try with_reducible rfl
      try simp only [Act.put, List.setIfInBounds_toArray, List.set_cons_zero, List.set_cons_succ]
      refine wpAny_ready (rs := [21]) (by kernel_rfl) (by simp) ?_
      refine AllReady.cons rfl (fun K hK => ?_) AllReady.nil
      go_simp
      refine hK _ _ ?_
      clear hK K
      try simp only [Act.put, List.setIfInBounds_toArray, List.set_cons_zero, List.set_cons_succ]
      refine wpAny_take (i := 22) (v := ?_) rfl (by kernel_rfl) (by kernel_rfl) (by kernel_rfl) (fun c a w h => HP c a _ _ w h) (Or.inl ⟨by kernel_rfl, ?_⟩) ?_
      rotate_left 1
      · intro w
        go_simp
        try with_reducible rfl
      try simp only [Act.put, List.setIfInBounds_toArray, List.set_cons_zero, List.set_cons_succ]
      refine wpAny_ready (rs := [23]) (by kernel_rfl) (by simp) ?_
      refine AllReady.cons rfl (fun K hK => ?_) AllReady.nil
      go_simp
      refine hK _ _ ?_
      clear hK K
      try simp only [Act.put, List.setIfInBounds_toArray, List.set_cons_zero, List.set_cons_succ]
      refine wpAny_done (by kernel_rfl) ?_ _
      exact HQ.out false (fun q => by cases q) _ _ _ _ _ _ _ _ _ _ _ _ _ _ _ _ _ _ _ _ _ _ _ rfl
end Go.Proofs.YtifkpcijheabhaaGreatDoor
