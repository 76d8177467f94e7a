/- What stands behind an e, in spec.Parse. The search for the point, in spec.Parse. -/
import Derived.Test.YtifkpcijheabhaaGreatDoorQ47SpR19
import Derived.Deep.CutBlock
import Derived.Deep.DeepCutAuto
set_option linter.unusedSimpArgs false
set_option linter.unusedVariables false
namespace Go.Proofs.YtifkpcijheabhaaGreatDoor
open Go.RowKit

/-- Where the sign stands. -/
theorem sign_of (t0 : ByteArray) {ng : Bool} {u : List UInt8} (h : sgnR t0.data.toList = (ng, u)) :
    (∃ hp : 0 < t0.size, t0.extract 1 t0.size = mk u ∧ ((ng = true ∧ ((t0[0]).toNat : Int) = 45) ∨ (ng = false ∧ ((t0[0]).toNat : Int) = 43))) ∨
    (t0 = mk u ∧ ng = false ∧ (t0.size = 0 ∨ ∃ hp : 0 < t0.size, ((t0[0]).toNat : Int) ≠ 45 ∧ ((t0[0]).toNat : Int) ≠ 43)) := by
  have hsl : t0.data.toList.length = t0.size := rfl
  have hx : ∀ hp : 0 < t0.size, t0[0] = t0.data.toList[0]'hp := fun hp => rfl
  have hex : ∀ c r, t0.data.toList = c :: r → t0.extract 1 t0.size = mk r := fun c r k => by
    have e : t0 = mk (c :: r) := by rw [← k]; exact mk_of t0
    rw [e]; exact tail_extract c r
  match hl : t0.data.toList with
  | [] =>
    rw [hl] at h
    cases h
    exact .inr ⟨by rw [← hl]; exact mk_of t0, rfl, .inl (by rw [← hsl, hl]; rfl)⟩
  | c :: v =>
    have hp : 0 < t0.size := by rw [← hsl, hl]; simp
    have h0 : t0[0] = c := by rw [hx hp]; simp [hl]
    rw [hl] at h
    unfold sgnR at h
    by_cases h45 : c.toNat = 45
    · simp only [h45, if_true] at h
      cases h
      exact .inl ⟨hp, hex c _ hl, .inl ⟨rfl, by rw [h0]; omega⟩⟩
    · by_cases h43 : c.toNat = 43
      · simp only [h43] at h
        cases h
        exact .inl ⟨hp, hex c _ hl, .inr ⟨rfl, by rw [h0]; omega⟩⟩
      · simp only [h45, h43, if_false] at h
        cases h
        exact .inr ⟨by rw [← hl]; exact mk_of t0, rfl, .inr ⟨hp, by rw [h0]; omega, by rw [h0]; omega⟩⟩
theorem sgnR_le (l : List UInt8) : (sgnR l).2.length ≤ l.length := by
  rcases sgnR_cases l with ⟨r, h, k⟩ | ⟨r, h, k⟩ | ⟨k, _, _⟩
  · rw [k, h]; simp
  · rw [k, h]; simp
  · rw [k]; exact Nat.le_refl _
theorem mk_app2 (l m : List UInt8) : mk (l ++ m) = mk l ++ mk m := by
  apply ByteArray.ext
  simp [mk]
theorem sgn_exp (l : List UInt8) : sgnR l = expR l := by cases l <;> rfl
theorem numOf_take_le (l : List UInt8) (i : Nat) : numOf (l.take i) ≤ numOf l := by
  have h : numOf l = numOf (l.take i ++ l.drop i) := by rw [List.take_append_drop]
  rw [h]
  unfold numOf
  rw [List.foldl_append]
  exact fold_ge _ _
/-- A post by its two ways. -/
def QF (N R : Act → World → Prop) : Exit → Act → World → Prop
  | .normal, a, w => N a w
  | .ret, a, w => R a w
  | _, _, _ => False
theorem wp_QF {P : Program} {c : Code} {Q : Exit → Act → World → Prop} {a : Act} {w : World} (h : c.wp P (QF (Q .normal) (Q .ret)) a w) : c.wp P Q a w :=
  Code.wp_mono (fun e a w k => by cases e <;> first | exact k | exact (k : False).elim) h
/-- The condition on that temporary. -/
def condOf (n : Nat) : Code → Option Code
  | .cond (.tmp k) a b => if k == n then some (.cond (.tmp k) a b) else match condOf n a with
    | some c => some c
    | none => condOf n b
  | .cond _ a b => match condOf n a with
    | some c => some c
    | none => condOf n b
  | .seq a b => match condOf n a with
    | some c => some c
    | none => condOf n b
  | .loop c => condOf n c
  | .block _ c => condOf n c
  | .scope c => condOf n c
  | _ => none
/-- Condition 128. -/
noncomputable def c128 : Code := ((Tryz.f7.body.bind (condOf 128)).getD .skip)
set_option maxRecDepth 100000 in
set_option maxHeartbeats 40000000 in
theorem secF {c : Code} (hc : c = c128) {w wr : World} {p rb : Nat} {u : List UInt8} {t : ByteArray} {ng sd x128 : Bool} {a : Int} (HRB : Aside (w.heap.size = rb)) (HTL : Aside (t.data.toList = u)) (hts : t.size ≤ 2147483647)
    (hP4 : Aside (PO w wr p 0 ng 0 ⟨#[48]⟩ false sd)) (ha1 : -1 ≤ a) (ha2 : a ≤ 2147483647) (hx : x128 = decide ((0 : Int) ≤ a)) (hcase : Aside ((a = -1 ∧ (101 : UInt8) ∉ u) ∨ ∃ m R, a = ((m.length : Nat) : Int) ∧ u = m ++ 101 :: R ∧ (101 : UInt8) ∉ m))
    (u1 u4 u5 u6 u7 u10 u11 u12 u13 u14 u15 u16 u17 u18 u19 u20 u21 u22 u23 u24 u25 u26 u27 u28 u29 u30 u31 u32 u33 u34 u35 u36 u37 u38 u39 u40 u41 u42 u43 u44 u45 u46 u47 u48 u49 u50 u51 u52 u53 u54 u55 u56 u57 u58 u59 u60 u61 u62 u63 u64 u65 u66 u67 u68 u69 u70 u71 u72 u73 u74 u75 u76 u77 u78 u79 u80 u81 u82 u83 u84 u85 u86 u87 u88 u89 u90 u91 u92 u93 u94 u95 u96 u97 u98 u99 u100 u101 u102 u103 u104 u105 u106 u107 u108 u109 u110 u111 u112 u113 u114 u115 u116 u117 u118 u119 u120 u121 u122 u123 u124 u125 u126 u127 u129 u130 u131 u132 u133 u134 u135 u136 u137 u138 u139 u140 u141 u142 u143 u144 u145 u146 u147 u148 u149 u150 u151 u152 u153 u154 u155 u156 u157 u158 u159 u160 u161 u162 u163 u164 u165 u166 u167 u168 u169 u170 u171 u172 u173 u174 u175 u176 u177 u178 u179 u180 u181 u182 u183 u184 u185 u186 u187 u188 u189 u190 u191 u192 u193 u194 u195 u196 u197 u198 u199 u200 u201 u202 u203 u204 u205 u206 u207 u208 u209 u210 u211 u212 u213 u214 u215 u216 u217 u218 u219 u220 u221 u222 u223 u224 u225 u226 : Value) (N R : Act → World → Prop)
    (HNO : Aside (∀ (mb : ByteArray) (ev : Int) (v11 v12 v13 v129 v130 v131 v132 v133 v134 v135 v136 v137 v138 v139 v140 v141 v142 v143 v144 v145 v146 v147 v148 v149 v150 v151 v152 v153 v154 v155 v156 v157 v158 v159 v160 v161 v162 v163 v164 v165 v166 v167 v168 v169 v170 v171 v172 v173 v174 v175 v176 v177 v178 v179 v180 v181 v182 v183 : Value) (w' : World) (_ : -9999 ≤ ev ∧ ev ≤ 9999 ∧ mb.size ≤ t.size ∧ Aside (∀ e s ok, ManR mb.data.toList ev e s ok → FinR u e s ok) ∧ Aside (PO w w' p 0 ng 0 ⟨#[48]⟩ false sd)), N ⟨#[.string mb, u1, .pointer (some ⟨rb, 0, none⟩), .pointer (some ⟨p, 0, none⟩), u4, u5, u6, u7, .int .i64 ev, .int .i64 a, u10, v11, v12, v13, u14, u15, u16, u17, u18, u19, u20, u21, u22, u23, u24, u25, u26, u27, u28, u29, u30, u31, u32, u33, u34, u35, u36, u37, u38, u39, u40, u41, u42, u43, u44, u45, u46, u47, u48, u49, u50, u51, u52, u53, u54, u55, u56, u57, u58, u59, u60, u61, u62, u63, u64, u65, u66, u67, u68, u69, u70, u71, u72, u73, u74, u75, u76, u77, u78, u79, u80, u81, u82, u83, u84, u85, u86, u87, u88, u89, u90, u91, u92, u93, u94, u95, u96, u97, u98, u99, u100, u101, u102, u103, u104, u105, u106, u107, u108, u109, u110, u111, u112, u113, u114, u115, u116, u117, u118, u119, u120, u121, u122, u123, u124, u125, u126, u127, .bool x128, v129, v130, v131, v132, v133, v134, v135, v136, v137, v138, v139, v140, v141, v142, v143, v144, v145, v146, v147, v148, v149, v150, v151, v152, v153, v154, v155, v156, v157, v158, v159, v160, v161, v162, v163, v164, v165, v166, v167, v168, v169, v170, v171, v172, v173, v174, v175, v176, v177, v178, v179, v180, v181, v182, v183, u184, u185, u186, u187, u188, u189, u190, u191, u192, u193, u194, u195, u196, u197, u198, u199, u200, u201, u202, u203, u204, u205, u206, u207, u208, u209, u210, u211, u212, u213, u214, u215, u216, u217, u218, u219, u220, u221, u222, u223, u224, u225, u226], []⟩ w'))
    (HR : Aside (∀ (sx : Bool) (v0 v8 v11 v12 v13 v129 v130 v131 v132 v133 v134 v135 v136 v137 v138 v139 v140 v141 v142 v143 v144 v145 v146 v147 v148 v149 v150 v151 v152 v153 v154 v155 v156 v157 v158 v159 v160 v161 v162 v163 v164 v165 v166 v167 v168 v169 v170 v171 v172 v173 v174 v175 v176 v177 v178 v179 v180 v181 v182 v183 : Value) (w' : World) (_ : sx = true → sd = true ∧ FinR u 0 ⟨#[48]⟩ false) (_ : Aside (PO w w' p 0 ng 0 ⟨#[48]⟩ false sx)),
      R ⟨#[v0, u1, .pointer (some ⟨rb, 0, none⟩), .pointer (some ⟨p, 0, none⟩), u4, u5, u6, u7, v8, .int .i64 a, u10, v11, v12, v13, u14, u15, u16, u17, u18, u19, u20, u21, u22, u23, u24, u25, u26, u27, u28, u29, u30, u31, u32, u33, u34, u35, u36, u37, u38, u39, u40, u41, u42, u43, u44, u45, u46, u47, u48, u49, u50, u51, u52, u53, u54, u55, u56, u57, u58, u59, u60, u61, u62, u63, u64, u65, u66, u67, u68, u69, u70, u71, u72, u73, u74, u75, u76, u77, u78, u79, u80, u81, u82, u83, u84, u85, u86, u87, u88, u89, u90, u91, u92, u93, u94, u95, u96, u97, u98, u99, u100, u101, u102, u103, u104, u105, u106, u107, u108, u109, u110, u111, u112, u113, u114, u115, u116, u117, u118, u119, u120, u121, u122, u123, u124, u125, u126, u127, .bool x128, v129, v130, v131, v132, v133, v134, v135, v136, v137, v138, v139, v140, v141, v142, v143, v144, v145, v146, v147, v148, v149, v150, v151, v152, v153, v154, v155, v156, v157, v158, v159, v160, v161, v162, v163, v164, v165, v166, v167, v168, v169, v170, v171, v172, v173, v174, v175, v176, v177, v178, v179, v180, v181, v182, v183, u184, u185, u186, u187, u188, u189, u190, u191, u192, u193, u194, u195, u196, u197, u198, u199, u200, u201, u202, u203, u204, u205, u206, u207, u208, u209, u210, u211, u212, u213, u214, u215, u216, u217, u218, u219, u220, u221, u222, u223, u224, u225, u226], []⟩ ((((((w'.setCell ⟨rb, 0, none⟩ (.int .i64 0)).setCell ⟨rb, 1, none⟩ (.bool ng)).setCell ⟨rb, 2, none⟩ (.int .i32 0)).setCell ⟨rb, 3, none⟩ (.string ⟨#[48]⟩)).setCell ⟨rb, 4, none⟩ (.bool false)).setCell ⟨rb, 5, none⟩ (.bool sx)))) :
    Code.wp Tryz.prog c (QF N R) ⟨#[.string t, u1, .pointer (some ⟨rb, 0, none⟩), .pointer (some ⟨p, 0, none⟩), u4, u5, u6, u7, .int .i64 0, .int .i64 a, u10, u11, u12, u13, u14, u15, u16, u17, u18, u19, u20, u21, u22, u23, u24, u25, u26, u27, u28, u29, u30, u31, u32, u33, u34, u35, u36, u37, u38, u39, u40, u41, u42, u43, u44, u45, u46, u47, u48, u49, u50, u51, u52, u53, u54, u55, u56, u57, u58, u59, u60, u61, u62, u63, u64, u65, u66, u67, u68, u69, u70, u71, u72, u73, u74, u75, u76, u77, u78, u79, u80, u81, u82, u83, u84, u85, u86, u87, u88, u89, u90, u91, u92, u93, u94, u95, u96, u97, u98, u99, u100, u101, u102, u103, u104, u105, u106, u107, u108, u109, u110, u111, u112, u113, u114, u115, u116, u117, u118, u119, u120, u121, u122, u123, u124, u125, u126, u127, .bool x128, u129, u130, u131, u132, u133, u134, u135, u136, u137, u138, u139, u140, u141, u142, u143, u144, u145, u146, u147, u148, u149, u150, u151, u152, u153, u154, u155, u156, u157, u158, u159, u160, u161, u162, u163, u164, u165, u166, u167, u168, u169, u170, u171, u172, u173, u174, u175, u176, u177, u178, u179, u180, u181, u182, u183, u184, u185, u186, u187, u188, u189, u190, u191, u192, u193, u194, u195, u196, u197, u198, u199, u200, u201, u202, u203, u204, u205, u206, u207, u208, u209, u210, u211, u212, u213, u214, u215, u216, u217, u218, u219, u220, u221, u222, u223, u224, u225, u226], []⟩ wr := by
  subst hc
  conv => arg 2; whnf
  subst hx
  rcases hcase.out with ⟨ha, hno⟩ | ⟨m, R, ha, hu, hm⟩
  · have hno := Aside.mk hno
    have q0 : ¬ (0 : Int) ≤ a := by omega
    clear ha hcase
    go_wp2_with fail
    exact HNO.out (t) (0) _ _ _ _ _ _ _ _ _ _ _ _ _ _ _ _ _ _ _ _ _ _ _ _ _ _ _ _ _ _ _ _ _ _ _ _ _ _ _ _ _ _ _ _ _ _ _ _ _ _ _ _ _ _ _ _ _ _ _ ⟨by omega, by omega, Nat.le_refl _, ⟨fun e s ok h => .inl ⟨hno.out, by rw [HTL.out] at h; exact h⟩⟩, hP4⟩
  · clear hcase
    have hsz : t.size = m.length + 1 + R.length := by
      have e1 : t.size = t.data.toList.length := rfl
      rw [e1, HTL.out, hu]; simp; omega
    obtain ⟨k, hk⟩ : ∃ k, m.length = k := ⟨_, rfl⟩
    obtain ⟨mb, hmb⟩ : ∃ mb, mk m = mb := ⟨_, rfl⟩
    obtain ⟨rs, hrs⟩ : ∃ rs, mk R = rs := ⟨_, rfl⟩
    have hmbl : mb.data.toList = m := by rw [← hmb, mk_toList]
    have hrsl : rs.data.toList = R := by rw [← hrs, mk_toList]
    have hx0 : t.extract 0 k = mb := by
      have := ext_pre (l := m) HTL.out hu
      rw [hk] at this
      rw [← hmb, ← this]
      exact mk_of _
    have hx1 : t.extract (k + 1) t.size = rs := by rw [← hrs]; exact ext_post (l := m ++ [101]) HTL.out (by rw [hu]; simp) (by simp [hk])
    have hk1 : (k : Int) + 1 ≤ (t.size : Int) := by omega
    have hk2 : k + 1 ≤ t.size := by omega
    have hk3 : (k : Int) ≤ (t.size : Int) := by omega
    have hmbs : mb.size ≤ t.size := by rw [← hx0, ByteArray.size_extract]; omega
    have hrss : rs.size ≤ 2147483647 := by rw [← hx1, ByteArray.size_extract]; omega
    obtain ⟨eg, heg⟩ : ∃ eg, (expR R).1 = eg := ⟨_, rfl⟩
    obtain ⟨ru, hru⟩ : ∃ ru, (expR R).2 = ru := ⟨_, rfl⟩
    have hsg := sign_of rs (ng := eg) (u := ru) (by rw [hrsl, ← heg, ← hru]; exact sgn_exp R)
    obtain ⟨er, her⟩ : ∃ er, mk ru = er := ⟨_, rfl⟩
    have herl : er.data.toList = ru := by rw [← her, mk_toList]
    rw [her] at hsg
    have hers : er.size ≤ 2147483647 := by
      rcases hsg with ⟨hp, h1, _⟩ | ⟨h1, _⟩
      · rw [← h1, ByteArray.size_extract]; omega
      · rw [← h1]; exact hrss
    have HMU := Aside.mk (And.intro hu hm)
    have HEX := Aside.mk (And.intro heg hru)
    have HMB := Aside.mk hmbl
    have HER := Aside.mk herl
    have HSR := Aside.mk hsg
    rw [hk] at ha
    obtain ⟨s2, hs2⟩ : ∃ s2 : Bool, (s2 = true ↔ ∃ hp : 0 < rs.size, rs.extract 1 rs.size = er ∧ ((eg = true ∧ ((rs[0]).toNat : Int) = 45) ∨ (eg = false ∧ ((rs[0]).toNat : Int) = 43))) := by
      by_cases q : ∃ hp : 0 < rs.size, rs.extract 1 rs.size = er ∧ ((eg = true ∧ ((rs[0]).toNat : Int) = 45) ∨ (eg = false ∧ ((rs[0]).toNat : Int) = 43))
      · exact ⟨true, by simp [q]⟩
      · exact ⟨false, by simp [q]⟩
    have HS2 := Aside.mk hs2
    clear hs2 hsg hu hm hsz hk hmb hrs hmbl hrsl heg hru her herl
    subst ha
    clear ha1 ha2
    go_upto_region 35 with fail
    go_cut [147] from 136 to 146 (fun cv wr => cv = .bool s2 ∧ Aside (PO w wr p 0 ng 0 ⟨#[48]⟩ false sd))
    case first =>
      rcases HSR.out with ⟨hp, h1, ⟨h2, h3⟩ | ⟨h2, h3⟩⟩ | ⟨h1, h2, h3 | ⟨hp, h3, h4⟩⟩
      · have hs : s2 = true := HS2.out.2 ⟨hp, h1, .inl ⟨h2, h3⟩⟩
        have q0 : (rs.toList == []) = false := by rw [ByteArray.toList_eq, beq_eq_false_iff_ne]; intro k; have e1 : rs.size = rs.data.toList.length := rfl; rw [e1, k] at hp; simp at hp
        have q1 : (((rs[0]).toNat : Int) == 43) = false := by rw [beq_eq_false_iff_ne]; omega
        have q2 : (((rs[0]).toNat : Int) == 45) = true := by rw [beq_iff_eq]; omega
        clear h1 h3
        go_wp2_with fail
        go_meet
        exact ⟨by rw [hs], hP4⟩
      · have hs : s2 = true := HS2.out.2 ⟨hp, h1, .inr ⟨h2, h3⟩⟩
        have q0 : (rs.toList == []) = false := by rw [ByteArray.toList_eq, beq_eq_false_iff_ne]; intro k; have e1 : rs.size = rs.data.toList.length := rfl; rw [e1, k] at hp; simp at hp
        have q1 : (((rs[0]).toNat : Int) == 43) = true := by rw [beq_iff_eq]; omega
        clear h1 h3
        go_wp2_with fail
        go_meet
        exact ⟨by rw [hs], hP4⟩
      · have hs : s2 = false := by rw [Bool.eq_false_iff]; intro k; obtain ⟨hp, _⟩ := HS2.out.1 k; omega
        have q0 : (rs.toList == []) = true := by rw [ByteArray.toList_eq, beq_iff_eq]; exact List.eq_nil_of_length_eq_zero h3
        clear h1 h3
        go_wp2_with fail
        go_meet
        exact ⟨by rw [hs], hP4⟩
      · have hs : s2 = false := by
          rw [Bool.eq_false_iff]; intro k
          obtain ⟨_, _, ⟨_, q⟩ | ⟨_, q⟩⟩ := HS2.out.1 k
          · exact h3 q
          · exact h4 q
        have q0 : (rs.toList == []) = false := by rw [ByteArray.toList_eq, beq_eq_false_iff_ne]; intro k; have e1 : rs.size = rs.data.toList.length := rfl; rw [e1, k] at hp; simp at hp
        have q1 : (((rs[0]).toNat : Int) == 43) = false := by rw [beq_eq_false_iff_ne]; exact h4
        have q2 : (((rs[0]).toNat : Int) == 45) = false := by rw [beq_eq_false_iff_ne]; exact h3
        clear h1 h3 h4
        go_wp2_with fail
        go_meet
        exact ⟨by rw [hs], hP4⟩
    case rest =>
    obtain ⟨rfl, hP5⟩ := hcut
    clear hP4
    go_upto_if 147 with fail
    go_cut [11, 12] from 148 to 152 (fun rv nv wr => rv = .string er ∧ nv = .bool eg ∧ Aside (PO w wr p 0 ng 0 ⟨#[48]⟩ false sd))
    case first =>
      rcases HSR.out with ⟨hp, h1, hk⟩ | ⟨h1, h2, h3⟩
      · have hs : s2 = true := HS2.out.2 ⟨hp, h1, hk⟩
        subst hs
        have hle : (1 : Int) ≤ (rs.size : Int) := by omega
        rcases hk with ⟨h2, h3⟩ | ⟨h2, h3⟩
        · have q2 : (((rs[0]).toNat : Int) == 45) = true := by rw [beq_iff_eq]; omega
          clear h3
          go_wp2_with fail
          go_region_with (fail)
          go_wp2_with fail
          go_meet
          exact ⟨rfl, by rw [h2], ⟨hP5.out.new ((Fr.refl _ _).drew)⟩⟩
        · have q2 : (((rs[0]).toNat : Int) == 45) = false := by rw [beq_eq_false_iff_ne]; omega
          clear h3
          go_wp2_with fail
          go_region_with (fail)
          go_wp2_with fail
          go_meet
          exact ⟨rfl, by rw [h2], ⟨hP5.out.new ((Fr.refl _ _).drew)⟩⟩
      · have hs : s2 = false := by
          rw [Bool.eq_false_iff]; intro k
          obtain ⟨hp, hq, _⟩ := HS2.out.1 k
          have := congrArg ByteArray.size hq
          rw [ByteArray.size_extract, h1] at this
          have : 0 < er.size := by rw [← h1]; exact hp
          omega
        subst hs
        have h1A := Aside.mk h1
        clear h1 h3
        go_wp2_with fail
        go_meet
        exact ⟨by rw [h1A.out], by rw [h2], hP5⟩
    case rest =>
    obtain ⟨rfl, rfl, hP6⟩ := hcut
    clear hP5 HSR HS2
    obtain ⟨c0, c1, c2, c3, c4, c5, g0, g1, g2, g3, g4, g5⟩ := hP6.out.e6
    have hR := hP6.out.r6
    rw [HRB.out] at hR
    obtain ⟨v0, v1, v2, v3, v4, v5, r0, r1, r2, r3, r4, r5, f0, f1, f2, f3, f4, f5⟩ := hR
    have hne : ¬ p = rb := by have := hP6.out.hp; have := HRB.out; omega
    have hne' : ¬ rb = p := fun q => hne q.symm
    have hel : er.data.toList.length = er.size := rfl
    have heu : ru.length = er.size := by rw [← hel, HER.out]
    have HEU := Aside.mk heu
    by_cases he0 : er.size = 0
    · have qe : (er.toList == []) = true := by rw [ByteArray.toList_eq, beq_iff_eq]; exact List.eq_nil_of_length_eq_zero he0
      have HE0 : Aside (ru = []) := ⟨List.eq_nil_of_length_eq_zero (heu.trans he0)⟩
      clear he0 hel heu
      go_wp2_with fail
      exact HR.out sd _ _ _ _ _ _ _ _ _ _ _ _ _ _ _ _ _ _ _ _ _ _ _ _ _ _ _ _ _ _ _ _ _ _ _ _ _ _ _ _ _ _ _ _ _ _ _ _ _ _ _ _ _ _ _ _ _ _ _ _ _ (fun q => ⟨q, .inr ⟨m, R, HMU.out.2, HMU.out.1, .inl ⟨rfl, (fun k => k.1 (by rw [HEX.out.2]; exact HE0.out))⟩⟩⟩) hP6
    have qe : (er.toList == []) = false := by rw [ByteArray.toList_eq, beq_eq_false_iff_ne]; intro k; rw [k] at hel; exact he0 hel.symm
    have he1 : 0 < er.size := by omega
    clear he0 hel heu
    obtain ⟨N, hN⟩ : ∃ N, numOf ru = N := ⟨_, rfl⟩
    have HN := Aside.mk hN
    obtain ⟨bt, hbt⟩ : ∃ bt, mk (natText N) = bt := ⟨_, rfl⟩
    have hbs : bt.size = ndig N := by rw [← hbt, mk_size, natText_length]
    obtain ⟨dg, hdg⟩ : ∃ dg : Bool, (dg = true ↔ Digs ru) := by
      by_cases q : Digs ru
      · exact ⟨true, by simp [q]⟩
      · exact ⟨false, by simp [q]⟩
    have HDG := Aside.mk hdg
    have hO : Hid (∀ w1, Calls Tryz.prog 19 #[.string er] w1 fun e1 w' => e1 = .returned (.bool dg) ∧ w' = w1) := Lib.hid (fun w1 => by
      refine (only2_any (w := w1) hers).mono ?_
      rintro e1 w' ⟨rfl, ⟨rfl, q⟩ | ⟨rfl, q⟩⟩
      · rw [HER.out] at q
        have : dg = false := by rw [Bool.eq_false_iff]; intro k; exact q (HDG.out.1 k)
        exact ⟨by rw [this], rfl⟩
      · rw [HER.out] at q
        exact ⟨by rw [HDG.out.2 q], rfl⟩)
    have hB : Hid (∀ w1, Digs ru → Calls Tryz.prog 20 #[.string er] w1 fun e1 w' => e1 = .returned (.string bt) ∧ Aside (Fr (fun _ _ => False) w1 w')) := Lib.hid (fun w1 hd => by
      refine (bare_any (w := w1) (by rw [HER.out]; exact hd) he1 hers).mono ?_
      rintro e1 w' ⟨rfl, k⟩
      exact ⟨by rw [HER.out, HN.out, hbt], ⟨k⟩⟩)
    have HBS := Aside.mk hbs
    clear hdg hN hbt hbs
    cases dg
    case false =>
      go_wp2_with fail
      refine (hO.out _).mono ?_
      rintro e1 w' ⟨rfl, rfl⟩
      go_wp2_with fail
      exact HR.out sd _ _ _ _ _ _ _ _ _ _ _ _ _ _ _ _ _ _ _ _ _ _ _ _ _ _ _ _ _ _ _ _ _ _ _ _ _ _ _ _ _ _ _ _ _ _ _ _ _ _ _ _ _ _ _ _ _ _ _ _ _ (fun q => ⟨q, .inr ⟨m, R, HMU.out.2, HMU.out.1, .inl ⟨rfl, (fun k => by rw [HEX.out.2] at k; exact absurd (HDG.out.2 k.2) (by simp))⟩⟩⟩) hP6
    have HD : Aside (Digs ru) := ⟨HDG.out.1 rfl⟩
    go_wp2_with fail
    refine (hO.out _).mono ?_
    rintro e1 w' ⟨rfl, rfl⟩
    go_wp2_with fail
    refine (hB.out _ HD.out).mono ?_
    rintro e1 w7 ⟨rfl, k7⟩
    have hP7 := Aside.mk (hP6.out.new k7.out)
    clear hB hO hP6 k7 c0 c1 c2 c3 c4 c5 g0 g1 g2 g3 g4 g5 r0 r1 r2 r3 r4 r5 f0 f1 f2 f3 f4 f5 hne hne'
    by_cases h4 : (4 : Int) < (bt.size : Int)
    case pos =>
      obtain ⟨c0, c1, c2, c3, c4, c5, g0, g1, g2, g3, g4, g5⟩ := hP7.out.e6
      have hR := hP7.out.r6
      rw [HRB.out] at hR
      obtain ⟨v0, v1, v2, v3, v4, v5, r0, r1, r2, r3, r4, r5, f0, f1, f2, f3, f4, f5⟩ := hR
      have hne : ¬ p = rb := by have := hP7.out.hp; have := HRB.out; omega
      have hne' : ¬ rb = p := fun q => hne q.symm
      go_wp2_with fail
      exact HR.out false _ _ _ _ _ _ _ _ _ _ _ _ _ _ _ _ _ _ _ _ _ _ _ _ _ _ _ _ _ _ _ _ _ _ _ _ _ _ _ _ _ _ _ _ _ _ _ _ _ _ _ _ _ _ _ _ _ _ _ _ _ (fun q => by cases q) ⟨hP7.out.set5 false⟩
    have hN4 : N ≤ 9999 := by
      have h1 := lt_ndig N
      have h2 : ndig N ≤ 4 := by have := HBS.out; omega
      have h3 : 10 ^ ndig N ≤ 10 ^ 4 := Nat.pow_le_pow_right (by decide) h2
      omega
    go_wp2_with fail
    go_loopw [8, 13] (fun xv iv wr => ∃ i x : Nat, i ≤ er.size ∧ iv = .int .i64 i ∧ xv = .int .i64 x ∧ x ≤ 9999 ∧ Aside (x = numOf (ru.take i)) ∧ Aside (PO w wr p 0 ng 0 ⟨#[48]⟩ false sd)) (fun _ iv _ => ((er.size : Int) - intOf iv).toNat)
    case atStart => exact ⟨0, 0, Nat.zero_le _, rfl, rfl, by omega, ⟨by simp [numOf]⟩, hP7⟩
    case round =>
      obtain ⟨i, x, hi, rfl, rfl, hx9, hX, hP8⟩ := hrel
      clear hP7
      by_cases hlt : i < er.size
      · have hA : Aside (numOf (ru.take (i + 1)) = x * 10 + ((er[i]).toNat - 48) ∧ 48 ≤ (er[i]).toNat ∧ (er[i]).toNat ≤ 57) := ⟨by
          have hl : i < ru.length := by rw [HEU.out]; exact hlt
          have hei : ru[i] = er[i] := by
            have := HER.out
            subst this
            rfl
          have hd := HD.out _ (List.getElem_mem hl)
          rw [hei] at hd
          refine ⟨?_, hd⟩
          rw [List.take_succ_eq_append_getElem hl, numOf_snoc, hei, hX.out]⟩
        have hd1 : (48 : Int) ≤ ((er[i]).toNat : Int) := by have := hA.out.2.1; omega
        have hd2 : ((er[i]).toNat : Int) ≤ 57 := by have := hA.out.2.2; omega
        have hx10 : 10 * (x : Int) + (((er[i]).toNat : Int) - 48) ≤ 9999 := by
          have h1 := numOf_take_le ru (i + 1)
          rw [HN.out] at h1
          have := hA.out
          omega
        go_wp2_with fail
        go_roundw
        case rel => exact ⟨i + 1, x * 10 + ((er[i]).toNat - 48), by omega, by go_num, by rw [show (10 * (x : Int) + (((er[i]).toNat : Int) - 48)) = ((x * 10 + ((er[i]).toNat - 48) : Nat) : Int) from by omega], by omega, ⟨hA.out.1.symm⟩, hP8⟩
        case measure => simp [intOf]; omega
      · have hxN : Aside (x = N) := ⟨by rw [hX.out, List.take_of_length_le (by rw [HEU.out]; omega), HN.out]⟩
        have HV : Aside (∀ v : Int, v = expV R → ∀ e s ok, ManR mb.data.toList v e s ok → FinR u e s ok) := ⟨fun v hv e s ok h => .inr ⟨m, R, HMU.out.2, HMU.out.1, .inr ⟨by rw [HEX.out.2]; intro k; have := HEU.out; rw [k] at this; simp at this; omega, by rw [HEX.out.2]; exact HD.out, by rw [HEX.out.2, HN.out]; exact hN4, by rw [HMB.out, hv] at h; exact h⟩⟩⟩
        have HVX : Aside (expV R = if eg = true then -(x : Int) else (x : Int)) := ⟨by unfold expV; rw [HEX.out.1, HEX.out.2, HN.out, hxN.out]⟩
        cases eg
        · go_wp2_with fail
          exact HNO.out (mb) (x) _ _ _ _ _ _ _ _ _ _ _ _ _ _ _ _ _ _ _ _ _ _ _ _ _ _ _ _ _ _ _ _ _ _ _ _ _ _ _ _ _ _ _ _ _ _ _ _ _ _ _ _ _ _ _ _ _ _ _ ⟨by omega, by omega, hmbs, ⟨HV.out _ HVX.out.symm⟩, hP8⟩
        · go_wp2_with fail
          exact HNO.out (mb) (-(x : Int)) _ _ _ _ _ _ _ _ _ _ _ _ _ _ _ _ _ _ _ _ _ _ _ _ _ _ _ _ _ _ _ _ _ _ _ _ _ _ _ _ _ _ _ _ _ _ _ _ _ _ _ _ _ _ _ _ _ _ _ ⟨by omega, by omega, hmbs, ⟨HV.out _ HVX.out.symm⟩, hP8⟩
end Go.Proofs.YtifkpcijheabhaaGreatDoor
namespace Go.Proofs.YtifkpcijheabhaaGreatDoor
open Go.RowKit

/-- The block of that number. -/
def blockOf (n : Nat) : Code → Option Code
  | .block k a => if k == n then some (.block k a) else blockOf n a
  | .cond _ a b => match blockOf n a with
    | some c => some c
    | none => blockOf n b
  | .seq a b => match blockOf n a with
    | some c => some c
    | none => blockOf n b
  | .loop c => blockOf n c
  | .scope c => blockOf n c
  | _ => none
/-- Block 8. -/
noncomputable def b8 : Code := ((Tryz.f7.body.bind (blockOf 8)).getD .skip)
set_option maxRecDepth 100000 in
set_option maxHeartbeats 40000000 in
theorem secG {c : Code} (hc : c = b8) {w wr : World} {p rb : Nat} {ml : List UInt8} {mb : ByteArray} {ng sd : Bool} {ev : Int} (HRB : Aside (w.heap.size = rb)) (HML : Aside (mb.data.toList = ml)) (hmb2 : mb.size ≤ 2147483647) (he1 : -9999 ≤ ev) (he2 : ev ≤ 9999)
    (hP4 : Aside (PO w wr p 0 ng 0 ⟨#[48]⟩ false sd))
    (u1 u4 u5 u6 u7 u9 u10 u11 u12 u13 u15 u16 u17 u18 u19 u20 u21 u22 u23 u24 u25 u26 u27 u28 u29 u30 u31 u32 u33 u34 u35 u36 u37 u38 u39 u40 u41 u42 u43 u44 u45 u46 u47 u48 u49 u50 u51 u52 u53 u54 u55 u56 u57 u58 u59 u60 u61 u62 u63 u64 u65 u66 u67 u68 u69 u70 u71 u72 u73 u74 u75 u76 u77 u78 u79 u80 u81 u82 u83 u84 u85 u86 u87 u88 u89 u90 u91 u92 u93 u94 u95 u96 u97 u98 u99 u100 u101 u102 u103 u104 u105 u106 u107 u108 u109 u110 u111 u112 u113 u114 u115 u116 u117 u118 u119 u120 u121 u122 u123 u124 u125 u126 u127 u128 u129 u130 u131 u132 u133 u134 u135 u136 u137 u138 u139 u140 u141 u142 u143 u144 u145 u146 u147 u148 u149 u150 u151 u152 u153 u154 u155 u156 u157 u158 u159 u160 u161 u162 u163 u164 u165 u166 u167 u168 u169 u170 u171 u172 u173 u174 u175 u176 u177 u178 u179 u180 u181 u182 u183 u184 u185 u186 u187 u188 u189 u190 u191 u192 u193 u194 u195 u196 u197 u198 u199 u200 u201 u202 u203 u204 u205 u206 u207 u208 u209 u210 u211 u212 u213 u214 u215 u216 u217 u218 u219 u220 u221 u222 u223 u224 u225 u226 : Value) (N R : Act → World → Prop)
    (HNO : Aside (∀ (ab : ByteArray) (A B : List UInt8) (x : Int) (v14 v184 v185 v186 v187 v188 v189 v190 v191 v192 v193 v194 v195 v196 v197 v198 v199 v200 v201 v202 v203 v204 v205 v206 v207 v208 : Value) (w' : World) (_ : x = ev - ((B.length : Nat) : Int) ∧ ab.size ≤ mb.size ∧ B.length ≤ mb.size ∧ Aside (((46 : UInt8) ∉ ml ∧ A = ml ∧ B = []) ∨ (ml = A ++ 46 :: B ∧ (46 : UInt8) ∉ A)) ∧ Aside (ab.data.toList = A ++ B) ∧ Aside (PO w w' p 0 ng 0 ⟨#[48]⟩ false sd)), N ⟨#[.string ab, u1, .pointer (some ⟨rb, 0, none⟩), .pointer (some ⟨p, 0, none⟩), u4, u5, u6, u7, .int .i64 x, u9, u10, u11, u12, u13, v14, u15, u16, u17, u18, u19, u20, u21, u22, u23, u24, u25, u26, u27, u28, u29, u30, u31, u32, u33, u34, u35, u36, u37, u38, u39, u40, u41, u42, u43, u44, u45, u46, u47, u48, u49, u50, u51, u52, u53, u54, u55, u56, u57, u58, u59, u60, u61, u62, u63, u64, u65, u66, u67, u68, u69, u70, u71, u72, u73, u74, u75, u76, u77, u78, u79, u80, u81, u82, u83, u84, u85, u86, u87, u88, u89, u90, u91, u92, u93, u94, u95, u96, u97, u98, u99, u100, u101, u102, u103, u104, u105, u106, u107, u108, u109, u110, u111, u112, u113, u114, u115, u116, u117, u118, u119, u120, u121, u122, u123, u124, u125, u126, u127, u128, u129, u130, u131, u132, u133, u134, u135, u136, u137, u138, u139, u140, u141, u142, u143, u144, u145, u146, u147, u148, u149, u150, u151, u152, u153, u154, u155, u156, u157, u158, u159, u160, u161, u162, u163, u164, u165, u166, u167, u168, u169, u170, u171, u172, u173, u174, u175, u176, u177, u178, u179, u180, u181, u182, u183, v184, v185, v186, v187, v188, v189, v190, v191, v192, v193, v194, v195, v196, v197, v198, v199, v200, v201, v202, v203, v204, v205, v206, v207, v208, u209, u210, u211, u212, u213, u214, u215, u216, u217, u218, u219, u220, u221, u222, u223, u224, u225, u226], []⟩ w')) :
    Code.wp Tryz.prog c (QF N R) ⟨#[.string mb, u1, .pointer (some ⟨rb, 0, none⟩), .pointer (some ⟨p, 0, none⟩), u4, u5, u6, u7, .int .i64 ev, u9, u10, u11, u12, u13, .int .i64 0, u15, u16, u17, u18, u19, u20, u21, u22, u23, u24, u25, u26, u27, u28, u29, u30, u31, u32, u33, u34, u35, u36, u37, u38, u39, u40, u41, u42, u43, u44, u45, u46, u47, u48, u49, u50, u51, u52, u53, u54, u55, u56, u57, u58, u59, u60, u61, u62, u63, u64, u65, u66, u67, u68, u69, u70, u71, u72, u73, u74, u75, u76, u77, u78, u79, u80, u81, u82, u83, u84, u85, u86, u87, u88, u89, u90, u91, u92, u93, u94, u95, u96, u97, u98, u99, u100, u101, u102, u103, u104, u105, u106, u107, u108, u109, u110, u111, u112, u113, u114, u115, u116, u117, u118, u119, u120, u121, u122, u123, u124, u125, u126, u127, u128, u129, u130, u131, u132, u133, u134, u135, u136, u137, u138, u139, u140, u141, u142, u143, u144, u145, u146, u147, u148, u149, u150, u151, u152, u153, u154, u155, u156, u157, u158, u159, u160, u161, u162, u163, u164, u165, u166, u167, u168, u169, u170, u171, u172, u173, u174, u175, u176, u177, u178, u179, u180, u181, u182, u183, u184, u185, u186, u187, u188, u189, u190, u191, u192, u193, u194, u195, u196, u197, u198, u199, u200, u201, u202, u203, u204, u205, u206, u207, u208, u209, u210, u211, u212, u213, u214, u215, u216, u217, u218, u219, u220, u221, u222, u223, u224, u225, u226], []⟩ wr := by
  subst hc
  conv => arg 2; whnf
  go_wp2_with fail
  go_loopw [0, 8, 14] (fun sv ew iv wx => sv = .string mb ∧ ew = .int .i64 ev ∧ ∃ i : Nat, i ≤ mb.size ∧ iv = .int .i64 i ∧ Aside (PO w wx p 0 ng 0 ⟨#[48]⟩ false sd) ∧ Aside (∀ j (h : j < ml.length), j < i → ml[j] ≠ 46)) (fun _ _ iv _ => ((mb.size : Int) - intOf iv).toNat)
  case atStart => exact ⟨rfl, rfl, 0, Nat.zero_le _, rfl, hP4, ⟨fun j _ h => absurd h (Nat.not_lt_zero _)⟩⟩
  case round =>
    obtain ⟨rfl, rfl, i, hi, rfl, hP5, hA⟩ := hrel
    clear hP4
    by_cases hlt : i < mb.size
    · have e2 : Aside (∀ (h : i < ml.length), ml[i] = mb[i]) := ⟨fun h => by
        have := HML.out
        subst this
        rfl⟩
      have hul : Aside (i < ml.length) := ⟨by rw [← HML.out]; exact hlt⟩
      by_cases hx : mb[i] = 46
      · have qx : (((mb[i]).toNat : Int) == 46) = true := by rw [hx]; rfl
        obtain ⟨A, hAe⟩ : ∃ A, ml.take i = A := ⟨_, rfl⟩
        obtain ⟨B, hBe⟩ : ∃ B, ml.drop (i + 1) = B := ⟨_, rfl⟩
        have hsp : ml = A ++ 46 :: B := by
          rw [← hAe, ← hBe, ← hx, ← e2.out hul.out, ← List.drop_eq_getElem_cons hul.out, List.take_append_drop]
        have hmll : ml.length = mb.size := by rw [← HML.out]; rfl
        have hAl : A.length = i := by rw [← hAe, List.length_take]; omega
        have hBl : B.length = mb.size - (i + 1) := by rw [← hBe, List.length_drop, hmll]
        have hnA : (46 : UInt8) ∉ A := fun k => by
          rw [← hAe] at k
          obtain ⟨j, hj, e⟩ := List.mem_iff_getElem.1 k
          rw [List.getElem_take] at e
          rw [List.length_take] at hj
          exact hA.out j (by omega) (by omega) e
        obtain ⟨ax, hax⟩ : ∃ ax, mk A = ax := ⟨_, rfl⟩
        obtain ⟨bx, hbx⟩ : ∃ bx, mk B = bx := ⟨_, rfl⟩
        have hxa : mb.extract 0 i = ax := by
          have := ext_pre (l := A) HML.out hsp
          rw [hAl] at this
          rw [← hax, ← this]
          exact mk_of _
        have hxb : mb.extract (i + 1) mb.size = bx := by rw [← hbx]; exact ext_post (l := A ++ [46]) HML.out (by rw [hsp]; simp) (by simp [hAl])
        have has : ax.size = i := by rw [← hax, mk_size, hAl]
        have hbs : bx.size = mb.size - (i + 1) := by rw [← hbx, mk_size, hBl]
        have has1 : (ax.size : Int) ≤ 2147483647 := by omega
        have hbs1 : (bx.size : Int) ≤ 2147483647 := by omega
        have hab : Aside ((ax ++ bx).data.toList = A ++ B ∧ (ax ++ bx).size ≤ mb.size) := ⟨by
          rw [← hax, ← hbx, ← mk_app2, mk_toList, mk_size, List.length_append]
          exact ⟨rfl, by omega⟩⟩
        have HSP := Aside.mk (And.intro hsp hnA)
        have HBL := Aside.mk hBl
        have hi1 : (i : Int) + 1 ≤ (mb.size : Int) := by omega
        clear hsp hnA hBl hAl hAe hBe hx hax hbx has hbs hmll
        go_wp2_with fail
        have hw1 : IntKind.i64.wrap ((i : Int) + 1) = (i : Int) + 1 := IntWalk.i64_in _ ⟨by omega, by omega⟩
        have hw3 : ((i : Int) + 1).toNat = i + 1 := by omega
        have hi2 : i + 1 ≤ mb.size := by omega
        go_region_with (fail)
        go_wp2_with fail
        exact HNO.out _ A B _ _ _ _ _ _ _ _ _ _ _ _ _ _ _ _ _ _ _ _ _ _ _ _ _ _ _ _ ⟨by have := HBL.out; omega, hab.out.2, by have := HBL.out; omega, ⟨.inr HSP.out⟩, ⟨hab.out.1⟩, ⟨hP5.out.new ((Fr.refl _ _).drew)⟩⟩
      · have qx : (((mb[i]).toNat : Int) == 46) = false := by
          rw [beq_eq_false_iff_ne]; intro k
          exact hx (by apply UInt8.toNat_inj.1; have : (46 : UInt8).toNat = 46 := rfl
                       omega)
        have HX := Aside.mk hx
        clear hx
        go_wp2_with fail
        go_roundw
        case rel =>
          refine ⟨rfl, rfl, i + 1, by omega, by go_num, hP5, ⟨fun j h hj => ?_⟩⟩
          by_cases e : j = i
          · subst e; rw [e2.out h]; exact HX.out
          · exact hA.out j h (by omega)
        case measure => simp [intOf]; omega
    · have hno : Aside ((46 : UInt8) ∉ ml) := ⟨fun k => by
        obtain ⟨j, hj, e⟩ := List.mem_iff_getElem.1 k
        exact hA.out j hj (by have e1 : mb.size = mb.data.toList.length := rfl
                              rw [HML.out] at e1; omega) e⟩
      go_wp2_with fail
      exact HNO.out mb ml [] _ _ _ _ _ _ _ _ _ _ _ _ _ _ _ _ _ _ _ _ _ _ _ _ _ _ _ _ ⟨by simp, Nat.le_refl _, by simp, ⟨.inl ⟨hno.out, rfl, rfl⟩⟩, ⟨by rw [HML.out]; simp⟩, hP5⟩
end Go.Proofs.YtifkpcijheabhaaGreatDoor
