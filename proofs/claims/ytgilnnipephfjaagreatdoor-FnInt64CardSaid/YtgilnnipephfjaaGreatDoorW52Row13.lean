/- laws.FnInt64: the row and the card. -/
import Derived.Test.YtgilnnipephfjaaGreatDoorM30RowB
import Derived.Test.YtgilnnipephfjaaGreatDoorW50Law10
import Derived.Test.YtgilnnipephfjaaGreatDoorW51Row13f
import Derived.ChangeMaps5
set_option linter.unusedSimpArgs false
set_option linter.unusedVariables false
namespace Go.Proofs.YtgilnnipephfjaaGreatDoor
namespace fnInt64
open Go.ChangeShapes Go.WideShapes Go.ChangeAt Go.RowKit

theorem below {w w' : World} (h : Fr (fun _ _ => False) w w') : Below w.heap.size w w' := ⟨h.os, h.tape, h.output, h.size, fun k hk => h.block k hk (fun _ q => q)⟩
theorem fields_u : ((Tryz.prog.fieldsOf 24).toList.map fun f => (Tryz.prog.underlying f.type, f.offset, Tryz.prog.cellsOf f.type)) = [(some (.int .i64), 0, 1), (some .bool, 1, 1), (some (.int .i32), 2, 1), (some .string, 3, 1)] := by kernel_rfl
theorem cells_dec : Tryz.prog.cellsOf 24 = 4 := by kernel_rfl
theorem dec_fields : ∃ g0 g1 g2 g3 : Field, Tryz.prog.underlying 24 = some (.struct #[g0, g1, g2, g3]) ∧ (Tryz.prog.underlying g0.type = some (.int .i64) ∧ g0.offset = 0 ∧ Tryz.prog.cellsOf g0.type = 1) ∧
    (Tryz.prog.underlying g1.type = some .bool ∧ g1.offset = 1 ∧ Tryz.prog.cellsOf g1.type = 1) ∧ (Tryz.prog.underlying g2.type = some (.int .i32) ∧ g2.offset = 2 ∧ Tryz.prog.cellsOf g2.type = 1) ∧ (Tryz.prog.underlying g3.type = some .string ∧ g3.offset = 3 ∧ Tryz.prog.cellsOf g3.type = 1) := by
  have hm := fields_u
  have hu := under_dec
  generalize Tryz.prog.fieldsOf 24 = fs at hm hu
  obtain ⟨l⟩ := fs
  match l, hm, hu with
  | [], hm, _ => simp at hm
  | [_], hm, _ => simp at hm
  | [_, _], hm, _ => simp at hm
  | [_, _, _], hm, _ => simp at hm
  | [g0, g1, g2, g3], hm, hu =>
    simp only [List.map_cons, List.map_nil, List.cons.injEq, Prod.mk.injEq, and_true] at hm
    exact ⟨g0, g1, g2, g3, hu, hm.1, hm.2.1, hm.2.2.1, hm.2.2.2⟩
  | _ :: _ :: _ :: _ :: _ :: _, hm, _ => simp at hm
section
variable {H : Type} {enc : TypeId × Value → H}
set_option maxRecDepth 100000 in
theorem open_dec {w : World} {b0 base : Nat} {spare : Nat → Bool} {held : Bool} {v : Value} {d : DataW H} {ps : List MemPlace} (hval : Value.okWide Tryz.prog w .any b0 24 v) (hd : DataW.Trod enc Tryz.prog w base spare held 24 v d ps) :
    ∃ (f e : Int) (n : Bool) (s : ByteArray), v = .agg #[.int .i64 f, .bool n, .int .i32 e, .string s] ∧ d = .agg [.lit (.int .i64 f), .lit (.bool n), .lit (.int .i32 e), .lit (.string s.data.toList)] ∧ ps = [] ∧ (Lit.int .i64 f).wf = true ∧ (Lit.int .i32 e).wf = true ∧ s.size ≤ maxLen := by
  obtain ⟨g0, g1, g2, g3, hu, ⟨u0, o0, c0⟩, ⟨u1, o1, c1⟩, ⟨u2, o2, c2⟩, ⟨u3, o3, c3⟩⟩ := dec_fields
  obtain ⟨cs, rfl, hsz⟩ := okWide_struct hu hval
  rw [cells_dec] at hsz
  obtain ⟨fuel, hf⟩ := hd
  obtain ⟨xs, m, _, ex, hl, hlen, hfl⟩ := DataW.trod_struct hu hf
  have t0 := hfl 0 g0 rfl
  have t1 := hfl 1 g1 rfl
  have t2 := hfl 2 g2 rfl
  have t3 := hfl 3 g3 rfl
  rw [o0, c0] at t0
  rw [o1, c1] at t1
  rw [o2, c2] at t2
  rw [o3, c3] at t3
  clear hfl hf hval
  obtain ⟨l⟩ := cs
  match l, hsz, xs, hlen with
  | [a, b, c, d'], _, [x0, x1, x2, x3], _ =>
    obtain ⟨f, e1, e2, w0⟩ := DataW.trod_int u0 (x := x0) (by simpa [Value.cells] using t0)
    obtain ⟨n, e3, e4⟩ := DataW.trod_bool u1 (x := x1) (by simpa [Value.cells] using t1)
    obtain ⟨e, e5, e6, w2⟩ := DataW.trod_int u2 (x := x2) (by simpa [Value.cells] using t2)
    obtain ⟨s, e7, e8, w3⟩ := DataW.trod_string u3 (x := x3) (by simpa [Value.cells] using t3)
    simp only [List.cons.injEq, and_true] at e1 e3 e5 e7
    subst e1 e3 e5 e7 e2 e4 e6 e8
    simp only [Prod.mk.injEq, List.map_cons, List.map_nil, List.flatMap_cons, List.flatMap_nil, List.append_nil] at ex
    exact ⟨f, e, n, s, rfl, ex.1, ex.2, w0, w2, w3⟩
set_option maxRecDepth 100000 in
theorem shut_dec {w : World} {base : Nat} {spare : Nat → Bool} {held : Bool} {f e : Int} {n : Bool} {s : ByteArray} (w0 : (Lit.int .i64 f).wf = true) (w2 : (Lit.int .i32 e).wf = true) (w3 : s.size ≤ maxLen) :
    DataW.Trod enc Tryz.prog w base spare held 24 (.agg #[.int .i64 f, .bool n, .int .i32 e, .string s]) (.agg [.lit (.int .i64 f), .lit (.bool n), .lit (.int .i32 e), .lit (.string s.data.toList)]) [] := by
  obtain ⟨g0, g1, g2, g3, hu, ⟨u0, o0, c0⟩, ⟨u1, o1, c1⟩, ⟨u2, o2, c2⟩, ⟨u3, o3, c3⟩⟩ := dec_fields
  have t0 : DataW.trod enc Tryz.prog w base spare held 1 g0.type [.int .i64 f] = some (.lit (.int .i64 f), []) := by simp [DataW.trod, u0, w0]
  have t1 : DataW.trod enc Tryz.prog w base spare held 1 g1.type [.bool n] = some (.lit (.bool n), []) := by simp [DataW.trod, u1]
  have t2 : DataW.trod enc Tryz.prog w base spare held 1 g2.type [.int .i32 e] = some (.lit (.int .i32 e), []) := by simp [DataW.trod, u2, w2]
  have t3 : DataW.trod enc Tryz.prog w base spare held 1 g3.type [.string s] = some (.lit (.string s.data.toList), []) := by simp [DataW.trod, u3, w3]
  refine ⟨2, ?_⟩
  have := trod_struct_mk (enc := enc) (w := w) (base := base) (spare := spare) (held := held) (n := 1) (cs := [.int .i64 f, .bool n, .int .i32 e, .string s]) (xs := [(.lit (.int .i64 f), []), (.lit (.bool n), []), (.lit (.int .i32 e), []), (.lit (.string s.data.toList), [])]) hu (by rw [cells_dec]; rfl)
    (by simp [o0, o1, o2, o3, c0, c1, c2, c3, t0, t1, t2, t3])
  simpa [Value.cells] using this
end
theorem reads (os : Os) {H : Type} (enc : TypeId × Value → H) : ∃ places, DataW.whole enc Tryz.prog ((laidW os).forCall (fun _ _ => 0) ⟨#[], #[.agg #[.int .i64 0, .bool false, .int .i32 0, .string ⟨#[]⟩]], []⟩).memory Tryz.f4.params.toList Rows.fnInt64Spec.vars false #[Value.agg #[.int .i64 0, .bool false, .int .i32 0, .string ⟨#[]⟩]].toList 8 = some ([.agg [.lit (.int .i64 0), .lit (.bool false), .lit (.int .i32 0), .lit (.string [])]], [], places) :=
  ⟨[], by kernel_rfl⟩
set_option maxRecDepth 100000 in
theorem lifted (os : Os) (started : os.Started) (H : Type) (enc : TypeId × Value → H) (F : Stop.Interp) :
    ReturnsInHanded {} Tryz.checked os 4 .any ((OpenSpec.ofChange Rows.fnInt64Spec).preRow enc Tryz.prog Tryz.f4 Rows.fnInt64Row.domain false Rows.fnInt64Row.laid) (((OpenSpec.ofChange Rows.fnInt64Spec).at F).post enc Tryz.prog Tryz.f4 false true false false) := by
  obtain ⟨places, hx⟩ := reads os enc
  refine returnsInHanded_of_row (C := Tryz.checked) (s := OpenSpec.ofChange Rows.fnInt64Spec) own started (by kernel_rfl) Tryz.func4
    ⟨laidW os, fun _ _ => 0, ⟨#[], #[.agg #[.int .i64 0, .bool false, .int .i32 0, .string ⟨#[]⟩]], []⟩, World.laidAll_os _ _ _, laidW_shaped os _, rfl, (Input.okWide_of_okWideB (by kernel_rfl)).2,
      OpenSpec.preRow_of_cond 8 hx (by kernel_rfl) (fun k hk => by cases hk) (by kernel_rfl) (laidW_met os _), by simp [Assume.holds]⟩ ?_
  intro W base args ds gs before hval0 hW _ _ _ hL hsh _
  have hval : ∀ (j : Nat) t v, Tryz.f4.params[j]? = some t → args[j]? = some v → Value.okWide Tryz.prog W .any base t v := hval0
  have hW' := hW
  obtain ⟨p, q, hA0, hV, rfl, hfz, hnd⟩ := hW
  have hA : DataW.TrodAll enc Tryz.prog W 0 (fun _ => true) true Tryz.f4.params.toList args.toList ds p := hA0
  rw [Tryz.params4] at hA hval
  obtain ⟨v0, vs0, d0, ds0, p0, q0, hargs, rfl, rfl, h0, r0⟩ := trodAll_cons hA
  obtain ⟨rfl, rfl, rfl⟩ := trodAll_nil r0
  obtain rfl : args = #[v0] := by cases args; simp_all
  obtain ⟨rfl, rfl⟩ := trodVars_none hV
  obtain ⟨f, e, n, s, rfl, rfl, rfl, w0, w2, w3⟩ := open_dec (hval 0 24 v0 rfl rfl) h0
  clear hA0 hval0
  simp only [List.append_nil] at hW'
  refine (fnInt64_any (f := f) (e := e) (n := n) (s := s) (gv_of_laid hL hsh)).mono fun e W' ⟨he, hf⟩ => ?_
  subst he
  exact ⟨_, rfl, (show Rows.fnInt64Spec.post enc Tryz.prog Tryz.f4 false true false false W _ _ W' from ⟨_, _, _, [], [], [], hW', trodAll_cons_mk (shut_bool Tryz.underlying4 _) trodAll_mk0, trodAll_cons_mk (shut_dec w0 w2 w3) trodAll_mk0, rfl, (below hf).frame _, fun h => by cases h⟩)⟩
theorem said : Rows.FnInt64Said :=
  OpenClaim.holds_of_cond 4 Tryz.f4 rfl rfl rfl rfl rfl rfl rfl ⟨rfl, rfl, rfl, rfl, rfl⟩ rfl rfl rfl rfl rfl (by kernel_rfl) Tryz.func4 closed
    (of_decide_eq_true (by kernel_rfl)) (by unfold Func.isWrapper; first | (rw [if_pos (by decide +kernel)]; kernel_rfl) | (rw [if_neg (by decide +kernel)]; exact ⟨rfl, rfl⟩))
    (fun os started H enc _ F => by rw [OpenClaim.pre_eq_preRow]; exact lifted os started H enc F)
theorem plain (f : FuncId) (fn : Func) (hf : Tryz.pinned.checked.prog.funcNamed "pub-gyrfalcon/laws.FnInt64" = some f) (hfn : Tryz.pinned.checked.prog.funcs[f]? = some fn) :
    true = Tryz.pinned.checked.prog.looks [] ∧ ∀ (j : Nat) t, fn.params[j]? = some t → Tryz.pinned.checked.prog.wantsStandIn t = false := by
  obtain rfl : f = 4 := Option.some.inj ((show Tryz.prog.funcNamed "pub-gyrfalcon/laws.FnInt64" = some 4 by kernel_rfl).symm.trans hf) |>.symm
  obtain rfl : fn = Tryz.f4 := (Option.some.inj (Tryz.func4.symm.trans hfn)).symm
  refine ⟨by kernel_rfl, fun j t ht => ?_⟩
  rw [Tryz.params4] at ht
  have hm : t ∈ [24] := by simpa using Array.mem_of_getElem? ht
  have hall : ([24].all fun u => !Tryz.prog.wantsStandIn u) = true := by kernel_rfl
  exact (show Tryz.prog.wantsStandIn t = false by simpa using List.all_eq_true.1 hall t hm)
/-- The card. -/
theorem card : Rows.FnInt64CardSaid :=
  Claim7.holds_tied_plain_at .later [] _ _ _ _ said (fun _ h => by cases h) (by kernel_rfl) (fun _ h => by cases h) fnInt64_row_tie rfl ⟨rfl, rfl⟩ (by kernel_rfl) rfl plain (by kernel_rfl)
end fnInt64
end Go.Proofs.YtgilnnipephfjaaGreatDoor
