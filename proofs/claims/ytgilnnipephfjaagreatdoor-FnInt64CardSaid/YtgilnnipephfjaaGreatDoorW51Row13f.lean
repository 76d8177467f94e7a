/- The closed facts of the row of laws.FnInt64, one by one. -/
import Derived.Test.YtgilnnipephfjaaGreatDoorM30RowB
set_option linter.unusedSimpArgs false
set_option linter.unusedVariables false
namespace Go.Proofs.YtgilnnipephfjaaGreatDoor
namespace fnInt64
open Go.ChangeShapes Go.WideShapes Go.ChangeAt Go.RowKit

theorem and2 {a b : Bool} (ha : a = true) (hb : b = true) : (a && b) = true := by rw [ha, hb]; rfl
theorem of_bare (P : Program) (f : FuncId) (fn : Func) (s : ChangeSpec) (c : OpenClaim) (h0 : (c.wf (OpenSpec.ofChange s)) = true) (h1 : (laidOutB P) = true) (h2 : (mapsRowed P) = true) (h3 : (fn.params.all (P.readableRec ·)) = true) (h4 : (namedTie P c.named s.vars) = true) (h5 : ((c.stops == [])) = true) (h6 : ((P.stops == [])) = true) (h7 : ((c.knobs == [])) = true) (h8 : ((P.stopKnobs == [])) = true) (h9 : ((c.inPlace == P.inPlace f)) = true) (h10 : ((c.unfollowed == P.unfollowed f)) = true) (h11 : ((c.recurses == P.recurses f)) = true) (h12 : ((c.named == P.varsNamed f)) = true) (h13 : ((c.maps == (fn.params.toList ++ s.plain.varTypes P).any (P.mapsRec ·))) = true) (h14 : ((c.ifaces == (fn.params.toList ++ s.plain.varTypes P).any (P.ifacesRec ·))) = true) (h15 : ((c.mapsOut == P.mapsAmong fn.resultTypes.toList)) = true) (h16 : ((c.loops == (fn.params.toList ++ s.plain.varTypes P).any (P.loopsFrom ·))) = true) (h17 : ((c.wideKeys == (fn.params.toList ++ s.plain.varTypes P ++ fn.resultTypes.toList).any (P.wideKeysFrom ·))) = true) (h18 : (s.vars.all (P.varReadable ·)) = true) (h19 : (fn.resultTypes.all (fun t => P.readableRec t && decide (t < P.types.size))) = true) (h20 : ((c.ifacesOut == fn.resultTypes.toList.any (P.ifacesRec ·))) = true) (h21 : ((c.loopsOut == fn.resultTypes.toList.any (P.loopsFrom ·))) = true) (h22 : ((c.plainKeys == P.plainKeys)) = true) (h23 : (c.shortTexts.isNone) = true) (h24 : (P.stopsHeard) = true) (h25 : (P.mayEnter) = true) (h26 : ((c.lifted == P.liftsFinal)) = true) (h27 : ((P.make == some c.make)) = true) (h28 : ((c.kinds == (if c.domain.isEmpty then [] else fn.params.toList.map fun t => match P.underlying t with | some (.int k) => some k | _ => none))) = true) (h29 : ((c.pinned == c.pinnedBy)) = true) (h30 : ((c.veiled == (fn.params.toList ++ s.plain.varTypes P ++ fn.resultTypes.toList).any (P.veiledRec ·))) = true) (h31 : (c.veiledFits P fn.params.toList (fn.params.toList ++ s.plain.varTypes P ++ fn.resultTypes.toList)) = true) : joinedFacts P f fn s c = true := by
  unfold joinedFacts
  exact (and2 (and2 (and2 (and2 (and2 (and2 (and2 (and2 (and2 (and2 (and2 (and2 (and2 (and2 (and2 (and2 (and2 (and2 (and2 (and2 (and2 (and2 (and2 (and2 (and2 (and2 (and2 (and2 (and2 (and2 (and2 h0 h1) h2) h3) h4) h5) h6) h7) h8) h9) h10) h11) h12) h13) h14) h15) h16) h17) h18) h19) h20) h21) h22) h23) h24) h25) h26) h27) h28) h29) h30) h31)
set_option maxRecDepth 100000 in
theorem fact0 : (Rows.fnInt64Row.wf (OpenSpec.ofChange (OpenSpec.ofChange Rows.fnInt64Spec).bare)) = true := by kernel_rfl
set_option maxRecDepth 100000 in
theorem fact1 : (laidOutB Tryz.pinned.checked.prog) = true := by kernel_rfl
set_option maxRecDepth 100000 in
theorem fact2 : (mapsRowed Tryz.pinned.checked.prog) = true := by kernel_rfl
set_option maxRecDepth 100000 in
theorem fact3 : (Tryz.f4.params.all (Tryz.pinned.checked.prog.readableRec ·)) = true := by kernel_rfl
set_option maxRecDepth 100000 in
theorem fact4 : (namedTie Tryz.pinned.checked.prog Rows.fnInt64Row.named (OpenSpec.ofChange Rows.fnInt64Spec).bare.vars) = true := by kernel_rfl
set_option maxRecDepth 100000 in
theorem fact5 : ((Rows.fnInt64Row.stops == [])) = true := by kernel_rfl
set_option maxRecDepth 100000 in
theorem fact6 : ((Tryz.pinned.checked.prog.stops == [])) = true := by kernel_rfl
set_option maxRecDepth 100000 in
theorem fact7 : ((Rows.fnInt64Row.knobs == [])) = true := by kernel_rfl
set_option maxRecDepth 100000 in
theorem fact8 : ((Tryz.pinned.checked.prog.stopKnobs == [])) = true := by kernel_rfl
set_option maxRecDepth 100000 in
theorem fact9 : ((Rows.fnInt64Row.inPlace == Tryz.pinned.checked.prog.inPlace 4)) = true := by kernel_rfl
set_option maxRecDepth 100000 in
theorem fact10 : ((Rows.fnInt64Row.unfollowed == Tryz.pinned.checked.prog.unfollowed 4)) = true := by kernel_rfl
set_option maxRecDepth 100000 in
theorem fact11 : ((Rows.fnInt64Row.recurses == Tryz.pinned.checked.prog.recurses 4)) = true := by kernel_rfl
set_option maxRecDepth 100000 in
theorem fact12 : ((Rows.fnInt64Row.named == Tryz.pinned.checked.prog.varsNamed 4)) = true := by kernel_rfl
set_option maxRecDepth 100000 in
theorem fact13 : ((Rows.fnInt64Row.maps == (Tryz.f4.params.toList ++ (OpenSpec.ofChange Rows.fnInt64Spec).bare.plain.varTypes Tryz.pinned.checked.prog).any (Tryz.pinned.checked.prog.mapsRec ·))) = true := by kernel_rfl
set_option maxRecDepth 100000 in
theorem fact14 : ((Rows.fnInt64Row.ifaces == (Tryz.f4.params.toList ++ (OpenSpec.ofChange Rows.fnInt64Spec).bare.plain.varTypes Tryz.pinned.checked.prog).any (Tryz.pinned.checked.prog.ifacesRec ·))) = true := by kernel_rfl
set_option maxRecDepth 100000 in
theorem fact15 : ((Rows.fnInt64Row.mapsOut == Tryz.pinned.checked.prog.mapsAmong Tryz.f4.resultTypes.toList)) = true := by kernel_rfl
set_option maxRecDepth 100000 in
theorem fact16 : ((Rows.fnInt64Row.loops == (Tryz.f4.params.toList ++ (OpenSpec.ofChange Rows.fnInt64Spec).bare.plain.varTypes Tryz.pinned.checked.prog).any (Tryz.pinned.checked.prog.loopsFrom ·))) = true := by kernel_rfl
set_option maxRecDepth 100000 in
theorem fact17 : ((Rows.fnInt64Row.wideKeys == (Tryz.f4.params.toList ++ (OpenSpec.ofChange Rows.fnInt64Spec).bare.plain.varTypes Tryz.pinned.checked.prog ++ Tryz.f4.resultTypes.toList).any (Tryz.pinned.checked.prog.wideKeysFrom ·))) = true := by kernel_rfl
set_option maxRecDepth 100000 in
theorem fact18 : ((OpenSpec.ofChange Rows.fnInt64Spec).bare.vars.all (Tryz.pinned.checked.prog.varReadable ·)) = true := by kernel_rfl
set_option maxRecDepth 100000 in
theorem fact19 : (Tryz.f4.resultTypes.all (fun t => Tryz.pinned.checked.prog.readableRec t && decide (t < Tryz.pinned.checked.prog.types.size))) = true := by kernel_rfl
set_option maxRecDepth 100000 in
theorem fact20 : ((Rows.fnInt64Row.ifacesOut == Tryz.f4.resultTypes.toList.any (Tryz.pinned.checked.prog.ifacesRec ·))) = true := by kernel_rfl
set_option maxRecDepth 100000 in
theorem fact21 : ((Rows.fnInt64Row.loopsOut == Tryz.f4.resultTypes.toList.any (Tryz.pinned.checked.prog.loopsFrom ·))) = true := by kernel_rfl
set_option maxRecDepth 100000 in
theorem fact22 : ((Rows.fnInt64Row.plainKeys == Tryz.pinned.checked.prog.plainKeys)) = true := by kernel_rfl
set_option maxRecDepth 100000 in
theorem fact23 : (Rows.fnInt64Row.shortTexts.isNone) = true := by kernel_rfl
set_option maxRecDepth 100000 in
theorem fact24 : (Tryz.pinned.checked.prog.stopsHeard) = true := by kernel_rfl
set_option maxRecDepth 100000 in
theorem fact25 : (Tryz.pinned.checked.prog.mayEnter) = true := by kernel_rfl
set_option maxRecDepth 100000 in
theorem fact26 : ((Rows.fnInt64Row.lifted == Tryz.pinned.checked.prog.liftsFinal)) = true := by kernel_rfl
set_option maxRecDepth 100000 in
theorem fact27 : ((Tryz.pinned.checked.prog.make == some Rows.fnInt64Row.make)) = true := by kernel_rfl
set_option maxRecDepth 100000 in
theorem fact28 : ((Rows.fnInt64Row.kinds == (if Rows.fnInt64Row.domain.isEmpty then [] else Tryz.f4.params.toList.map fun t => match Tryz.pinned.checked.prog.underlying t with | some (.int k) => some k | _ => none))) = true := by kernel_rfl
set_option maxRecDepth 100000 in
theorem fact29 : ((Rows.fnInt64Row.pinned == Rows.fnInt64Row.pinnedBy)) = true := by kernel_rfl
set_option maxRecDepth 100000 in
theorem fact30 : ((Rows.fnInt64Row.veiled == (Tryz.f4.params.toList ++ (OpenSpec.ofChange Rows.fnInt64Spec).bare.plain.varTypes Tryz.pinned.checked.prog ++ Tryz.f4.resultTypes.toList).any (Tryz.pinned.checked.prog.veiledRec ·))) = true := by kernel_rfl
set_option maxRecDepth 100000 in
theorem fact31 : (Rows.fnInt64Row.veiledFits Tryz.pinned.checked.prog Tryz.f4.params.toList (Tryz.f4.params.toList ++ (OpenSpec.ofChange Rows.fnInt64Spec).bare.plain.varTypes Tryz.pinned.checked.prog ++ Tryz.f4.resultTypes.toList)) = true := by kernel_rfl
theorem closed : joinedFacts Tryz.pinned.checked.prog 4 Tryz.f4 (OpenSpec.ofChange Rows.fnInt64Spec).bare Rows.fnInt64Row = true :=
  of_bare _ _ _ _ _ fact0 fact1 fact2 fact3 fact4 fact5 fact6 fact7 fact8 fact9 fact10 fact11 fact12 fact13 fact14 fact15 fact16 fact17 fact18 fact19 fact20 fact21 fact22 fact23 fact24 fact25 fact26 fact27 fact28 fact29 fact30 fact31
end fnInt64
end Go.Proofs.YtgilnnipephfjaaGreatDoor
