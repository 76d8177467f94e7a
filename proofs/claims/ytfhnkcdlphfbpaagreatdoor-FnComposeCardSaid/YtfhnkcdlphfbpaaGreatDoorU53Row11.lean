/- laws.FnCompose: the row and the card. -/
import Derived.Test.YtfhnkcdlphfbpaaGreatDoorM30RowB
import Derived.Test.YtfhnkcdlphfbpaaGreatDoorU51Law8
import Derived.Test.YtfhnkcdlphfbpaaGreatDoorU52Row11f
import Derived.ChangeMaps5
import Derived.Carry
import Derived.ChangeSlices
set_option linter.unusedSimpArgs false
set_option linter.unusedVariables false
namespace Go.Proofs.YtfhnkcdlphfbpaaGreatDoor
namespace fnCompose
open Go.ChangeShapes Go.WideShapes Go.ChangeAt Go.RowKit
open Go.ChangeMaps (open_string shut_string)

theorem below {w w' : World} (h : Fr (fun _ _ => False) w w') : Below w.heap.size w w' := ⟨h.os, h.tape, h.output, h.size, fun k hk => h.block k hk (fun _ q => q)⟩
theorem reads (os : Os) {H : Type} (enc : TypeId × Value → H) : ∃ places, DataW.whole enc Tryz.prog ((laidW os).forCall (fun _ _ => 0) ⟨#[], #[.bool false, .slice none 0 0, .int .i32 0], []⟩).memory Tryz.f5.params.toList Rows.fnComposeSpec.vars false #[Value.bool false, Value.slice none 0 0, Value.int .i32 0].toList 8 = some ([.lit (.bool false), .nil, .lit (.int .i32 0)], [], places) :=
  ⟨[], by kernel_rfl⟩
theorem cells_u8 : Tryz.prog.cellsOf 5 = 1 := by kernel_rfl
/-- Bytes that came in are bytes that can be read. -/
theorem rd_of {w : World} {a : Addr} {len cap : Nat} {zs : List Int} (hl : len ≤ cap) (hz : zs.length = cap) (hc : ∀ i, i < zs.length → w.cell? (a.add i) = some (.int .u8 (zs.getD i 0))) (hw : ∀ n ∈ zs, (Lit.int .u8 n).wf = true) :
    ∃ l, RdB w (some a) len cap l := by
  have hb : ∀ i (h : i < zs.length), 0 ≤ zs.getD i 0 ∧ zs.getD i 0 ≤ 255 := fun i h => by
    have hm : zs.getD i 0 ∈ zs := by
      rw [List.getD, List.getElem?_eq_getElem h]
      exact List.getElem_mem h
    simpa [Lit.wf, IntKind.min, IntKind.max, IntKind.signed, IntKind.bits] using hw _ hm
  refine ⟨(List.range len).map fun i => UInt8.ofNat (zs.getD i 0).toNat, by simp, hl, ?_⟩
  by_cases h0 : len = 0
  · exact .inl h0
  · obtain ⟨b, off, spot⟩ := a
    have hspot : spot = none := by simpa [Addr.add] using World.cell?_spot (hc 0 (by omega))
    subst hspot
    have hc0 := hc 0 (by omega)
    rw [Addr.add_lit] at hc0
    refine .inr ⟨b, off, rfl, World.block_lt_of_cell? w _ hc0, fun i hi => ?_⟩
    have hi' : i < len := by simpa using hi
    have h1 := hc i (by omega)
    have h2 := hb i (by omega)
    rw [Addr.add_lit] at h1
    simp only [List.getElem_map, List.getElem_range, UInt8.toNat_ofNat']
    rw [Nat.mod_eq_of_lt (by omega), Int.toNat_of_nonneg h2.1]
    exact h1
set_option maxRecDepth 100000 in
theorem lifted (os : Os) (started : os.Started) (H : Type) (enc : TypeId × Value → H) (F : Stop.Interp) :
    ReturnsInHanded {} Tryz.checked os 5 .any ((OpenSpec.ofChange Rows.fnComposeSpec).preRow enc Tryz.prog Tryz.f5 Rows.fnComposeRow.domain false Rows.fnComposeRow.laid) (((OpenSpec.ofChange Rows.fnComposeSpec).at F).post enc Tryz.prog Tryz.f5 false true false false) := by
  obtain ⟨places, hx⟩ := reads os enc
  refine returnsInHanded_of_row (C := Tryz.checked) (s := OpenSpec.ofChange Rows.fnComposeSpec) own started (by kernel_rfl) Tryz.func5
    ⟨laidW os, fun _ _ => 0, ⟨#[], #[.bool false, .slice none 0 0, .int .i32 0], []⟩, World.laidAll_os _ _ _, laidW_shaped os _, rfl, (Input.okWide_of_okWideB (by kernel_rfl)).2,
      OpenSpec.preRow_of_cond 8 hx (by kernel_rfl) (fun k hk => by cases hk) (by kernel_rfl) (laidW_met os _), by simp [Assume.holds]⟩ ?_
  intro W base args ds gs before hval0 hW _ _ _ hL hsh _
  have hval : ∀ (j : Nat) t v, Tryz.f5.params[j]? = some t → args[j]? = some v → Value.okWide Tryz.prog W .any base t v := hval0
  have hW' := hW
  obtain ⟨p, q, hA0, hV, rfl, hfz, hnd⟩ := hW
  have hA : DataW.TrodAll enc Tryz.prog W 0 (fun _ => true) true Tryz.f5.params.toList args.toList ds p := hA0
  rw [Tryz.params5] at hA hval
  obtain ⟨v0, vs0, d0, ds0, p0, q0, hargs, rfl, rfl, h0, r0⟩ := trodAll_cons hA
  obtain ⟨v1, vs1, d1, ds1, p1, q1, rfl, rfl, rfl, h1, r1⟩ := trodAll_cons r0
  obtain ⟨v2, vs2, d2, ds2, p2, q2, rfl, rfl, rfl, h2, r2⟩ := trodAll_cons r1
  obtain ⟨rfl, rfl, rfl⟩ := trodAll_nil r2
  obtain rfl : args = #[v0, v1, v2] := by cases args; simp_all
  obtain ⟨rfl, rfl⟩ := trodVars_none hV
  obtain ⟨a0, rfl, rfl, rfl⟩ := open_bool Tryz.underlying4 (hval 0 4 v0 rfl rfl) h0
  obtain ⟨a2, rfl, rfl, rfl, w2⟩ := open_int Tryz.underlying21 (hval 2 21 v2 rfl rfl) h2
  clear hA0 hval0
  simp only [List.append_nil, List.nil_append] at hW'
  have hlt : ∀ x ∈ p1, x.block < W.heap.size := fun x hx => by simpa using hW'.lt x hx
  have hkeep : ∀ (W' : World), Below W.heap.size W W' → DataW.Trod enc Tryz.prog W' 0 (fun b => decide (b < W.heap.size)) true 28 v1 d1 p1 :=
    fun W' hn => Below.trod (by kernel_rfl) (by kernel_rfl) (of_decide_eq_true (by kernel_rfl)) h1 hn hlt
  have hrd : ∃ a n c l, v1 = .slice a n c ∧ RdB W a n c l := by
    obtain ⟨x0, len, cap, rfl⟩ := okWide_slice Tryz.underlying28 (hval 1 28 v1 rfl rfl)
    obtain ⟨fuel, hf⟩ := h1
    rcases open_ints Tryz.underlying28 Tryz.underlying5 cells_u8 hf with ⟨hcs, hx⟩ | ⟨a, len', cap', zs, hcs, _, hl, hm, hz, hx, hcell, hwz⟩
    · simp only [Value.cells, List.cons.injEq, Value.slice.injEq, and_true] at hcs
      obtain ⟨rfl, rfl, rfl⟩ := hcs
      exact ⟨none, 0, 0, [], rfl, ⟨rfl, Nat.le_refl _, .inl rfl⟩⟩
    · simp only [Value.cells, List.cons.injEq, Value.slice.injEq, and_true] at hcs
      obtain ⟨rfl, rfl, rfl⟩ := hcs
      simp only [if_true] at hz
      simp only [Prod.mk.injEq] at hx
      obtain ⟨_, rfl⟩ := hx
      obtain ⟨l, hl'⟩ := rd_of hl hz hcell hwz
      exact ⟨some a, len, cap, l, rfl, hl'⟩
  obtain ⟨a, nb, cb, l, rfl, hB⟩ := hrd
  refine (fnCompose_any (n := a0) (e := a2) (gv_of_laid hL hsh) hB).mono fun e W' ⟨he, hf⟩ => ?_
  subst he
  exact ⟨_, rfl, (show Rows.fnComposeSpec.post enc Tryz.prog Tryz.f5 false true false false W _ _ W' from ⟨_, _, _, [], _, [], hW', trodAll_cons_mk (shut_bool Tryz.underlying4 _) trodAll_mk0, trodAll_cons_mk (shut_bool Tryz.underlying4 _) (trodAll_cons_mk (hkeep _ (below hf)) (trodAll_cons_mk (shut_int Tryz.underlying21 w2) trodAll_mk0)), rfl, (below hf).frame _, fun h => by cases h⟩)⟩
theorem said : Rows.FnComposeSaid :=
  OpenClaim.holds_of_cond 5 Tryz.f5 rfl rfl rfl rfl rfl rfl rfl ⟨rfl, rfl, rfl, rfl, rfl⟩ rfl rfl rfl rfl rfl (by kernel_rfl) Tryz.func5 closed
    (of_decide_eq_true (by kernel_rfl)) (by unfold Func.isWrapper; first | (rw [if_pos (by decide +kernel)]; kernel_rfl) | (rw [if_neg (by decide +kernel)]; exact ⟨rfl, rfl⟩))
    (fun os started H enc _ F => by rw [OpenClaim.pre_eq_preRow]; exact lifted os started H enc F)
theorem plain (f : FuncId) (fn : Func) (hf : Tryz.pinned.checked.prog.funcNamed "pub-gyrfalcon/laws.FnCompose" = some f) (hfn : Tryz.pinned.checked.prog.funcs[f]? = some fn) :
    true = Tryz.pinned.checked.prog.looks [] ∧ ∀ (j : Nat) t, fn.params[j]? = some t → Tryz.pinned.checked.prog.wantsStandIn t = false := by
  obtain rfl : f = 5 := Option.some.inj ((show Tryz.prog.funcNamed "pub-gyrfalcon/laws.FnCompose" = some 5 by kernel_rfl).symm.trans hf) |>.symm
  obtain rfl : fn = Tryz.f5 := (Option.some.inj (Tryz.func5.symm.trans hfn)).symm
  refine ⟨by kernel_rfl, fun j t ht => ?_⟩
  rw [Tryz.params5] at ht
  have hm : t ∈ [4, 28, 21] := by simpa using Array.mem_of_getElem? ht
  have hall : ([4, 28, 21].all fun u => !Tryz.prog.wantsStandIn u) = true := by kernel_rfl
  exact (show Tryz.prog.wantsStandIn t = false by simpa using List.all_eq_true.1 hall t hm)
/-- The card. -/
theorem card : Rows.FnComposeCardSaid :=
  Claim7.holds_tied_plain_at .later [] _ _ _ _ said (fun _ h => by cases h) (by kernel_rfl) (fun _ h => by cases h) fnCompose_row_tie rfl ⟨rfl, rfl⟩ (by kernel_rfl) rfl plain (by kernel_rfl)
end fnCompose
end Go.Proofs.YtfhnkcdlphfbpaaGreatDoor
