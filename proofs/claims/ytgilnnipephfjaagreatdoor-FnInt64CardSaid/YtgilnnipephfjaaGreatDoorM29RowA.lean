/- What the rows' list gives the walks. -/
import Derived.Test.YtgilnnipephfjaaGreatDoorCards
import Derived.Test.YtgilnnipephfjaaGreatDoorTie
import Derived.Test.YtgilnnipephfjaaGreatDoorM28Str2
import Derived.WalkKit
import Derived.ProofKit
import Derived.OpenShut
import Derived.Stop.LaidErr
import Derived.Lib.LaidU8
import Derived.MakeChecks
import Derived.Deep.DeepHandedRow
import Derived.Lay
import Derived.SevenTiedAt
set_option linter.unusedSimpArgs false
set_option linter.unusedVariables false
namespace Go.Proofs.YtgilnnipephfjaaGreatDoor
open Go.ChangeShapes Go.WideShapes Go.ChangeAt Go.RowKit

theorem int_of_reads {W : World} {s : String} {g : Nat} {t : TypeId} {k : IntKind} {z : Int} (hg : Tryz.prog.globalNamed s = some g) (ht : (Tryz.prog.globals[g]?).map (·.type) = some t) (hu : Tryz.prog.underlying t = some (.int k))
    (h : Lib.VarReads Tryz.prog W s (.lit (.int k z))) : W.cell? ⟨g, 0, none⟩ = some (.int k z) := by
  obtain ⟨g1, t1, cs1, f1, p1, hg1, ht1, hv1, hd1⟩ := h
  obtain rfl := Option.some.inj (hg.symm.trans hg1)
  obtain rfl := Option.some.inj (ht.symm.trans ht1)
  obtain ⟨k1, e1, e2, _⟩ := DataW.trod_int hu hd1
  have hk : z = k1 := by simpa using congrArg Prod.fst e2
  subst hk
  have := World.var?_cell hg hv1 0
  rw [Array.eq_one_of_toList e1] at this
  simpa using this
theorem fields_ctx : ((Tryz.prog.fieldsOf 99).toList.map fun f => (Tryz.prog.underlying f.type, f.offset, Tryz.prog.cellsOf f.type)) = [(some (.int .u32), 0, 1), (some (.int .i32), 1, 1), (some (.int .i32), 2, 1), (some (.int .u32), 3, 1), (some .string, 4, 1)] := by kernel_rfl
theorem under_ctx : Tryz.prog.underlying 99 = some (.struct (Tryz.prog.fieldsOf 99)) := by kernel_rfl
theorem ctx_field (i : Nat) (p) (h : [(some (.int .u32), 0, 1), (some (.int .i32), 1, 1), (some (.int .i32), 2, 1), (some (.int .u32), 3, 1), (some TypeDesc.string, 4, 1)][i]? = some p) :
    ∃ f, (Tryz.prog.fieldsOf 99)[i]? = some f ∧ (Tryz.prog.underlying f.type, f.offset, Tryz.prog.cellsOf f.type) = p := by
  rw [← fields_ctx, List.getElem?_map] at h
  obtain ⟨f, h1, h2⟩ := Option.map_eq_some_iff.1 h
  exact ⟨f, by simpa using h1, h2⟩
theorem ctx_int {W : World} {s : String} {g : Nat} {cs : Array Value} {xs : List (DataW Unit × List MemPlace)} {f : Field} {n i : Nat} {k : IntKind} {z : Int} (hg : Tryz.prog.globalNamed s = some g) (hv : W.var? Tryz.prog s = some cs)
    (hf : DataW.trod (fun _ => ()) Tryz.prog W 0 (fun _ => true) false n f.type ((cs.toList.drop f.offset).take (Tryz.prog.cellsOf f.type)) = xs[i]?)
    (hp : (Tryz.prog.underlying f.type, f.offset, Tryz.prog.cellsOf f.type) = (some (.int k), i, 1)) (hx : (xs.map (·.1))[i]? = some (.lit (.int k z))) : W.cell? ⟨g, i, none⟩ = some (.int k z) := by
  simp only [Prod.mk.injEq] at hp
  obtain ⟨h1, h2, h3⟩ := hp
  rw [List.getElem?_map] at hx
  obtain ⟨x, hx1, hx2⟩ := Option.map_eq_some_iff.1 hx
  rw [hx1, h2, h3] at hf
  obtain ⟨k1, e1, e2, _⟩ := DataW.trod_int h1 hf
  rw [e2] at hx2
  have hk : k1 = z := by simpa using hx2
  subst hk
  rw [World.var?_cell hg hv i]
  have h0 : ((cs.toList.drop i).take 1)[0]? = some (.int k k1) := by rw [e1]; rfl
  simpa using h0
theorem ctx_str {W : World} {s : String} {g : Nat} {cs : Array Value} {xs : List (DataW Unit × List MemPlace)} {f : Field} {n i : Nat} (hg : Tryz.prog.globalNamed s = some g) (hv : W.var? Tryz.prog s = some cs)
    (hf : DataW.trod (fun _ => ()) Tryz.prog W 0 (fun _ => true) false n f.type ((cs.toList.drop f.offset).take (Tryz.prog.cellsOf f.type)) = xs[i]?)
    (hp : (Tryz.prog.underlying f.type, f.offset, Tryz.prog.cellsOf f.type) = (some .string, i, 1)) (hx : (xs.map (·.1))[i]? = some (.lit (.string []))) : W.cell? ⟨g, i, none⟩ = some (.string ⟨#[]⟩) := by
  simp only [Prod.mk.injEq] at hp
  obtain ⟨h1, h2, h3⟩ := hp
  rw [List.getElem?_map] at hx
  obtain ⟨x, hx1, hx2⟩ := Option.map_eq_some_iff.1 hx
  rw [hx1, h2, h3] at hf
  obtain ⟨t, e1, e2, _⟩ := DataW.trod_string h1 hf
  rw [e2] at hx2
  have hk : t.data.toList = [] := by simpa using hx2
  have ht : t = ⟨#[]⟩ := by
    obtain ⟨⟨l⟩⟩ := t
    simp at hk
    rw [hk]
  subst ht
  rw [World.var?_cell hg hv i]
  have h0 : ((cs.toList.drop i).take 1)[0]? = some (.string ⟨#[]⟩) := by rw [e1]; rfl
  simpa using h0
theorem ctx_reads {W : World} (h : Lib.VarReads Tryz.prog W "pub-gyrfalcon/pub/apd.BaseContext" Rows.laid_pub_gyrfalcon_pub_apd_BaseContext) (hlt : 0 < W.heap.size) : CA W 0 0 100000 (-100000) 1967 ⟨#[]⟩ := by
  obtain ⟨g1, t1, cs, f1, p1, hg1, ht1, hv, hd⟩ := h
  have hg : Tryz.prog.globalNamed "pub-gyrfalcon/pub/apd.BaseContext" = some 0 := by kernel_rfl
  obtain rfl := Option.some.inj (hg.symm.trans hg1)
  obtain rfl := Option.some.inj ((show (Tryz.prog.globals[0]?).map (·.type) = some 99 by kernel_rfl).symm.trans ht1)
  obtain ⟨xs, n, _, ex, _, _, hf⟩ := DataW.trod_struct under_ctx hd
  have ed : xs.map (·.1) = [.lit (.int .u32 0), .lit (.int .i32 100000), .lit (.int .i32 (-100000)), .lit (.int .u32 1967), .lit (.string [])] := (DataW.agg.inj (Prod.mk.inj ex).1).symm
  obtain ⟨f0, a0, b0⟩ := ctx_field 0 _ rfl
  obtain ⟨f1, a1, b1⟩ := ctx_field 1 _ rfl
  obtain ⟨f2, a2, b2⟩ := ctx_field 2 _ rfl
  obtain ⟨f3, a3, b3⟩ := ctx_field 3 _ rfl
  obtain ⟨f4, a4, b4⟩ := ctx_field 4 _ rfl
  exact ⟨ctx_int hg hv (hf 0 f0 a0) b0 (by rw [ed]; rfl), ctx_int hg hv (hf 1 f1 a1) b1 (by rw [ed]; rfl), ctx_int hg hv (hf 2 f2 a2) b2 (by rw [ed]; rfl), ctx_int hg hv (hf 3 f3 a3) b3 (by rw [ed]; rfl), ctx_str hg hv (hf 4 f4 a4) b4 (by rw [ed]; rfl), hlt⟩
theorem star_es : "*errors.errorString" = "*" ++ "errors.errorString" := by decide
theorem row_es (u : TypeId) (h : Tryz.prog.typeName? 3 u = some "*errors.errorString") : u = 144 :=
  typeName_ptr_named (nm := "errors.errorString") (by rw [← star_es]; kernel_rfl) (by kernel_rfl) (by decide) u (by rw [← star_es]; exact h)
theorem eof_of_met {W : World} {r : List (String × DataW Unit)} (h : laidMet Tryz.prog (("io.EOF", Rows.laid_io_EOF) :: r) W) : EofV W := by
  obtain ⟨a, s, hv, _⟩ := laid_sentinel (g := 1) (ti := 61) (tp := 144) (te := 146) (ts := 9) h (by kernel_rfl) (by kernel_rfl) Tryz.underlying61 row_es Tryz.underlying144 Tryz.underlying146 rfl rfl Tryz.underlying9 (by kernel_rfl) (by kernel_rfl)
  have := World.var?_cell (show Tryz.prog.globalNamed "io.EOF" = some 1 by kernel_rfl) hv 0
  exact ⟨a, by simpa using this⟩
theorem glob_lt {W : World} (hsh : W.ShapedOpen Tryz.prog) : NG ≤ W.heap.size := by
  have h1 : (NG - 1) < Tryz.prog.globals.size := of_decide_eq_true (by kernel_rfl)
  have h2 : ((((begin Tryz.prog (fun _ _ => 0) default).world.heap[NG - 1]?).bind Obj.row?).isSome) = true := by kernel_rfl
  obtain ⟨⟨zero, t⟩, h3⟩ := Option.isSome_iff_exists.1 h2
  obtain ⟨cs, h4, _⟩ := hsh.1 (NG - 1) zero t h1 h3
  have h5 := (Array.getElem?_eq_some_iff.1 h4).1
  have : 0 < NG := by decide
  omega
theorem gv_of_laid {W : World} (hL : laidMetH Tryz.prog Rows.fnDecomposeRow.laid W) (hsh : W.ShapedOpen Tryz.prog) : Gv W := by
  rw [MakeChecks.laidMetH_plain _ _ _ (by kernel_rfl)] at hL
  have hE := eof_of_met hL.tail.tail.tail.tail.tail.tail
  have hs := glob_lt hsh
  obtain ⟨ps, hv, _, _⟩ := hL
  have r (i : Nat) (x : String × DataW Unit) (hi : Rows.fnDecomposeRow.laid[i]? = some x) : Lib.VarReads Tryz.prog W x.1 x.2 := Lib.LaidVars_reads hv x.1 x.2 (List.mem_of_getElem? hi)
  exact ⟨⟨hs, int_of_reads (t := 3) (by kernel_rfl) (by kernel_rfl) Tryz.underlying3 (r 9 _ rfl), int_of_reads (t := 3) (by kernel_rfl) (by kernel_rfl) Tryz.underlying3 (r 12 _ rfl),
    int_of_reads (t := 3) (by kernel_rfl) (by kernel_rfl) Tryz.underlying3 (r 13 _ rfl), int_of_reads (t := 3) (by kernel_rfl) (by kernel_rfl) Tryz.underlying3 (r 11 _ rfl), int_of_reads (t := 3) (by kernel_rfl) (by kernel_rfl) Tryz.underlying3 (r 10 _ rfl)⟩,
    hE, ctx_reads (r 14 _ rfl) (Nat.lt_of_lt_of_le (by decide) hs)⟩
end Go.Proofs.YtgilnnipephfjaaGreatDoor
