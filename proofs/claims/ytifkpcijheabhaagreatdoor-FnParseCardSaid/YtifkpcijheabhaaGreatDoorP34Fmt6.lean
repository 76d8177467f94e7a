/- strconv.AppendInt in base 10 of numbers from 0 to 9999. fmtF with noughts ahead or behind; fmtE. fmtE. -/
import Derived.Test.YtifkpcijheabhaaGreatDoorM31Safe
import Derived.Lib.ItoaMem
import Derived.Lib.AppendIntMem
set_option linter.unusedSimpArgs false
set_option linter.unusedVariables false
namespace Go.Proofs.YtifkpcijheabhaaGreatDoor
open Go.RowKit

/-- The table of the powers of ten. -/
def PT (w : World) : Prop := Lib.TabIs Tryz.prog w "internal/strconv.uint64pow10" .u64 Lib.pow10Tab
theorem PT.fr {S : Nat → Nat → Prop} {w w' : World} (h : PT w) (hG : NG ≤ w.heap.size) (f : Fr S w w') (hs : ∀ x y, S x y → NG ≤ x) : PT w' := by
  have hg : Tryz.prog.globalNamed "internal/strconv.uint64pow10" = some 14 := by kernel_rfl
  have hlt : 14 < NG := by decide
  unfold PT Lib.TabIs World.var? at *
  rw [hg] at h ⊢
  simp only [Option.bind_some] at h ⊢
  rw [f.block _ (Nat.lt_of_lt_of_le hlt hG) (fun o k => by have := hs _ _ k; omega)]
  exact h
theorem PT.new {w w' : World} (h : PT w) (hG : NG ≤ w.heap.size) (f : Fr (fun _ _ => False) w w') : PT w' := h.fr hG f (fun _ _ k => k.elim)
theorem nDigits_ndig (u : Nat) : Lib.nDigits u = ndig u := by
  induction u using Nat.strongRecOn with
  | _ u ih =>
    rw [Lib.nDigits, ndig]
    by_cases h : u < 10
    · rw [dif_pos h, dif_pos h]
    · rw [dif_neg h, dif_neg h, ih (u / 10) (by omega)]
theorem decDigits_natText (u : Nat) : Lib.decDigits u = natText u := by rw [Lib.decDigits_eq, natText, nDigits_ndig]; rfl
/-- 24 bytes, all 0. -/
def z24 (t : TypeId) : Obj := .cells #[.int .u8 0, .int .u8 0, .int .u8 0, .int .u8 0, .int .u8 0, .int .u8 0, .int .u8 0, .int .u8 0, .int .u8 0, .int .u8 0, .int .u8 0, .int .u8 0, .int .u8 0, .int .u8 0, .int .u8 0, .int .u8 0, .int .u8 0, .int .u8 0, .int .u8 0, .int .u8 0, .int .u8 0, .int .u8 0, .int .u8 0, .int .u8 0] t
theorem z24_eq (t : TypeId) : Obj.cells #[.int .u8 0, .int .u8 0, .int .u8 0, .int .u8 0, .int .u8 0, .int .u8 0, .int .u8 0, .int .u8 0, .int .u8 0, .int .u8 0, .int .u8 0, .int .u8 0, .int .u8 0, .int .u8 0, .int .u8 0, .int .u8 0, .int .u8 0, .int .u8 0, .int .u8 0, .int .u8 0, .int .u8 0, .int .u8 0, .int .u8 0, .int .u8 0] t = z24 t := rfl
theorem Fr_putRow {blk off : Nat} {d : Array UInt8} (w : World) : Fr (fun b _ => b = blk) w (Go.Sort.putRow (fun (b : UInt8) => Value.int .u8 (b.toNat : Int)) w blk off d) := by
  refine ⟨rfl, rfl, rfl, by simp, fun b o _ hb => Go.Sort.cell?_putRow_other _ _ _ _ _ _ (.inl hb), fun b _ => ?_, fun b _ hb => ?_⟩
  · unfold kind? Go.Sort.putRow Go.Sort.mapBlock
    simp only [Array.getElem?_modify]
    by_cases h : blk = b
    · simp only [h, if_true]
      cases hh : w.heap[b]? with
      | none => simp
      | some o => cases o <;> simp [Go.Sort.onCells]
    · simp [h]
  · have hne : blk ≠ b := fun q => hb 0 q.symm
    unfold Go.Sort.putRow Go.Sort.mapBlock
    simp [Array.getElem?_modify, hne]
theorem fmt10 {w : World} (u : Nat) (h2 : u < 10000) (d : Nat) :
    Calls Tryz.prog 183 #[.slice (some ⟨w.heap.size, 0, none⟩) (ndig u) 24, .int .u64 u] ((w.alloc (z24 218)).drewN d) fun e w' => e = .returned (.tuple #[]) ∧ Aside (Bs w' w.heap.size 0 (natText u)) ∧ Aside (Fr (fun _ _ => False) w w') := by
  obtain ⟨W, hW⟩ : ∃ x, (w.alloc (z24 218)).drewN d = x := ⟨_, rfl⟩
  have f1 : Fr (fun _ _ => False) w W := by rw [← hW]; exact ((Fr.refl _ w).alloc _).drewN d
  have h4 : ndig u ≤ 4 := ndig_le_of (by decide) (by simpa using h2)
  have hH : Go.Sort.Holds (fun (b : UInt8) => Value.int .u8 (b.toNat : Int)) W w.heap.size 0 (Array.replicate (ndig u) (0 : UInt8)) := by
    intro j hj
    simp at hj
    have hj24 : j < 24 := by omega
    have e : (Array.replicate (ndig u) (0 : UInt8))[j]! = 0 := by rw [getElem!_pos _ j (by simpa using hj)]; simp
    rw [← hW, e]
    refine ⟨?_, ?_⟩
    · show (w.alloc (z24 218)).cell? _ = _
      rw [Nat.zero_add, z24, World.cell?_alloc_new]
      show (Array.replicate 24 (Value.int .u8 0))[j]? = _
      simp [hj24]
    · show (w.alloc (z24 218)).frozen? _ = _
      exact free_of_kind (kind_alloc_new _ _ _ _) _
  rw [hW]
  have hc := Tryz.internal_strconv_formatBase10 w.heap.size 0 24 u (Array.replicate (ndig u) (0 : UInt8)) W hH (by simpa using lt_ndig u) (by omega) (by simp; omega)
  rw [Array.size_replicate] at hc
  refine hc.mono ?_
  rintro e w' ⟨rfl, n, v', dk, rfl, hI⟩
  rw [← nDigits_ndig] at hI
  have hsz : dk.size = ndig u := by rw [hI.size, nDigits_ndig]
  refine ⟨rfl, ⟨fun i hi => ?_⟩, ⟨?_⟩⟩
  · have hi2 : i < dk.size := by rw [hsz]; rwa [natText_length] at hi
    show (Go.Sort.putRow _ W w.heap.size 0 dk).cell? _ = _
    rw [Go.Sort.cell?_putRow _ _ _ _ _ _ hH (by simpa using hsz) i hi2]
    have hr := Lib.row_is_numeral hI i (by rw [decDigits_natText]; exact hi)
    simp only [decDigits_natText] at hr
    rw [hr]
  · exact f1.trans' ((Fr_putRow W).drewN n) (fun _ _ _ k => k) (fun x y hx k => by omega)
set_option maxRecDepth 100000 in
theorem appendUint_any {w : World} {ba : Option Addr} {n bc u : Nat} {l : List UInt8} (hG : NG ≤ w.heap.size) (hp : PT w) (hB : Bf w ba n bc l) (hn : n ≤ 20000) (hu : u < 10000) :
    Calls Tryz.prog 129 #[.slice ba n bc, .int .u64 u, .int .i64 10] w fun e1 w' => ∃ a' c', e1 = .returned (.slice a' (n + ndig u) c') ∧ BW w w' ba bc a' (n + ndig u) c' (l ++ natText u) := by
  have h4 : ndig u ≤ 4 := ndig_le_of (by decide) (by simpa using hu)
  have B0 := Aside.mk (BW.start hB)
  have hlen : (natText u).length = ndig u := natText_length u
  have HL := Aside.mk hlen
  by_cases hs : u < 100
  · have hS := Lib.hid (fun w1 => Tryz.internal_strconv_small u hs w1)
    have hsz : (⟨(Lib.decDigits u).toArray⟩ : ByteArray).size = ndig u := by rw [← natText_length, ← decDigits_natText]; rfl
    have hst : Aside (∀ w1, Src Tryz.prog 1 9 (.string ⟨(Lib.decDigits u).toArray⟩) (ndig u) (bv (natText u)) w1) := ⟨fun w1 => by
      have := Src.str ⟨(Lib.decDigits u).toArray⟩ w1
      rw [hsz] at this
      have e : (⟨(Lib.decDigits u).toArray⟩ : ByteArray).data.toList = natText u := by show (Lib.decDigits u).toArray.toList = natText u; rw [List.toList_toArray, decDigits_natText]
      rw [e] at this
      exact this⟩
    generalize hq : (⟨(Lib.decDigits u).toArray⟩ : ByteArray) = q at *
    clear hB hp hlen hsz hq
    go_enter Tryz.func129, Tryz.ntmps129
    go_wp2_with fail
    refine (hS.out _).mono ?_
    rintro e1 w2 ⟨rfl, rfl⟩
    go_wp2_with (at_builtin; go_must (refine wpList_appendB _ rfl (.tmp 13) (.tmp 16) 9 rfl (B0.out.size hG) B0.out.bf rfl rfl (hst.out _) HL.out (by omega) ?_; intro a1 c1 w1 k1 k2 k3; have B1 := Aside.mk (B0.out.append k1 k2 k3); clear k1 k2 k3))
    go_ret
    exact ⟨a1, c1, rfl, B1.out⟩
  · have HN : Hid (∀ w1, Fr (fun _ _ => False) w w1 → Calls Tryz.prog 182 #[.int .u64 u] w1 fun e w' => e = .returned (.int .i64 (ndig u : Nat)) ∧ w' = w1) := Lib.hid (fun w1 f => by
      have := Tryz.internal_strconv_numDigits u (by omega) (by omega) w1 (hp.new hG f)
      rwa [nDigits_ndig] at this)
    have HF := Lib.hid (fun d => fmt10 (w := w) u hu d)
    have hal : Tryz.prog.arrayLen 218 = 24 := by kernel_rfl
    have hsz1 : ∀ w1, (sizeOf (Tryz.prog.elem 218)).run Tryz.prog w1 = .ok 1 w1 := fun _ => by kernel_rfl
    have hsl : ∀ w1, (Instr.sliceAt 218 (.pointer (some ⟨w.heap.size, 0, none⟩)) none (some (.int .i64 ((ndig u : Nat) : Int))) none).run Tryz.prog w1 = .ok (.slice (some ⟨w.heap.size, 0, none⟩) (ndig u) 24) w1 := fun w1 => by
      rw [run_sliceAt_array_h w1 218 ⟨w.heap.size, 0, none⟩ (by kernel_rfl) .i64 _ (by omega) (by rw [hal]; omega), hsz1, hal]
      simp [slicedAt, Result.andThen, Addr.add]
    clear hal hsz1
    clear hB hp hlen
    go_enter Tryz.func129, Tryz.ntmps129
    go_wp2_with fail
    rw [z24_eq]
    refine (HN.out _ (by repeat first | exact Fr.refl _ _ | refine Fr.drewN ?_ _ | refine Fr.drew ?_ | refine Fr.alloc ?_ _)).mono ?_
    rintro e1 w2 ⟨rfl, rfl⟩
    go_wp2_with fail
    refine (HF.out 0).mono ?_
    rintro e1 w3 ⟨rfl, k1, k2⟩
    have hsrc : Aside (Src Tryz.prog 1 32 (.slice (some ⟨w.heap.size, 0, none⟩) (ndig u) 24) (ndig u) (bv (natText u)) w3) := ⟨Src.bytes (natText_length u) k1.out⟩
    have B1 := Aside.mk (B0.out.new k2.out)
    go_wp2_with (at_builtin; go_must (refine wpList_appendB _ rfl (.tmp 24) (.tmp 26) 32 rfl (B1.out.size hG) B1.out.bf rfl rfl hsrc.out HL.out (by omega) ?_; intro a1 c1 w4 k1 k2 k3; have B2 := Aside.mk (B1.out.append k1 k2 k3); clear k1 k2 k3))
    go_ret
    exact ⟨a1, c1, rfl, B2.out⟩
set_option maxRecDepth 100000 in
theorem appendInt_any {w : World} {ba : Option Addr} {n bc u : Nat} {l : List UInt8} (hG : NG ≤ w.heap.size) (hp : PT w) (hB : Bf w ba n bc l) (hn : n ≤ 20000) (hu : u < 10000) :
    Calls Tryz.prog 66 #[.slice ba n bc, .int .i64 u, .int .i64 10] w fun e1 w' => ∃ a' c', e1 = .returned (.slice a' (n + ndig u) c') ∧ BW w w' ba bc a' (n + ndig u) c' (l ++ natText u) := by
  have H : Hid (Calls Tryz.prog 87 #[.slice ba n bc, .int .i64 u, .int .i64 10] w fun e1 w' => ∃ a' c', e1 = .returned (.slice a' (n + ndig u) c') ∧ BW w w' ba bc a' (n + ndig u) c' (l ++ natText u)) := Lib.hid (by
    have H1 := Lib.hid (appendUint_any hG hp hB hn hu)
    clear hp hB
    go_enter Tryz.func87, Tryz.ntmps87
    go_wp2_with fail
    refine H1.out.mono ?_
    rintro e1 w2 ⟨a, c, rfl, k⟩
    have K := Aside.mk k
    clear k
    go_wp2_with fail
    go_ret
    exact ⟨a, c, rfl, K.out⟩)
  clear hp hB
  go_enter Tryz.func66, Tryz.ntmps66
  go_wp2_with fail
  refine H.out.mono ?_
  rintro e1 w2 ⟨a, c, rfl, k⟩
  have K := Aside.mk k
  clear k
  go_wp2_with fail
  go_ret
  exact ⟨a, c, rfl, K.out⟩
end Go.Proofs.YtifkpcijheabhaaGreatDoor
namespace Go.Proofs.YtifkpcijheabhaaGreatDoor
open Go.RowKit

theorem rep_snoc (k : Nat) (c : UInt8) : List.replicate (k + 1) c = List.replicate k c ++ [c] := List.replicate_succ'
set_option maxRecDepth 100000 in
set_option maxHeartbeats 1000000 in
theorem fmtF_low {w : World} {b : Nat} {f : Int} {ng : Bool} {a : Option Addr} {c X : Nat} {ba : Option Addr} {n bc gb go m gc z : Nat} {l dl : List UInt8} (hG : NG ≤ w.heap.size) (h : DA w b f ng (-((m + z : Nat) : Int)) a c X) (hz : z ≤ 10000) (hm0 : 0 < m) (hm : m ≤ 1000)
    (hB : Bf w ba n bc l) (hn : n ≤ 10000) (hd : Bs w gb go dl) (hdl : dl.length = m) (hmc : m ≤ gc) (hgb : gb < w.heap.size) (hdis : ∀ o, ¬ foot ba bc gb o) :
    Calls Tryz.prog 53 #[.slice ba n bc, .pointer (some ⟨b, 0, none⟩), .slice (some ⟨gb, go, none⟩) m gc] w fun e1 w' => ∃ a' n' c',
      e1 = .returned (.slice a' n' c') ∧ BW w w' ba bc a' n' c' (l ++ plainL dl (-((m + z : Nat) : Int))) := by
  have hexp := h.exp
  have hneg : (-((m + z : Nat) : Int) < 0) := by omega
  have hpl : plainL dl (-((m + z : Nat) : Int)) = [48, 46] ++ List.replicate z 48 ++ dl := by
    unfold plainL
    rw [if_pos hneg, if_pos (by omega), show (- -((m + z : Nat) : Int) - (dl.length : Int)).toNat = z from by omega]
  have hleft : -(-((m + z : Nat) : Int)) - (m : Int) = (z : Int) := by omega
  have B0 := Aside.mk (BW.start hB)
  have HB := Aside.mk hd
  have HDL := Aside.mk hdl
  have HD := Aside.mk hdis
  have HGB := Aside.mk hgb
  obtain ⟨E, hE⟩ : ∃ E : Int, -((m + z : Nat) : Int) = E := ⟨_, rfl⟩
  rw [hE] at hexp hneg hleft
  have hleft2 : -E - (m : Int) = (z : Int) := hleft
  have HE : Aside (-2147483648 ≤ E ∧ E ≤ 2147483647) := ⟨by omega⟩
  have hE1 : -20000 ≤ E := by omega
  rw [hpl]
  have hlit : Aside (∀ w1, Src Tryz.prog 1 9 (.string ⟨#[48, 46]⟩) 2 (bv [48, 46]) w1) := ⟨fun w1 => Src.str ⟨#[48, 46]⟩ w1⟩
  clear hB hd hdl hpl h hdis hgb hE hleft
  go_enter Tryz.func53, Tryz.ntmps53
  go_upto_region 5 with (at_builtin; go_must (refine wpList_appendB _ rfl (.tmp 27) (.const (.string ⟨#[48, 46]⟩)) 9 rfl hG B0.out.bf rfl rfl (hlit.out _) rfl (by omega) ?_; intro a1 c1 w1 k1 k2 k3; have B1 := Aside.mk (B0.out.append k1 k2 k3); clear k1 k2 k3))
  go_wp2_with fail
  go_loopw [0, 8] (fun sv iv wr => ∃ (k : Nat) (a2 : Option Addr) (c2 : Nat), k ≤ z ∧ sv = .slice a2 (n + 2 + k) c2 ∧ iv = .int .i64 k ∧ Aside (BW w wr ba bc a2 (n + 2 + k) c2 (l ++ [48, 46] ++ List.replicate k 48))) (fun _ iv _ => (z - (intOf iv)).toNat)
  case atStart => exact ⟨0, a1, c1, by omega, rfl, rfl, ⟨by simpa using B1.out⟩⟩
  case round =>
    obtain ⟨k, a2, c2, hk, rfl, rfl, hB⟩ := hrel
    by_cases hkz : k < z
    · go_upto_region 7 with (at_builtin; go_must (refine wpList_appendB _ rfl (.tmp 34) (.tmp 35) 32 rfl ((hB.out.alloc _).size hG) (hB.out.alloc _).bf rfl rfl (Src.one wr 48 5) rfl (by omega) ?_; intro a3 c3 w3 k1 k2 k3; have B2 := Aside.mk ((hB.out.alloc _).append k1 k2 k3); clear k1 k2 k3))
      go_wp2_with fail
      go_roundw
      case rel => exact ⟨k + 1, a3, c3, by omega, rfl, by go_num, ⟨by rw [rep_snoc, ← Nat.add_assoc]; simpa using B2.out⟩⟩
      case measure => simp [intOf]; omega
    · obtain rfl : k = z := by omega
      have S2 : Aside (Src Tryz.prog 1 32 (.slice (some ⟨gb, go, none⟩) m gc) m (bv dl) wr) := ⟨Src.bytes HDL.out (HB.out.fr hB.out.fr HGB.out (fun i _ => HD.out _))⟩
      go_wp2_with (at_builtin; go_must (refine wpList_appendB _ rfl (.tmp 37) (.tmp 38) 32 rfl (hB.out.size hG) hB.out.bf rfl rfl S2.out HDL.out (by omega) ?_; intro a3 c3 w3 k1 k2 k3; have B3 := Aside.mk (hB.out.append k1 k2 k3); clear k1 k2 k3))
      go_ret
      exact ⟨a3, _, c3, rfl, by simpa using B3.out⟩
set_option maxRecDepth 100000 in
set_option maxHeartbeats 1000000 in
theorem fmtF_high {w : World} {b : Nat} {f : Int} {ng : Bool} {a : Option Addr} {c X : Nat} {ba : Option Addr} {n bc gb go m gc z : Nat} {l dl : List UInt8} (hG : NG ≤ w.heap.size) (h : DA w b f ng (z : Int) a c X) (hz : z ≤ 10000) (hm0 : 0 < m) (hm : m ≤ 1000)
    (hB : Bf w ba n bc l) (hn : n ≤ 10000) (hd : Bs w gb go dl) (hdl : dl.length = m) (hmc : m ≤ gc) (hgb : gb < w.heap.size) (hdis : ∀ o, ¬ foot ba bc gb o) (hdb : b < w.heap.size ∧ ∀ o, ¬ foot ba bc b o) :
    Calls Tryz.prog 53 #[.slice ba n bc, .pointer (some ⟨b, 0, none⟩), .slice (some ⟨gb, go, none⟩) m gc] w fun e1 w' => ∃ a' n' c',
      e1 = .returned (.slice a' n' c') ∧ BW w w' ba bc a' n' c' (l ++ plainL dl (z : Int)) := by
  have hexp := h.exp
  have HX := Aside.mk hexp
  have hpl : plainL dl (z : Int) = dl ++ List.replicate z 48 := by
    unfold plainL
    rw [if_neg (by omega), Int.toNat_natCast]
  have B0 := Aside.mk (BW.start hB)
  have HB := Aside.mk hd
  have HDL := Aside.mk hdl
  have HDB := Aside.mk hdb
  rw [hpl]
  have S0 : Aside (Src Tryz.prog 1 32 (.slice (some ⟨gb, go, none⟩) m gc) m (bv dl) w) := ⟨Src.bytes hdl hd⟩
  clear hB hd hdl hpl h hdis hgb hdb
  go_enter Tryz.func53, Tryz.ntmps53
  go_upto_region 17 with (at_builtin; go_must (refine wpList_appendB _ rfl (.tmp 62) (.tmp 63) 32 rfl hG B0.out.bf rfl rfl S0.out HDL.out (by omega) ?_; intro a1 c1 w1 k1 k2 k3; have B1 := Aside.mk (B0.out.append k1 k2 k3); clear k1 k2 k3))
  go_wp2_with fail
  go_loopw [0, 10] (fun sv iv wr => ∃ (k : Nat) (a2 : Option Addr) (c2 : Nat), k ≤ z ∧ sv = .slice a2 (n + m + k) c2 ∧ iv = .int .i32 k ∧ Aside (BW w wr ba bc a2 (n + m + k) c2 (l ++ dl ++ List.replicate k 48))) (fun _ iv _ => (z - (intOf iv)).toNat)
  case atStart => exact ⟨0, a1, c1, by omega, rfl, rfl, ⟨by simpa using B1.out⟩⟩
  case round =>
    obtain ⟨k, a2, c2, hk, rfl, rfl, hB⟩ := hrel
    have hx2 := (hB.out.fr.cell b 2 HDB.out.1 (HDB.out.2 2)).trans HX.out
    by_cases hkz : k < z
    · go_upto_region 19 with (at_builtin; go_must (refine wpList_appendB _ rfl (.tmp 73) (.tmp 74) 32 rfl ((hB.out.alloc _).size hG) (hB.out.alloc _).bf rfl rfl (Src.one wr 48 5) rfl (by omega) ?_; intro a3 c3 w3 k1 k2 k3; have B2 := Aside.mk ((hB.out.alloc _).append k1 k2 k3); clear k1 k2 k3))
      go_wp2_with fail
      go_roundw
      case rel => exact ⟨k + 1, a3, c3, by omega, rfl, by go_num, ⟨by rw [rep_snoc, ← Nat.add_assoc]; simpa using B2.out⟩⟩
      case measure => simp [intOf]; omega
    · obtain rfl : k = z := by omega
      go_wp2_with fail
      go_ret
      exact ⟨a2, _, c2, rfl, by simpa using hB.out⟩
/-- Digits, and any exponent in reach: fmtF. -/
theorem fmtF_any {w : World} {b : Nat} {f e : Int} {ng : Bool} {a : Option Addr} {c X : Nat} {ba : Option Addr} {n bc gb go m gc : Nat} {l dl : List UInt8} (hG : NG ≤ w.heap.size) (h : DA w b f ng e a c X) (he : -10000 ≤ e ∧ e ≤ 10000) (hm0 : 0 < m) (hm : m ≤ 1000)
    (hB : Bf w ba n bc l) (hn : n ≤ 10000) (hd : Bs w gb go dl) (hdl : dl.length = m) (hmc : m ≤ gc) (hgb : gb < w.heap.size) (hdis : ∀ o, ¬ foot ba bc gb o) (hdb : b < w.heap.size ∧ ∀ o, ¬ foot ba bc b o) :
    Calls Tryz.prog 53 #[.slice ba n bc, .pointer (some ⟨b, 0, none⟩), .slice (some ⟨gb, go, none⟩) m gc] w fun e1 w' => ∃ a' n' c',
      e1 = .returned (.slice a' n' c') ∧ BW w w' ba bc a' n' c' (l ++ plainL dl e) := by
  by_cases h0 : 0 ≤ e
  · obtain ⟨z, rfl⟩ : ∃ z : Nat, e = z := ⟨e.toNat, by omega⟩
    exact fmtF_high hG h (by omega) hm0 hm hB hn hd hdl hmc hgb hdis hdb
  by_cases h1 : (m : Int) ≤ -e
  · obtain ⟨z, rfl⟩ : ∃ z : Nat, e = -((m + z : Nat) : Int) := ⟨(-e - m).toNat, by omega⟩
    exact fmtF_low hG h (by omega) hm0 hm hB hn hd hdl hmc hgb hdis
  · obtain ⟨q, rfl⟩ : ∃ q : Nat, e = -(q : Int) := ⟨(-e).toNat, by omega⟩
    refine (fmtF_mid hG h (by omega) (by omega) hm hB hn hd hdl hmc hgb hdis).mono ?_
    rintro e1 w' ⟨a', c', rfl, k⟩
    exact ⟨a', _, c', rfl, k⟩
end Go.Proofs.YtifkpcijheabhaaGreatDoor
namespace Go.Proofs.YtifkpcijheabhaaGreatDoor
open Go.RowKit

/-- An exponent with its mark. -/
def expL (k : Int) : List UInt8 := if k < 0 then 45 :: natText k.natAbs else 43 :: natText k.natAbs
/-- Digits with a point behind the first one, and an exponent. -/
def sciL (dl : List UInt8) (e : Int) (fm : UInt8) : List UInt8 := dl.take 1 ++ (if 1 < dl.length then 46 :: dl.drop 1 else []) ++ [fm] ++ expL (e + dl.length - 1)
set_option maxRecDepth 100000 in
set_option maxHeartbeats 1000000 in
theorem fmtE_any {w : World} {b : Nat} {f e : Int} {ng : Bool} {a : Option Addr} {c X : Nat} {ba : Option Addr} {n bc gb go m gc : Nat} {l dl : List UInt8} {fm : UInt8} (hG : NG ≤ w.heap.size) (hp : PT w) (hlo : ∀ x y, foot ba bc x y → NG ≤ x) (h : DA w b f ng e a c X) (he : -5000 ≤ e ∧ e ≤ 5000) (hm0 : 0 < m) (hm : m ≤ 1000)
    (hB : Bf w ba n bc l) (hn : n ≤ 10000) (hd : Bs w gb go dl) (hdl : dl.length = m) (hmc : m ≤ gc) (hgb : gb < w.heap.size) (hdis : ∀ o, ¬ foot ba bc gb o) :
    Calls Tryz.prog 52 #[.slice ba n bc, .int .u8 ((fm.toNat : Nat) : Int), .pointer (some ⟨b, 0, none⟩), .slice (some ⟨gb, go, none⟩) m gc] w fun e1 w' => ∃ a' n' c',
      e1 = .returned (.slice a' n' c') ∧ BW w w' ba bc a' n' c' (l ++ sciL dl e fm) := by
  have hexp := h.exp
  have hd0 : w.cell? ⟨gb, go, none⟩ = some (.int .u8 (((dl[0]'(by omega)).toNat : Nat) : Int)) := by have := hd 0 (by omega); simpa using this
  obtain ⟨x0, hx0⟩ : ∃ x, dl[0]'(by omega) = x := ⟨_, rfl⟩
  rw [hx0] at hd0
  have htk : dl.take 1 = [x0] := by rw [List.take_succ_eq_append_getElem (by omega), hx0]; simp
  obtain ⟨A, hA⟩ : ∃ A : Int, e + (m : Int) - 1 = A := ⟨_, rfl⟩
  have hsci : sciL dl e fm = [x0] ++ (if 1 < m then 46 :: dl.drop 1 else []) ++ [fm] ++ expL A := by
    unfold sciL; rw [htk, hdl, hA]
  have hAb : -5000 ≤ A ∧ A ≤ 6000 := by omega
  rw [hsci]
  have B0 := Aside.mk (BW.start hB)
  have HB := Aside.mk hd
  have HDL := Aside.mk hdl
  have HD := Aside.mk hdis
  have HGB := Aside.mk hgb
  have HP := Aside.mk hp
  have HLO := Aside.mk hlo
  have HM := Aside.mk hm0
  have hI : Aside (∀ (u : Nat) (w1 : World) (a1 : Option Addr) (n1 c1 : Nat) (l1 : List UInt8), u < 10000 → n1 ≤ 20000 → BW w w1 ba bc a1 n1 c1 l1 →
      Calls Tryz.prog 66 #[.slice a1 n1 c1, .int .i64 u, .int .i64 10] w1 fun e1 w' => ∃ a' c', e1 = .returned (.slice a' (n1 + ndig u) c') ∧ Aside (BW w w' ba bc a' (n1 + ndig u) c' (l1 ++ natText u))) := ⟨fun u w1 a1 n1 c1 l1 hu hn1 hb1 => by
    refine (appendInt_any (hb1.size hG) (hp.fr hG hb1.fr hlo) hb1.bf hn1 hu).mono ?_
    rintro e1 w' ⟨a', c', rfl, k⟩
    exact ⟨a', c', rfl, ⟨hb1.append k.bf k.fr k.out⟩⟩⟩
  clear hB hd hdl hp hlo h hdis hgb hsci htk hx0
  by_cases h1 : m = 1
  · subst h1
    have hA2 : e = A := by omega
    subst hA2
    by_cases hneg : e < 0
    · obtain ⟨u, rfl⟩ : ∃ u : Nat, e = -(u : Int) := ⟨e.natAbs, by omega⟩
      have hu : u < 10000 := by omega
      have hex : expL (-(u : Int)) = 45 :: natText u := by unfold expL; rw [if_pos hneg]; simp
      rw [hex]
      go_enter Tryz.func52, Tryz.ntmps52
      go_upto_region 3 with (at_builtin; go_must (refine wpList_appendB _ rfl (.tmp 20) (.tmp 24) 32 rfl ((B0.out.alloc _).size hG) (B0.out.alloc _).bf rfl rfl (Src.one w x0 5) rfl (by omega) ?_; intro a1 c1 w1 k1 k2 k3; have B1 := Aside.mk ((B0.out.alloc _).append k1 k2 k3); clear k1 k2 k3))
      go_upto_region 7 with (at_builtin; go_must (refine wpList_appendB _ rfl (.tmp 36) (.tmp 38) 32 rfl ((B1.out.alloc _).size hG) (B1.out.alloc _).bf rfl rfl (Src.one w1 fm 5) rfl (by omega) ?_; intro a2 c2 w2 k1 k2 k3; have B2 := Aside.mk ((B1.out.alloc _).append k1 k2 k3); clear k1 k2 k3))
      go_upto_region 13 with (at_builtin; go_must (refine wpList_appendB _ rfl (.tmp 44) (.tmp 46) 32 rfl ((B2.out.alloc _).size hG) (B2.out.alloc _).bf rfl rfl (Src.one w2 45 5) rfl (by omega) ?_; intro a3 c3 w3 k1 k2 k3; have B3 := Aside.mk ((B2.out.alloc _).append k1 k2 k3); clear k1 k2 k3))
      go_wp2_with fail
      refine (hI.out u _ _ _ _ _ hu (by omega) B3.out).mono ?_
      rintro e1 w4 ⟨a4, c4, rfl, B4⟩
      go_wp2_with fail
      go_ret
      exact ⟨a4, _, c4, rfl, by simpa using B4.out⟩
    · obtain ⟨u, rfl⟩ : ∃ u : Nat, e = (u : Int) := ⟨e.natAbs, by omega⟩
      have hu : u < 10000 := by omega
      have hex : expL (u : Int) = 43 :: natText u := by unfold expL; rw [if_neg hneg]; simp
      rw [hex]
      go_enter Tryz.func52, Tryz.ntmps52
      go_upto_region 3 with (at_builtin; go_must (refine wpList_appendB _ rfl (.tmp 20) (.tmp 24) 32 rfl ((B0.out.alloc _).size hG) (B0.out.alloc _).bf rfl rfl (Src.one w x0 5) rfl (by omega) ?_; intro a1 c1 w1 k1 k2 k3; have B1 := Aside.mk ((B0.out.alloc _).append k1 k2 k3); clear k1 k2 k3))
      go_upto_region 7 with (at_builtin; go_must (refine wpList_appendB _ rfl (.tmp 36) (.tmp 38) 32 rfl ((B1.out.alloc _).size hG) (B1.out.alloc _).bf rfl rfl (Src.one w1 fm 5) rfl (by omega) ?_; intro a2 c2 w2 k1 k2 k3; have B2 := Aside.mk ((B1.out.alloc _).append k1 k2 k3); clear k1 k2 k3))
      go_upto_region 13 with (at_builtin; go_must (refine wpList_appendB _ rfl (.tmp 44) (.tmp 46) 32 rfl ((B2.out.alloc _).size hG) (B2.out.alloc _).bf rfl rfl (Src.one w2 43 5) rfl (by omega) ?_; intro a3 c3 w3 k1 k2 k3; have B3 := Aside.mk ((B2.out.alloc _).append k1 k2 k3); clear k1 k2 k3))
      go_wp2_with fail
      refine (hI.out u _ _ _ _ _ hu (by omega) B3.out).mono ?_
      rintro e1 w4 ⟨a4, c4, rfl, B4⟩
      go_wp2_with fail
      go_ret
      exact ⟨a4, _, c4, rfl, by simpa using B4.out⟩
  · have hm1 : 1 < m := by omega
    have hle1 : (1 : Int) < m := by omega
    have S1 : Aside (∀ w1 a1 n1 c1 l1, BW w w1 ba bc a1 n1 c1 l1 → Src Tryz.prog 1 32 (.slice (some ⟨gb, go + 1, none⟩) (m - 1) (gc - 1)) (m - 1) (bv (dl.drop 1)) w1) := ⟨fun w1 a1 n1 c1 l1 hb1 => by
      have := Src.part (c := gc - 1) 1 (m - 1) (HB.out.fr hb1.fr HGB.out (fun i _ => HD.out _)) (by have := HDL.out; omega)
      rwa [List.take_of_length_le (by simp [HDL.out])] at this⟩
    have hdr : (dl.drop 1).length = m - 1 := by simp [HDL.out]
    have HDR := Aside.mk hdr
    rw [if_pos hm1]
    clear hdr h1
    by_cases hneg : A < 0
    · obtain ⟨u, rfl⟩ : ∃ u : Nat, A = -(u : Int) := ⟨A.natAbs, by omega⟩
      have hu : u < 10000 := by omega
      have hex : expL (-(u : Int)) = 45 :: natText u := by unfold expL; rw [if_pos hneg]; simp
      rw [hex]
      go_enter Tryz.func52, Tryz.ntmps52
      go_upto_region 3 with (at_builtin; go_must (refine wpList_appendB _ rfl (.tmp 20) (.tmp 24) 32 rfl ((B0.out.alloc _).size hG) (B0.out.alloc _).bf rfl rfl (Src.one w x0 5) rfl (by omega) ?_; intro a1 c1 w1 k1 k2 k3; have B1 := Aside.mk ((B0.out.alloc _).append k1 k2 k3); clear k1 k2 k3))
      go_upto_region 5 with (at_builtin; go_must (refine wpList_appendB _ rfl (.tmp 29) (.tmp 30) 32 rfl ((B1.out.alloc _).size hG) (B1.out.alloc _).bf rfl rfl (Src.one w1 46 5) rfl (by omega) ?_; intro a2 c2 w2 k1 k2 k3; have B2 := Aside.mk ((B1.out.alloc _).append k1 k2 k3); clear k1 k2 k3))
      go_upto_region 6 with (at_builtin; go_must (refine wpList_appendB _ rfl (.tmp 32) (.tmp 34) 32 rfl (B2.out.size hG) B2.out.bf rfl rfl (S1.out _ _ _ _ _ B2.out) HDR.out (by omega) ?_; intro a3 c3 w3 k1 k2 k3; have B3 := Aside.mk (B2.out.append k1 k2 k3); clear k1 k2 k3))
      go_upto_region 7 with (at_builtin; go_must (refine wpList_appendB _ rfl (.tmp 36) (.tmp 38) 32 rfl ((B3.out.alloc _).size hG) (B3.out.alloc _).bf rfl rfl (Src.one w3 fm 5) rfl (by omega) ?_; intro a4 c4 w4 k1 k2 k3; have B4 := Aside.mk ((B3.out.alloc _).append k1 k2 k3); clear k1 k2 k3))
      go_upto_region 13 with (at_builtin; go_must (refine wpList_appendB _ rfl (.tmp 44) (.tmp 46) 32 rfl ((B4.out.alloc _).size hG) (B4.out.alloc _).bf rfl rfl (Src.one w4 45 5) rfl (by omega) ?_; intro a5 c5 w5 k1 k2 k3; have B5 := Aside.mk ((B4.out.alloc _).append k1 k2 k3); clear k1 k2 k3))
      go_wp2_with fail
      refine (hI.out u _ _ _ _ _ hu (by omega) B5.out).mono ?_
      rintro e1 w6 ⟨a6, c6, rfl, B6⟩
      go_wp2_with fail
      go_ret
      exact ⟨a6, _, c6, rfl, by simpa using B6.out⟩
    · obtain ⟨u, rfl⟩ : ∃ u : Nat, A = (u : Int) := ⟨A.natAbs, by omega⟩
      have hu : u < 10000 := by omega
      have hex : expL (u : Int) = 43 :: natText u := by unfold expL; rw [if_neg hneg]; simp
      rw [hex]
      go_enter Tryz.func52, Tryz.ntmps52
      go_upto_region 3 with (at_builtin; go_must (refine wpList_appendB _ rfl (.tmp 20) (.tmp 24) 32 rfl ((B0.out.alloc _).size hG) (B0.out.alloc _).bf rfl rfl (Src.one w x0 5) rfl (by omega) ?_; intro a1 c1 w1 k1 k2 k3; have B1 := Aside.mk ((B0.out.alloc _).append k1 k2 k3); clear k1 k2 k3))
      go_upto_region 5 with (at_builtin; go_must (refine wpList_appendB _ rfl (.tmp 29) (.tmp 30) 32 rfl ((B1.out.alloc _).size hG) (B1.out.alloc _).bf rfl rfl (Src.one w1 46 5) rfl (by omega) ?_; intro a2 c2 w2 k1 k2 k3; have B2 := Aside.mk ((B1.out.alloc _).append k1 k2 k3); clear k1 k2 k3))
      go_upto_region 6 with (at_builtin; go_must (refine wpList_appendB _ rfl (.tmp 32) (.tmp 34) 32 rfl (B2.out.size hG) B2.out.bf rfl rfl (S1.out _ _ _ _ _ B2.out) HDR.out (by omega) ?_; intro a3 c3 w3 k1 k2 k3; have B3 := Aside.mk (B2.out.append k1 k2 k3); clear k1 k2 k3))
      go_upto_region 7 with (at_builtin; go_must (refine wpList_appendB _ rfl (.tmp 36) (.tmp 38) 32 rfl ((B3.out.alloc _).size hG) (B3.out.alloc _).bf rfl rfl (Src.one w3 fm 5) rfl (by omega) ?_; intro a4 c4 w4 k1 k2 k3; have B4 := Aside.mk ((B3.out.alloc _).append k1 k2 k3); clear k1 k2 k3))
      go_upto_region 13 with (at_builtin; go_must (refine wpList_appendB _ rfl (.tmp 44) (.tmp 46) 32 rfl ((B4.out.alloc _).size hG) (B4.out.alloc _).bf rfl rfl (Src.one w4 43 5) rfl (by omega) ?_; intro a5 c5 w5 k1 k2 k3; have B5 := Aside.mk ((B4.out.alloc _).append k1 k2 k3); clear k1 k2 k3))
      go_wp2_with fail
      refine (hI.out u _ _ _ _ _ hu (by omega) B5.out).mono ?_
      rintro e1 w6 ⟨a6, c6, rfl, B6⟩
      go_wp2_with fail
      go_ret
      exact ⟨a6, _, c6, rfl, by simpa using B6.out⟩
end Go.Proofs.YtifkpcijheabhaaGreatDoor
