/- Bytes written one behind the other: what the appends come to; fmtF. Decimal.Append and Text in the format G, of a decimal with its point among its digits. Decimal.Text in the format G, of a decimal with its point among its digits. impl.safe: a closure that does not panic. -/
import Derived.Test.YtgilnnipephfjaaGreatDoorM28Str2
import Derived.Deep.CutBlock
import Derived.Deep.DeepCutAuto
import Derived.Recover
set_option linter.unusedSimpArgs false
set_option linter.unusedVariables false
namespace Go.Proofs.YtgilnnipephfjaaGreatDoor
open Go.RowKit

/-- A slice of bytes that has been appended to since w. -/
structure BW (w wr : World) (ba : Option Addr) (bc : Nat) (a : Option Addr) (n c : Nat) (l : List UInt8) : Prop where
  bf : Bf wr a n c l
  fr : Fr (foot ba bc) w wr
  out : Out w ba bc a c
theorem BW.start {w : World} {ba : Option Addr} {n bc : Nat} {l : List UInt8} (h : Bf w ba n bc l) : BW w w ba bc ba n bc l := ⟨h, Fr.refl _ _, .inl ⟨rfl, rfl⟩⟩
theorem BW.append {w wr w2 : World} {ba a a2 : Option Addr} {bc n c c2 m : Nat} {l l2 : List UInt8} (h : BW w wr ba bc a n c l) (k1 : Bf w2 a2 m c2 l2) (k2 : Fr (foot a c) wr w2) (k3 : Out wr a c a2 c2) : BW w w2 ba bc a2 m c2 l2 := by
  refine ⟨k1, h.fr.trans' k2 (fun _ _ _ k => k) (fun x y hx k => ?_), ?_⟩
  · rcases h.out with ⟨rfl, rfl⟩ | ⟨b2, o2, rfl, h2⟩
    · exact k
    · rw [foot_some] at k; omega
  · rcases k3 with ⟨rfl, rfl⟩ | ⟨b2, o2, rfl, h2⟩
    · exact h.out
    · exact .inr ⟨b2, o2, rfl, Nat.le_trans h.fr.size h2⟩
theorem BW.new {w wr w2 : World} {ba a : Option Addr} {bc n c : Nat} {l : List UInt8} (h : BW w wr ba bc a n c l) (f : Fr (fun _ _ => False) wr w2) : BW w w2 ba bc a n c l :=
  ⟨h.bf.fr f (fun _ _ _ k => k), h.fr.trans' f (fun _ _ _ k => k) (fun _ _ _ k => k.elim), h.out⟩
theorem BW.alloc {w wr : World} {ba a : Option Addr} {bc n c : Nat} {l : List UInt8} (h : BW w wr ba bc a n c l) (o : Obj) : BW w (wr.alloc o) ba bc a n c l := h.new ((Fr.refl _ _).alloc o)
theorem BW.size {w wr : World} {ba a : Option Addr} {bc n c : Nat} {l : List UInt8} (h : BW w wr ba bc a n c l) (hG : NG ≤ w.heap.size) : NG ≤ wr.heap.size := Nat.le_trans hG h.fr.size
theorem Src.one (w : World) (x : UInt8) (t : TypeId) : Src Tryz.prog 1 38 (.slice (some ⟨w.heap.size, 0, none⟩) 1 1) 1 (bv [x]) (w.alloc (.cells #[.int .u8 ((x.toNat : Nat) : Int)] t)) :=
  Src.bytes rfl (fun i hi => by
    simp at hi
    subst hi
    rw [World.cell?_alloc_new]; rfl)
theorem Src.part {w : World} {b o c : Nat} {l : List UInt8} (i n : Nat) (h : Bs w b o l) (hi : i + n ≤ l.length) : Src Tryz.prog 1 38 (.slice (some ⟨b, o + i, none⟩) n c) n (bv ((l.drop i).take n)) w :=
  Src.bytes (by simp; omega) (fun j hj => by
    simp at hj
    rw [Nat.add_assoc, h (i + j) (by omega)]
    simp)

/-- Digits with an exponent, written without one. -/
def plainL (dl : List UInt8) (e : Int) : List UInt8 :=
  if e < 0 then (if (dl.length : Int) ≤ -e then [48, 46] ++ List.replicate (-e - dl.length).toNat 48 ++ dl else dl.take (dl.length - (-e).toNat) ++ [46] ++ dl.drop (dl.length - (-e).toNat))
  else dl ++ List.replicate e.toNat 48

set_option maxRecDepth 100000 in
set_option maxHeartbeats 1000000 in
theorem fmtF_mid {w : World} {b : Nat} {f : Int} {ng : Bool} {a : Option Addr} {c X : Nat} {ba : Option Addr} {n bc gb go m gc q : Nat} {l dl : List UInt8} (hG : NG ≤ w.heap.size) (h : DA w b f ng (-(q : Int)) a c X) (hq0 : 0 < q) (hqm : q < m) (hm : m ≤ 1000)
    (hB : Bf w ba n bc l) (hn : n ≤ 10000) (hd : Bs w gb go dl) (hdl : dl.length = m) (hmc : m ≤ gc) (hgb : gb < w.heap.size) (hdis : ∀ o, ¬ foot ba bc gb o) :
    Calls Tryz.prog 81 #[.slice ba n bc, .pointer (some ⟨b, 0, none⟩), .slice (some ⟨gb, go, none⟩) m gc] w fun e1 w' => ∃ a' c',
      e1 = .returned (.slice a' (n + (m - q) + 1 + q) c') ∧ BW w w' ba bc a' (n + (m - q) + 1 + q) c' (l ++ plainL dl (-(q : Int))) := by
  have hexp := h.exp
  obtain ⟨k, hk⟩ : ∃ k, m = k + q := ⟨m - q, by omega⟩
  have hpl : plainL dl (-(q : Int)) = dl.take k ++ [46] ++ dl.drop k := by
    unfold plainL
    rw [if_pos (by omega), if_neg (by omega), show dl.length - (- -(q : Int)).toNat = k from by omega]
  have hkq : k + q ≤ 1000 := by omega
  have hk0 : 0 < k := by omega
  have B0 := Aside.mk (BW.start hB)
  have S0 : Aside (Src Tryz.prog 1 38 (.slice (some ⟨gb, go, none⟩) k gc) k (bv (dl.take k)) w) := ⟨by simpa using Src.part (c := gc) 0 k hd (by omega)⟩
  have HB := Aside.mk hd
  have HDL := Aside.mk hdl
  rw [show m - q = k from by omega, hpl]
  subst hk
  have ho : -((q : Int) - ((k : Int) + (q : Int))) = (k : Int) := by omega
  clear hB hd hdl hpl h
  go_enter Tryz.func81, Tryz.ntmps81
  go_upto_region 12 with (fail)
  go_upto_region 13 with (at_builtin; go_must (refine wpList_appendB _ rfl (.tmp 44) (.tmp 47) 38 rfl hG B0.out.bf rfl rfl S0.out (by simp [HDL.out]) (by omega) ?_; intro a1 c1 w1 k1 k2 k3; have B1 := Aside.mk (B0.out.append k1 k2 k3); clear k1 k2 k3))
  go_upto_region 14 with (at_builtin; go_must (refine wpList_appendB _ rfl (.tmp 49) (.tmp 50) 38 rfl ((B1.out.alloc _).size hG) (B1.out.alloc _).bf rfl rfl (Src.one w1 46 5) rfl (by omega) ?_; intro a2 c2 w2 k1 k2 k3; have B2 := Aside.mk ((B1.out.alloc _).append k1 k2 k3); clear k1 k2 k3))
  have S2 : Aside (Src Tryz.prog 1 38 (.slice (some ⟨gb, go + k, none⟩) q (gc - k)) q (bv (dl.drop k)) w2) := ⟨by
    have := Src.part (c := gc - k) k q (HB.out.fr B2.out.fr hgb (fun i _ => hdis _)) (by have := HDL.out; omega)
    rwa [List.take_of_length_le (by simp [HDL.out])] at this⟩
  go_wp2_with (at_builtin; go_must (refine wpList_appendB _ rfl (.tmp 52) (.tmp 55) 38 rfl (B2.out.size hG) B2.out.bf rfl rfl S2.out (by simp [HDL.out]) (by omega) ?_; intro a3 c3 w3 k1 k2 k3; have B3 := Aside.mk (B2.out.append k1 k2 k3); clear k1 k2 k3))
  go_ret
  exact ⟨a3, c3, rfl, by have := B3.out; simp only [List.append_assoc] at this ⊢; exact this⟩
end Go.Proofs.YtgilnnipephfjaaGreatDoor
namespace Go.Proofs.YtgilnnipephfjaaGreatDoor
open Go.RowKit

/-- A mark ahead. -/
def markL (n : Bool) : List UInt8 := if n then [45] else []
theorem zero16 (w : World) (hG : NG ≤ w.heap.size) (t : TypeId) : Bf (w.alloc (.cells #[.int .u8 0, .int .u8 0, .int .u8 0, .int .u8 0, .int .u8 0, .int .u8 0, .int .u8 0, .int .u8 0, .int .u8 0, .int .u8 0, .int .u8 0, .int .u8 0, .int .u8 0, .int .u8 0, .int .u8 0, .int .u8 0] t)) (some ⟨w.heap.size, 0, none⟩) 0 16 [] := by
  refine ⟨rfl, by omega, .inr ⟨_, _, rfl, ⟨fun i hi => ⟨0, by omega, ?_⟩, ⟨hG, t, kind_alloc_new _ _ _ _⟩⟩, fun i hi => by simp at hi⟩⟩
  rw [World.cell?_alloc_new]
  show (Array.replicate 16 (Value.int .u8 0))[0 + i]? = _
  simp [hi]
theorem Bf.lt {w : World} {a : Option Addr} {n c : Nat} {l : List UInt8} (h : Bf w a n c l) (x y : Nat) (k : foot a c x y) : x < w.heap.size := by
  obtain ⟨b', o', rfl, rfl, _, _⟩ := k
  rcases h.reg with ⟨q, _⟩ | ⟨b2, o2, q, ho, _⟩
  · cases q
  · cases q; exact ho.kind.lt
theorem Bf.lo {w : World} {a : Option Addr} {n c : Nat} {l : List UInt8} (h : Bf w a n c l) (x y : Nat) (k : foot a c x y) : NG ≤ x := by
  obtain ⟨b', o', rfl, rfl, _, _⟩ := k
  rcases h.reg with ⟨q, _⟩ | ⟨b2, o2, q, ho, _⟩
  · cases q
  · cases q; exact ho.kind.1
theorem Bf.pos {w : World} {a : Option Addr} {n c : Nat} {l : List UInt8} (h : Bf w a n c l) (hn : 0 < n) : ∃ b o, a = some ⟨b, o, none⟩ ∧ Bs w b o l ∧ b < w.heap.size := by
  rcases h.reg with ⟨rfl, rfl⟩ | ⟨b, o, rfl, ho, hb⟩
  · have := h.le; omega
  · exact ⟨b, o, rfl, hb, ho.kind.lt⟩
/-- 16 bytes, all 0. -/
def z16 (t : TypeId) : Obj := .cells #[.int .u8 0, .int .u8 0, .int .u8 0, .int .u8 0, .int .u8 0, .int .u8 0, .int .u8 0, .int .u8 0, .int .u8 0, .int .u8 0, .int .u8 0, .int .u8 0, .int .u8 0, .int .u8 0, .int .u8 0, .int .u8 0] t
theorem z16_eq (t : TypeId) : Obj.cells #[.int .u8 0, .int .u8 0, .int .u8 0, .int .u8 0, .int .u8 0, .int .u8 0, .int .u8 0, .int .u8 0, .int .u8 0, .int .u8 0, .int .u8 0, .int .u8 0, .int .u8 0, .int .u8 0, .int .u8 0, .int .u8 0] t = z16 t := rfl
/-- The digits that Append lays into an array of its own. -/
theorem digits_own {w wr : World} {b : Nat} {ng : Bool} {e : Int} {a : Option Addr} {c X : Nat} (g : Gv w) (h : DA w b 0 ng e a c X) (h8 : Sm X) (hlen : ndig X ≤ 1000) (f : Fr (fun _ _ => False) w wr) (d : Nat) :
    Calls Tryz.prog 79 #[.pointer (some ⟨b, 3, none⟩), .slice (some ⟨wr.heap.size, 0, none⟩) 0 16, .int .i64 10] ((wr.alloc (z16 126)).drewN d) fun e1 w' => ∃ gb go c', e1 = .returned (.slice (some ⟨gb, go, none⟩) (ndig X) c') ∧ Aside (Bs w' gb go (natText X)) ∧ Aside (ndig X ≤ c') ∧ Aside (gb < w'.heap.size ∧ w.heap.size ≤ gb) ∧ Aside (Fr (fun _ _ => False) w w') := by
  have f1 : Fr (fun _ _ => False) w ((wr.alloc (z16 126)).drewN d) := (f.alloc _).drewN d
  have hB : Bf ((wr.alloc (z16 126)).drewN d) (some ⟨wr.heap.size, 0, none⟩) 0 16 [] := (zero16 wr (Nat.le_trans g.g.size f.size) _).drewN d
  refine (bAppend_any (g.new f1).g (h.fr f1 (fun _ _ _ k => k)).num h8 hB (by omega) (by rw [txt_false, natText_length]; omega)).mono ?_
  rintro e1 w' ⟨a', c', rfl, k1, k2, k3⟩
  rw [txt_false, natText_length, List.nil_append, Nat.zero_add] at k1
  obtain ⟨gb, go, rfl, hb, hlt⟩ := k1.pos (ndig_pos X)
  have hnew : w.heap.size ≤ gb := by
    have := f.size
    rcases k3 with ⟨e, _⟩ | ⟨b2, o2, e, h2⟩
    · cases e; exact this
    · cases e; simp at h2; omega
  refine ⟨gb, go, c', by rw [txt_false, natText_length, Nat.zero_add], ⟨hb⟩, ⟨k1.le⟩, ⟨hlt, hnew⟩, ⟨f1.trans' k2 (fun _ _ _ k => k) (fun x y hx k => ?_)⟩⟩
  rw [foot_some] at k
  have := f.size
  omega
set_option maxRecDepth 100000 in
set_option maxHeartbeats 2000000 in
theorem dAppend_mid {w : World} {b : Nat} {ng : Bool} {a : Option Addr} {c X : Nat} {ba : Option Addr} {n bc q : Nat} {l : List UInt8} (g : Gv w) (h : DA w b 0 ng (-(q : Int)) a c X) (h0 : X ≠ 0) (h8 : Sm X) (hX : bl X ≤ 1100) (hq0 : 0 < q) (hqm : q < ndig X) (hm : ndig X ≤ 1000)
    (hB : Bf w ba n bc l) (hn : n ≤ 5000) (hdis : ∀ x y, foot ba bc x y → ¬ dfoot b a c x y) :
    Calls Tryz.prog 52 #[.pointer (some ⟨b, 0, none⟩), .slice ba n bc, .int .u8 71] w fun e1 w' => ∃ a' n' c',
      e1 = .returned (.slice a' n' c') ∧ BW w w' ba bc a' n' c' (l ++ (markL ng ++ plainL (natText X) (-(q : Int)))) := by
  have hneg := h.neg
  have hform := h.form
  have hexp := h.exp
  have HD := Aside.mk h
  have HG := Aside.mk g
  have B0 := Aside.mk (BW.start hB)
  have hG := g.g.size
  have HLT := Aside.mk hB.lt
  have HLB : Aside (∀ x y, foot ba bc x y → NG ≤ x) := ⟨hB.lo⟩
  have hb0 : ((bl X : Int) == 0) = false := by rw [beq_eq_false_iff_ne]; have := bl_pos h0; omega
  have t1 : -6 ≤ -(q : Int) + ((ndig X : Int) - 1) := by omega
  have t2 : -(q : Int) ≤ 0 := by omega
  cases ng
  · clear h g hB
    go_enter Tryz.func52, Tryz.ntmps52
    go_upto_region 13 with (fail)
    rw [z16_eq]
    go_region_with (go_at_call 79; go_must (refine (digits_own HG.out HD.out h8 hm (Fr.refl _ _) _).mono ?_; rintro e1 w2 ⟨gb, go, gc, rfl, g1, g2, g3, g4⟩))
    all_goals
      have D2 := HD.out.fr g4.out (fun _ _ _ k => k)
      have hexp2 := D2.exp
      have hbl2 := Lib.hid (bBitLen_any D2.num (by have := sm_len h8; omega))
      have B1 := B0.out.new g4.out
      have hF := Lib.hid (fmtF_mid (Nat.le_trans HG.out.g.size g4.out.size) D2 hq0 hqm hm B1.bf (by omega) g1.out (natText_length X) g2.out g3.out.1 (fun o k => by have := HLT.out _ _ k; have := g3.out.2; omega))
      have HB1 := Aside.mk B1
      clear D2 B1
      go_wp2_with fail
      refine hbl2.out.mono ?_
      rintro e1 w3 ⟨rfl, rfl⟩
      clear hbl2
      go_wp2_with fail
      refine hF.out.mono ?_
      rintro e1 w4 ⟨a4, c4, rfl, k4⟩
      have K4 := Aside.mk (HB1.out.append k4.bf k4.fr k4.out)
      clear k4 hF
      go_wp2_with fail
      go_ret
      exact ⟨a4, _, c4, rfl, by simpa [markL] using K4.out⟩
  · clear h g hB
    go_enter Tryz.func52, Tryz.ntmps52
    go_upto_region 3 with (at_builtin; go_must (refine wpList_appendB _ rfl (.tmp 15) (.tmp 16) 38 rfl ((B0.out.alloc _).size hG) (B0.out.alloc _).bf rfl rfl (Src.one w 45 5) rfl (by omega) ?_; intro a1 c1 w1 k1 k2 k3))
    have BX := Aside.mk ((B0.out.alloc _).append k1 k2 k3)
    have DX := Aside.mk (HD.out.fr BX.out.fr (fun x y k1 k2 => hdis x y k2 k1))
    have GX := Aside.mk (HG.out.fr BX.out.fr HLB.out)
    have LX := Aside.mk BX.out.bf.lt
    have hformX := DX.out.form
    have hexpX := DX.out.exp
    clear k1 k2 k3 hform hexp hneg
    go_upto_region 13 with (fail)
    rw [z16_eq]
    go_region_with (go_at_call 79; go_must (refine (digits_own GX.out DX.out h8 hm (Fr.refl _ _) _).mono ?_; rintro e1 w2 ⟨gb, go, gc, rfl, g1, g2, g3, g4⟩))
    all_goals
      have D2 := DX.out.fr g4.out (fun _ _ _ k => k)
      have hexp2 := D2.exp
      have hbl2 := Lib.hid (bBitLen_any D2.num (by have := sm_len h8; omega))
      have B1 := BX.out.new g4.out
      have hF := Lib.hid (fmtF_mid (Nat.le_trans GX.out.g.size g4.out.size) D2 hq0 hqm hm B1.bf (by omega) g1.out (natText_length X) g2.out g3.out.1 (fun o k => by have := LX.out _ _ k; have := g3.out.2; omega))
      have HB1 := Aside.mk B1
      clear D2 B1
      go_wp2_with fail
      refine hbl2.out.mono ?_
      rintro e1 w3 ⟨rfl, rfl⟩
      clear hbl2
      go_wp2_with fail
      refine hF.out.mono ?_
      rintro e1 w4 ⟨a4, c4, rfl, k4⟩
      have K4 := Aside.mk (HB1.out.append k4.bf k4.fr k4.out)
      clear k4 hF
      go_wp2_with fail
      go_ret
      exact ⟨a4, _, c4, rfl, by simpa [markL] using K4.out⟩
end Go.Proofs.YtgilnnipephfjaaGreatDoor
namespace Go.Proofs.YtgilnnipephfjaaGreatDoor
open Go.RowKit

theorem run_str {w : World} {a : Option Addr} {n c : Nat} {l : List UInt8} (h : Bf w a n c l) (h0 : 0 < n) : (convert 38 9 (.slice a n c)).run Tryz.prog w = .ok (.string (mk l)) w := by
  obtain ⟨b, o, rfl, hb, _⟩ := h.pos h0
  rw [← h.len]
  exact run_convert_bytes_back w _ _ _ ⟨b, o, none⟩ c l Tryz.underlying38 Tryz.underlying5 Tryz.underlying9 (fun j hj => by rw [Addr.add_lit]; exact hb j hj)
set_option maxRecDepth 100000 in
theorem dText_mid {w : World} {b : Nat} {ng : Bool} {a : Option Addr} {c X q : Nat} (g : Gv w) (h : DA w b 0 ng (-(q : Int)) a c X) (h0 : X ≠ 0) (h8 : Sm X) (hX : bl X ≤ 1100) (hq0 : 0 < q) (hqm : q < ndig X) (hm : ndig X ≤ 1000) :
    Calls Tryz.prog 53 #[.pointer (some ⟨b, 0, none⟩), .int .u8 71] w fun e1 w' => e1 = .returned (.string (mk (markL ng ++ plainL (natText X) (-(q : Int))))) ∧ Fr (fun _ _ => False) w w' := by
  have hG := g.g.size
  have F1 := Aside.mk ((Fr.refl (fun _ _ => False) w).alloc (z16 126))
  have Z1 := Aside.mk (zero16 w hG 126)
  have hlt := h.lt
  have H : Hid (Calls Tryz.prog 52 #[.pointer (some ⟨b, 0, none⟩), .slice (some ⟨w.heap.size, 0, none⟩) 0 16, .int .u8 71] (w.alloc (z16 126)) fun e1 w' => ∃ a' n' c', e1 = .returned (.slice a' n' c') ∧
      (convert 38 9 (.slice a' n' c')).run Tryz.prog w' = .ok (.string (mk (markL ng ++ plainL (natText X) (-(q : Int))))) w' ∧ Aside (Fr (fun _ _ => False) w w')) := Lib.hid (by
    refine (dAppend_mid (g.new F1.out) (h.fr F1.out (fun _ _ _ k => k)) h0 h8 hX hq0 hqm hm Z1.out (by omega) (fun x y k1 k2 => ?_)).mono ?_
    · rw [foot_some] at k1
      rcases k2 with rfl | k2
      · omega
      · have := h.num.nt.reg.lt _ _ k2; omega
    · rintro e1 w' ⟨a', n', c', rfl, k⟩
      have hpos : 0 < n' := by
        rw [← k.bf.len]
        simp [plainL]
        split <;> split <;> (try simp) <;> omega
      refine ⟨a', n', c', rfl, run_str k.bf hpos, ⟨F1.out.trans' k.fr (fun _ _ _ k => k) (fun x y hx k => ?_)⟩⟩
      rw [foot_some] at k; omega)
  clear h g hX
  go_enter Tryz.func53, Tryz.ntmps53
  go_wp2_with fail
  rw [z16_eq]
  refine H.out.mono ?_
  rintro e1 w2 ⟨a', n', c', rfl, hcv, hF⟩
  go_wp2_with fail
  go_ret
  exact ⟨rfl, hF.out⟩
end Go.Proofs.YtgilnnipephfjaaGreatDoor
namespace Go.Proofs.YtgilnnipephfjaaGreatDoor
open Go.RowKit

theorem hmf (fn : Fn) (first cap : Array Value) (w : World) : (Instr.makeFunc fn first cap).run Tryz.prog w = .ok (.func fn first cap) w := rfl
set_option maxRecDepth 100000 in
theorem caught (p : Addr) (x : Bool) (w : World) (hc : w.cell? p = some (.bool x)) (hz : w.frozen? p = false) :
    CallsD Tryz.prog 54 #[.pointer (some p)] .returning w fun e u' w' => e = .returned (.tuple #[]) ∧ u' = .returning ∧ w' = w.setCell p (.bool true) := by
  refine callsD_of_wpS Tryz.func54 rfl fun c₀ cs hu => ?_
  apply wpS_region
  simp [wpOpsS, go_sem, recoverD, hu, Tryz.ntmps54, Exit.thenS, hc, hz, bodyPostS, results, Tryz.results54]
  cases c₀
  simp_all

set_option maxRecDepth 100000 in
theorem safe_any (F : Nat) (caps : Array Value) {P : World → Prop} (w : World) (hF : ∀ w, (callFunc F caps).run Tryz.prog w = .ok (.enter F caps) w)
    (hf : Calls Tryz.prog F caps (w.alloc (.cells #[.bool false] 4)) fun e w' => e = .returned (.tuple #[]) ∧ w'.cell? ⟨w.heap.size, 0, none⟩ = some (.bool false) ∧ w'.frozen? ⟨w.heap.size, 0, none⟩ = false ∧ P w') :
    Calls Tryz.prog 23 #[.func (.func F) #[] caps] w fun e w' => e = .returned (.bool true) ∧ ∃ w1, P w1 ∧ w' = (w1.setCell ⟨w.heap.size, 0, none⟩ (.bool true)).setCell ⟨w.heap.size, 0, none⟩ (.bool true) := by
  have H := Lib.hid hf
  have hm := hmf
  clear hf
  go_enter_defers Tryz.func23, Tryz.ntmps23
  go_wp2_with fail
  refine H.out.mono ?_
  rintro e w1 ⟨rfl, hc, hz, hP⟩
  have K := Aside.mk hP
  clear hP H hF
  go_wp2_with fail
  refine leaves_cons (f := 54) (args := #[.pointer (some ⟨w.heap.size, 0, none⟩)]) (by simp) (by simp [go_sem]) ?_
  have hc2 : (w1.setCell ⟨w.heap.size, 0, none⟩ (.bool true)).cell? ⟨w.heap.size, 0, none⟩ = some (.bool true) := World.cell?_setCell_same _ _ _ hc
  refine (caught ⟨w.heap.size, 0, none⟩ true _ hc2 (by simpa using hz)).mono ?_
  rintro e u' w'' ⟨rfl, rfl, rfl⟩
  have hc3 : ((w1.setCell ⟨w.heap.size, 0, none⟩ (.bool true)).setCell ⟨w.heap.size, 0, none⟩ (.bool true)).cell? ⟨w.heap.size, 0, none⟩ = some (.bool true) := World.cell?_setCell_same _ _ _ hc2
  simp [Leaves, settle, results, Tryz.results23, go_sem, hc3]
  exact ⟨w1, K.out, rfl⟩
end Go.Proofs.YtgilnnipephfjaaGreatDoor
