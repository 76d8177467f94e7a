/- Decimal.Append in the formats e, E, f. Decimal.Append of what is not finite. Decimal.Append and Text in the format G, of whatever decimal. Decimal.String, MarshalText; impl.Written's closure. -/
import Derived.Test.YtifkpcijheabhaaGreatDoorP34Fmt6
import Derived.Test.YtifkpcijheabhaaGreatDoorP35Fmt7f
import Derived.Test.YtifkpcijheabhaaGreatDoorP36Fmt7t
import Derived.Test.YtifkpcijheabhaaGreatDoorM31Safe
import Derived.Test.YtifkpcijheabhaaGreatDoorM33Eql
set_option linter.unusedSimpArgs false
set_option linter.unusedVariables false
namespace Go.Proofs.YtifkpcijheabhaaGreatDoor
open Go.RowKit

set_option maxRecDepth 100000 in
set_option maxHeartbeats 2000000 in
theorem dApp101_f {w : World} {b : Nat} {e : Int} {a : Option Addr} {c X : Nat} {ba : Option Addr} {n bc : Nat} {l : List UInt8} (g : Gv w) (hp : PT w) (h : DA w b 0 false e a c X) (h8 : Sm X) (hX : bl X ≤ 1100) (hm : ndig X ≤ 1000) (he : -5000 ≤ e ∧ e ≤ 5000)
    (hB : Bf w ba n bc l) (hn : n ≤ 5000) (hdis : ∀ x y, foot ba bc x y → ¬ dfoot b a c x y)  :
    Calls Tryz.prog 31 #[.pointer (some ⟨b, 0, none⟩), .slice ba n bc, .int .u8 101] w fun e1 w' => ∃ a' n' c',
      e1 = .returned (.slice a' n' c') ∧ BW w w' ba bc a' n' c' (l ++ (markL false ++ sciL (natText X) e 101)) := by
  have hneg := h.neg
  have hform := h.form
  have hexp := h.exp
  have HD := Aside.mk h
  have HG := Aside.mk g
  have HP := Aside.mk hp
  have B0 := Aside.mk (BW.start hB)
  have hG := g.g.size
  have HLT := Aside.mk hB.lt
  have HLB : Aside (∀ x y, foot ba bc x y → NG ≤ x) := ⟨hB.lo⟩
  have hblt := h.lt
  have hnp := ndig_pos X
  have HDB : Aside (∀ o, ¬ foot ba bc b o) := ⟨fun o k => hdis _ _ k (.inl rfl)⟩
  clear h g hB hp
  go_enter Tryz.func31, Tryz.ntmps31
  have DBX : Aside (b < w.heap.size ∧ ∀ o, ¬ foot ba bc b o) := ⟨hblt, HDB.out⟩
  go_upto_region 13 with (fail)
  rw [z16_eq]
  go_cut [8] (fun dv wr => ∃ gb go gc, dv = .slice (some ⟨gb, go, none⟩) (ndig X) gc ∧ Aside (Bs wr gb go (natText X)) ∧ Aside (ndig X ≤ gc) ∧ Aside (gb < wr.heap.size ∧ w.heap.size ≤ gb) ∧ Aside (Fr (fun _ _ => False) w wr))
  case first =>
    go_region_with (go_at_call 51; go_must (refine (digits_own HG.out HD.out h8 hm (Fr.refl _ _) _).mono ?_; rintro e1 w2 ⟨gb, go, gc, rfl, g1, g2, g3, g4⟩))
    all_goals
      go_wp2_with fail
      go_meet
      exact ⟨gb, go, gc, rfl, g1, g2, g3, g4⟩
  case rest =>
    obtain ⟨gb, go, gc, rfl, g1, g2, g3, g4⟩ := hcut
    obtain ⟨w2, hw2⟩ : ∃ x, wc = x := ⟨_, rfl⟩
    subst hw2
    have D2 := HD.out.fr g4.out (fun _ _ _ k => k)
    have hexp2 := D2.exp
    have B1 := B0.out.new g4.out
    have hsz2 := g4.out.size
    have hF := Lib.hid (fmtE_any (fm := 101) (Nat.le_trans HG.out.g.size hsz2) (HP.out.new HG.out.g.size g4.out) HLB.out D2 he (ndig_pos X) hm B1.bf (by omega) g1.out (natText_length X) g2.out g3.out.1 (fun o k => by have := HLT.out _ _ k; have := g3.out.2; omega))
    rw [show (((101 : UInt8).toNat : Nat) : Int) = 101 from rfl] at hF
    have HB1 := Aside.mk B1
    clear D2 B1
    go_wp2_with fail
    refine hF.out.mono ?_
    rintro e1 w4 ⟨a4, n4, c4, rfl, k4⟩
    have K4 := Aside.mk (HB1.out.append k4.bf k4.fr k4.out)
    clear k4 hF
    go_wp2_with fail
    go_ret
    exact ⟨a4, n4, c4, rfl, by simpa [markL] using K4.out⟩
set_option maxRecDepth 100000 in
set_option maxHeartbeats 2000000 in
theorem dApp101_t {w : World} {b : Nat} {e : Int} {a : Option Addr} {c X : Nat} {ba : Option Addr} {n bc : Nat} {l : List UInt8} (g : Gv w) (hp : PT w) (h : DA w b 0 true e a c X) (h8 : Sm X) (hX : bl X ≤ 1100) (hm : ndig X ≤ 1000) (he : -5000 ≤ e ∧ e ≤ 5000)
    (hB : Bf w ba n bc l) (hn : n ≤ 5000) (hdis : ∀ x y, foot ba bc x y → ¬ dfoot b a c x y)  :
    Calls Tryz.prog 31 #[.pointer (some ⟨b, 0, none⟩), .slice ba n bc, .int .u8 101] w fun e1 w' => ∃ a' n' c',
      e1 = .returned (.slice a' n' c') ∧ BW w w' ba bc a' n' c' (l ++ (markL true ++ sciL (natText X) e 101)) := by
  have hneg := h.neg
  have hform := h.form
  have hexp := h.exp
  have HD := Aside.mk h
  have HG := Aside.mk g
  have HP := Aside.mk hp
  have B0 := Aside.mk (BW.start hB)
  have hG := g.g.size
  have HLT := Aside.mk hB.lt
  have HLB : Aside (∀ x y, foot ba bc x y → NG ≤ x) := ⟨hB.lo⟩
  have hblt := h.lt
  have hnp := ndig_pos X
  have HDB : Aside (∀ o, ¬ foot ba bc b o) := ⟨fun o k => hdis _ _ k (.inl rfl)⟩
  clear h g hB hp
  go_enter Tryz.func31, Tryz.ntmps31
  go_upto_region 3 with (at_builtin; go_must (refine wpList_appendB _ rfl (.tmp 15) (.tmp 16) 32 rfl ((B0.out.alloc _).size hG) (B0.out.alloc _).bf rfl rfl (Src.one w 45 5) rfl (by omega) ?_; intro a1 c1 w1 k1 k2 k3))
  have BX := Aside.mk ((B0.out.alloc _).append k1 k2 k3)
  have DX := Aside.mk (HD.out.fr BX.out.fr (fun x y k1 k2 => hdis x y k2 k1))
  have GX := Aside.mk (HG.out.fr BX.out.fr HLB.out)
  have PX := Aside.mk (HP.out.fr hG BX.out.fr HLB.out)
  have LX := Aside.mk BX.out.bf.lt
  have LBX := Aside.mk BX.out.bf.lo
  have DBX : Aside (b < w1.heap.size ∧ ∀ o, ¬ foot a1 c1 b o) := ⟨Nat.lt_of_lt_of_le hblt BX.out.fr.size, fun o k => by
    rcases BX.out.out with ⟨rfl, rfl⟩ | ⟨b2, o2, rfl, h2⟩
    · exact HDB.out o k
    · rw [foot_some] at k; omega⟩
  have hformX := DX.out.form
  have hexpX := DX.out.exp
  clear k1 k2 k3 hform hexp hneg
  go_upto_region 13 with (fail)
  rw [z16_eq]
  go_cut [8] (fun dv wr => ∃ gb go gc, dv = .slice (some ⟨gb, go, none⟩) (ndig X) gc ∧ Aside (Bs wr gb go (natText X)) ∧ Aside (ndig X ≤ gc) ∧ Aside (gb < wr.heap.size ∧ w1.heap.size ≤ gb) ∧ Aside (Fr (fun _ _ => False) w1 wr))
  case first =>
    go_region_with (go_at_call 51; go_must (refine (digits_own GX.out DX.out h8 hm (Fr.refl _ _) _).mono ?_; rintro e1 w2 ⟨gb, go, gc, rfl, g1, g2, g3, g4⟩))
    all_goals
      go_wp2_with fail
      go_meet
      exact ⟨gb, go, gc, rfl, g1, g2, g3, g4⟩
  case rest =>
    obtain ⟨gb, go, gc, rfl, g1, g2, g3, g4⟩ := hcut
    obtain ⟨w2, hw2⟩ : ∃ x, wc = x := ⟨_, rfl⟩
    subst hw2
    have D2 := DX.out.fr g4.out (fun _ _ _ k => k)
    have hexp2 := D2.exp
    have B1 := BX.out.new g4.out
    have hsz2 := g4.out.size
    have hF := Lib.hid (fmtE_any (fm := 101) (Nat.le_trans GX.out.g.size hsz2) (PX.out.new GX.out.g.size g4.out) LBX.out D2 he (ndig_pos X) hm B1.bf (by omega) g1.out (natText_length X) g2.out g3.out.1 (fun o k => by have := LX.out _ _ k; have := g3.out.2; omega))
    rw [show (((101 : UInt8).toNat : Nat) : Int) = 101 from rfl] at hF
    have HB1 := Aside.mk B1
    clear D2 B1
    go_wp2_with fail
    refine hF.out.mono ?_
    rintro e1 w4 ⟨a4, n4, c4, rfl, k4⟩
    have K4 := Aside.mk (HB1.out.append k4.bf k4.fr k4.out)
    clear k4 hF
    go_wp2_with fail
    go_ret
    exact ⟨a4, n4, c4, rfl, by simpa [markL] using K4.out⟩
set_option maxRecDepth 100000 in
set_option maxHeartbeats 2000000 in
theorem dApp69_f {w : World} {b : Nat} {e : Int} {a : Option Addr} {c X : Nat} {ba : Option Addr} {n bc : Nat} {l : List UInt8} (g : Gv w) (hp : PT w) (h : DA w b 0 false e a c X) (h8 : Sm X) (hX : bl X ≤ 1100) (hm : ndig X ≤ 1000) (he : -5000 ≤ e ∧ e ≤ 5000)
    (hB : Bf w ba n bc l) (hn : n ≤ 5000) (hdis : ∀ x y, foot ba bc x y → ¬ dfoot b a c x y)  :
    Calls Tryz.prog 31 #[.pointer (some ⟨b, 0, none⟩), .slice ba n bc, .int .u8 69] w fun e1 w' => ∃ a' n' c',
      e1 = .returned (.slice a' n' c') ∧ BW w w' ba bc a' n' c' (l ++ (markL false ++ sciL (natText X) e 69)) := by
  have hneg := h.neg
  have hform := h.form
  have hexp := h.exp
  have HD := Aside.mk h
  have HG := Aside.mk g
  have HP := Aside.mk hp
  have B0 := Aside.mk (BW.start hB)
  have hG := g.g.size
  have HLT := Aside.mk hB.lt
  have HLB : Aside (∀ x y, foot ba bc x y → NG ≤ x) := ⟨hB.lo⟩
  have hblt := h.lt
  have hnp := ndig_pos X
  have HDB : Aside (∀ o, ¬ foot ba bc b o) := ⟨fun o k => hdis _ _ k (.inl rfl)⟩
  clear h g hB hp
  go_enter Tryz.func31, Tryz.ntmps31
  have DBX : Aside (b < w.heap.size ∧ ∀ o, ¬ foot ba bc b o) := ⟨hblt, HDB.out⟩
  go_upto_region 13 with (fail)
  rw [z16_eq]
  go_cut [8] (fun dv wr => ∃ gb go gc, dv = .slice (some ⟨gb, go, none⟩) (ndig X) gc ∧ Aside (Bs wr gb go (natText X)) ∧ Aside (ndig X ≤ gc) ∧ Aside (gb < wr.heap.size ∧ w.heap.size ≤ gb) ∧ Aside (Fr (fun _ _ => False) w wr))
  case first =>
    go_region_with (go_at_call 51; go_must (refine (digits_own HG.out HD.out h8 hm (Fr.refl _ _) _).mono ?_; rintro e1 w2 ⟨gb, go, gc, rfl, g1, g2, g3, g4⟩))
    all_goals
      go_wp2_with fail
      go_meet
      exact ⟨gb, go, gc, rfl, g1, g2, g3, g4⟩
  case rest =>
    obtain ⟨gb, go, gc, rfl, g1, g2, g3, g4⟩ := hcut
    obtain ⟨w2, hw2⟩ : ∃ x, wc = x := ⟨_, rfl⟩
    subst hw2
    have D2 := HD.out.fr g4.out (fun _ _ _ k => k)
    have hexp2 := D2.exp
    have B1 := B0.out.new g4.out
    have hsz2 := g4.out.size
    have hF := Lib.hid (fmtE_any (fm := 69) (Nat.le_trans HG.out.g.size hsz2) (HP.out.new HG.out.g.size g4.out) HLB.out D2 he (ndig_pos X) hm B1.bf (by omega) g1.out (natText_length X) g2.out g3.out.1 (fun o k => by have := HLT.out _ _ k; have := g3.out.2; omega))
    rw [show (((69 : UInt8).toNat : Nat) : Int) = 69 from rfl] at hF
    have HB1 := Aside.mk B1
    clear D2 B1
    go_wp2_with fail
    refine hF.out.mono ?_
    rintro e1 w4 ⟨a4, n4, c4, rfl, k4⟩
    have K4 := Aside.mk (HB1.out.append k4.bf k4.fr k4.out)
    clear k4 hF
    go_wp2_with fail
    go_ret
    exact ⟨a4, n4, c4, rfl, by simpa [markL] using K4.out⟩
set_option maxRecDepth 100000 in
set_option maxHeartbeats 2000000 in
theorem dApp69_t {w : World} {b : Nat} {e : Int} {a : Option Addr} {c X : Nat} {ba : Option Addr} {n bc : Nat} {l : List UInt8} (g : Gv w) (hp : PT w) (h : DA w b 0 true e a c X) (h8 : Sm X) (hX : bl X ≤ 1100) (hm : ndig X ≤ 1000) (he : -5000 ≤ e ∧ e ≤ 5000)
    (hB : Bf w ba n bc l) (hn : n ≤ 5000) (hdis : ∀ x y, foot ba bc x y → ¬ dfoot b a c x y)  :
    Calls Tryz.prog 31 #[.pointer (some ⟨b, 0, none⟩), .slice ba n bc, .int .u8 69] w fun e1 w' => ∃ a' n' c',
      e1 = .returned (.slice a' n' c') ∧ BW w w' ba bc a' n' c' (l ++ (markL true ++ sciL (natText X) e 69)) := by
  have hneg := h.neg
  have hform := h.form
  have hexp := h.exp
  have HD := Aside.mk h
  have HG := Aside.mk g
  have HP := Aside.mk hp
  have B0 := Aside.mk (BW.start hB)
  have hG := g.g.size
  have HLT := Aside.mk hB.lt
  have HLB : Aside (∀ x y, foot ba bc x y → NG ≤ x) := ⟨hB.lo⟩
  have hblt := h.lt
  have hnp := ndig_pos X
  have HDB : Aside (∀ o, ¬ foot ba bc b o) := ⟨fun o k => hdis _ _ k (.inl rfl)⟩
  clear h g hB hp
  go_enter Tryz.func31, Tryz.ntmps31
  go_upto_region 3 with (at_builtin; go_must (refine wpList_appendB _ rfl (.tmp 15) (.tmp 16) 32 rfl ((B0.out.alloc _).size hG) (B0.out.alloc _).bf rfl rfl (Src.one w 45 5) rfl (by omega) ?_; intro a1 c1 w1 k1 k2 k3))
  have BX := Aside.mk ((B0.out.alloc _).append k1 k2 k3)
  have DX := Aside.mk (HD.out.fr BX.out.fr (fun x y k1 k2 => hdis x y k2 k1))
  have GX := Aside.mk (HG.out.fr BX.out.fr HLB.out)
  have PX := Aside.mk (HP.out.fr hG BX.out.fr HLB.out)
  have LX := Aside.mk BX.out.bf.lt
  have LBX := Aside.mk BX.out.bf.lo
  have DBX : Aside (b < w1.heap.size ∧ ∀ o, ¬ foot a1 c1 b o) := ⟨Nat.lt_of_lt_of_le hblt BX.out.fr.size, fun o k => by
    rcases BX.out.out with ⟨rfl, rfl⟩ | ⟨b2, o2, rfl, h2⟩
    · exact HDB.out o k
    · rw [foot_some] at k; omega⟩
  have hformX := DX.out.form
  have hexpX := DX.out.exp
  clear k1 k2 k3 hform hexp hneg
  go_upto_region 13 with (fail)
  rw [z16_eq]
  go_cut [8] (fun dv wr => ∃ gb go gc, dv = .slice (some ⟨gb, go, none⟩) (ndig X) gc ∧ Aside (Bs wr gb go (natText X)) ∧ Aside (ndig X ≤ gc) ∧ Aside (gb < wr.heap.size ∧ w1.heap.size ≤ gb) ∧ Aside (Fr (fun _ _ => False) w1 wr))
  case first =>
    go_region_with (go_at_call 51; go_must (refine (digits_own GX.out DX.out h8 hm (Fr.refl _ _) _).mono ?_; rintro e1 w2 ⟨gb, go, gc, rfl, g1, g2, g3, g4⟩))
    all_goals
      go_wp2_with fail
      go_meet
      exact ⟨gb, go, gc, rfl, g1, g2, g3, g4⟩
  case rest =>
    obtain ⟨gb, go, gc, rfl, g1, g2, g3, g4⟩ := hcut
    obtain ⟨w2, hw2⟩ : ∃ x, wc = x := ⟨_, rfl⟩
    subst hw2
    have D2 := DX.out.fr g4.out (fun _ _ _ k => k)
    have hexp2 := D2.exp
    have B1 := BX.out.new g4.out
    have hsz2 := g4.out.size
    have hF := Lib.hid (fmtE_any (fm := 69) (Nat.le_trans GX.out.g.size hsz2) (PX.out.new GX.out.g.size g4.out) LBX.out D2 he (ndig_pos X) hm B1.bf (by omega) g1.out (natText_length X) g2.out g3.out.1 (fun o k => by have := LX.out _ _ k; have := g3.out.2; omega))
    rw [show (((69 : UInt8).toNat : Nat) : Int) = 69 from rfl] at hF
    have HB1 := Aside.mk B1
    clear D2 B1
    go_wp2_with fail
    refine hF.out.mono ?_
    rintro e1 w4 ⟨a4, n4, c4, rfl, k4⟩
    have K4 := Aside.mk (HB1.out.append k4.bf k4.fr k4.out)
    clear k4 hF
    go_wp2_with fail
    go_ret
    exact ⟨a4, n4, c4, rfl, by simpa [markL] using K4.out⟩
set_option maxRecDepth 100000 in
set_option maxHeartbeats 2000000 in
theorem dApp102_f {w : World} {b : Nat} {e : Int} {a : Option Addr} {c X : Nat} {ba : Option Addr} {n bc : Nat} {l : List UInt8} (g : Gv w) (hp : PT w) (h : DA w b 0 false e a c X) (h8 : Sm X) (hX : bl X ≤ 1100) (hm : ndig X ≤ 1000) (he : -5000 ≤ e ∧ e ≤ 5000)
    (hB : Bf w ba n bc l) (hn : n ≤ 5000) (hdis : ∀ x y, foot ba bc x y → ¬ dfoot b a c x y)  :
    Calls Tryz.prog 31 #[.pointer (some ⟨b, 0, none⟩), .slice ba n bc, .int .u8 102] w fun e1 w' => ∃ a' n' c',
      e1 = .returned (.slice a' n' c') ∧ BW w w' ba bc a' n' c' (l ++ (markL false ++ plainL (natText X) e)) := by
  have hneg := h.neg
  have hform := h.form
  have hexp := h.exp
  have HD := Aside.mk h
  have HG := Aside.mk g
  have HP := Aside.mk hp
  have B0 := Aside.mk (BW.start hB)
  have hG := g.g.size
  have HLT := Aside.mk hB.lt
  have HLB : Aside (∀ x y, foot ba bc x y → NG ≤ x) := ⟨hB.lo⟩
  have hblt := h.lt
  have hnp := ndig_pos X
  have HDB : Aside (∀ o, ¬ foot ba bc b o) := ⟨fun o k => hdis _ _ k (.inl rfl)⟩
  clear h g hB hp
  go_enter Tryz.func31, Tryz.ntmps31
  have DBX : Aside (b < w.heap.size ∧ ∀ o, ¬ foot ba bc b o) := ⟨hblt, HDB.out⟩
  go_upto_region 13 with (fail)
  rw [z16_eq]
  go_cut [8] (fun dv wr => ∃ gb go gc, dv = .slice (some ⟨gb, go, none⟩) (ndig X) gc ∧ Aside (Bs wr gb go (natText X)) ∧ Aside (ndig X ≤ gc) ∧ Aside (gb < wr.heap.size ∧ w.heap.size ≤ gb) ∧ Aside (Fr (fun _ _ => False) w wr))
  case first =>
    go_region_with (go_at_call 51; go_must (refine (digits_own HG.out HD.out h8 hm (Fr.refl _ _) _).mono ?_; rintro e1 w2 ⟨gb, go, gc, rfl, g1, g2, g3, g4⟩))
    all_goals
      go_wp2_with fail
      go_meet
      exact ⟨gb, go, gc, rfl, g1, g2, g3, g4⟩
  case rest =>
    obtain ⟨gb, go, gc, rfl, g1, g2, g3, g4⟩ := hcut
    obtain ⟨w2, hw2⟩ : ∃ x, wc = x := ⟨_, rfl⟩
    subst hw2
    have D2 := HD.out.fr g4.out (fun _ _ _ k => k)
    have hexp2 := D2.exp
    have B1 := B0.out.new g4.out
    have hsz2 := g4.out.size
    have hF := Lib.hid (fmtF_any (Nat.le_trans HG.out.g.size hsz2) D2 (by omega) (ndig_pos X) hm B1.bf (by omega) g1.out (natText_length X) g2.out g3.out.1 (fun o k => by have := HLT.out _ _ k; have := g3.out.2; omega) ⟨Nat.lt_of_lt_of_le DBX.out.1 hsz2, DBX.out.2⟩)
    have HB1 := Aside.mk B1
    clear D2 B1
    go_wp2_with fail
    refine hF.out.mono ?_
    rintro e1 w4 ⟨a4, n4, c4, rfl, k4⟩
    have K4 := Aside.mk (HB1.out.append k4.bf k4.fr k4.out)
    clear k4 hF
    go_wp2_with fail
    go_ret
    exact ⟨a4, n4, c4, rfl, by simpa [markL] using K4.out⟩
set_option maxRecDepth 100000 in
set_option maxHeartbeats 2000000 in
theorem dApp102_t {w : World} {b : Nat} {e : Int} {a : Option Addr} {c X : Nat} {ba : Option Addr} {n bc : Nat} {l : List UInt8} (g : Gv w) (hp : PT w) (h : DA w b 0 true e a c X) (h8 : Sm X) (hX : bl X ≤ 1100) (hm : ndig X ≤ 1000) (he : -5000 ≤ e ∧ e ≤ 5000)
    (hB : Bf w ba n bc l) (hn : n ≤ 5000) (hdis : ∀ x y, foot ba bc x y → ¬ dfoot b a c x y)  :
    Calls Tryz.prog 31 #[.pointer (some ⟨b, 0, none⟩), .slice ba n bc, .int .u8 102] w fun e1 w' => ∃ a' n' c',
      e1 = .returned (.slice a' n' c') ∧ BW w w' ba bc a' n' c' (l ++ (markL true ++ plainL (natText X) e)) := by
  have hneg := h.neg
  have hform := h.form
  have hexp := h.exp
  have HD := Aside.mk h
  have HG := Aside.mk g
  have HP := Aside.mk hp
  have B0 := Aside.mk (BW.start hB)
  have hG := g.g.size
  have HLT := Aside.mk hB.lt
  have HLB : Aside (∀ x y, foot ba bc x y → NG ≤ x) := ⟨hB.lo⟩
  have hblt := h.lt
  have hnp := ndig_pos X
  have HDB : Aside (∀ o, ¬ foot ba bc b o) := ⟨fun o k => hdis _ _ k (.inl rfl)⟩
  clear h g hB hp
  go_enter Tryz.func31, Tryz.ntmps31
  go_upto_region 3 with (at_builtin; go_must (refine wpList_appendB _ rfl (.tmp 15) (.tmp 16) 32 rfl ((B0.out.alloc _).size hG) (B0.out.alloc _).bf rfl rfl (Src.one w 45 5) rfl (by omega) ?_; intro a1 c1 w1 k1 k2 k3))
  have BX := Aside.mk ((B0.out.alloc _).append k1 k2 k3)
  have DX := Aside.mk (HD.out.fr BX.out.fr (fun x y k1 k2 => hdis x y k2 k1))
  have GX := Aside.mk (HG.out.fr BX.out.fr HLB.out)
  have PX := Aside.mk (HP.out.fr hG BX.out.fr HLB.out)
  have LX := Aside.mk BX.out.bf.lt
  have LBX := Aside.mk BX.out.bf.lo
  have DBX : Aside (b < w1.heap.size ∧ ∀ o, ¬ foot a1 c1 b o) := ⟨Nat.lt_of_lt_of_le hblt BX.out.fr.size, fun o k => by
    rcases BX.out.out with ⟨rfl, rfl⟩ | ⟨b2, o2, rfl, h2⟩
    · exact HDB.out o k
    · rw [foot_some] at k; omega⟩
  have hformX := DX.out.form
  have hexpX := DX.out.exp
  clear k1 k2 k3 hform hexp hneg
  go_upto_region 13 with (fail)
  rw [z16_eq]
  go_cut [8] (fun dv wr => ∃ gb go gc, dv = .slice (some ⟨gb, go, none⟩) (ndig X) gc ∧ Aside (Bs wr gb go (natText X)) ∧ Aside (ndig X ≤ gc) ∧ Aside (gb < wr.heap.size ∧ w1.heap.size ≤ gb) ∧ Aside (Fr (fun _ _ => False) w1 wr))
  case first =>
    go_region_with (go_at_call 51; go_must (refine (digits_own GX.out DX.out h8 hm (Fr.refl _ _) _).mono ?_; rintro e1 w2 ⟨gb, go, gc, rfl, g1, g2, g3, g4⟩))
    all_goals
      go_wp2_with fail
      go_meet
      exact ⟨gb, go, gc, rfl, g1, g2, g3, g4⟩
  case rest =>
    obtain ⟨gb, go, gc, rfl, g1, g2, g3, g4⟩ := hcut
    obtain ⟨w2, hw2⟩ : ∃ x, wc = x := ⟨_, rfl⟩
    subst hw2
    have D2 := DX.out.fr g4.out (fun _ _ _ k => k)
    have hexp2 := D2.exp
    have B1 := BX.out.new g4.out
    have hsz2 := g4.out.size
    have hF := Lib.hid (fmtF_any (Nat.le_trans GX.out.g.size hsz2) D2 (by omega) (ndig_pos X) hm B1.bf (by omega) g1.out (natText_length X) g2.out g3.out.1 (fun o k => by have := LX.out _ _ k; have := g3.out.2; omega) ⟨Nat.lt_of_lt_of_le DBX.out.1 hsz2, DBX.out.2⟩)
    have HB1 := Aside.mk B1
    clear D2 B1
    go_wp2_with fail
    refine hF.out.mono ?_
    rintro e1 w4 ⟨a4, n4, c4, rfl, k4⟩
    have K4 := Aside.mk (HB1.out.append k4.bf k4.fr k4.out)
    clear k4 hF
    go_wp2_with fail
    go_ret
    exact ⟨a4, n4, c4, rfl, by simpa [markL] using K4.out⟩
end Go.Proofs.YtifkpcijheabhaaGreatDoor
namespace Go.Proofs.YtifkpcijheabhaaGreatDoor
open Go.RowKit

/-- The names of what is not finite. -/
def formL (f : Int) : List UInt8 := if f = 1 then [73, 110, 102, 105, 110, 105, 116, 121] else if f = 2 then [115, 78, 97, 78] else [78, 97, 78]
set_option maxRecDepth 100000 in
theorem dAppNF_f_1 {w : World} {b : Nat} {e : Int} {a : Option Addr} {c X : Nat} {ba : Option Addr} {n bc : Nat} {l : List UInt8} {fm : Int} (hG : NG ≤ w.heap.size) (h : DA w b 1 false e a c X) (hB : Bf w ba n bc l) (hn : n ≤ 5000) (hdis : ∀ x y, foot ba bc x y → ¬ dfoot b a c x y) :
    Calls Tryz.prog 31 #[.pointer (some ⟨b, 0, none⟩), .slice ba n bc, .int .u8 fm] w fun e1 w' => ∃ a' n' c', e1 = .returned (.slice a' n' c') ∧ BW w w' ba bc a' n' c' (l ++ (markL false ++ [73, 110, 102, 105, 110, 105, 116, 121])) := by
  have hneg := h.neg
  have hform := h.form
  have HD := Aside.mk h
  have B0 := Aside.mk (BW.start hB)
  have hlit : Aside (∀ w1, Src Tryz.prog 1 9 (.string ⟨#[73, 110, 102, 105, 110, 105, 116, 121]⟩) 8 (bv [73, 110, 102, 105, 110, 105, 116, 121]) w1) := ⟨fun w1 => Src.str ⟨#[73, 110, 102, 105, 110, 105, 116, 121]⟩ w1⟩
  clear h hB
  go_enter Tryz.func31, Tryz.ntmps31
  go_wp2_with (at_builtin; go_must (refine wpList_appendB _ rfl (.tmp 36) (.const (.string ⟨#[73, 110, 102, 105, 110, 105, 116, 121]⟩)) 9 rfl (B0.out.size hG) B0.out.bf rfl rfl (hlit.out _) rfl (by omega) ?_; intro a3 c3 w3 k1 k2 k3; have B3 := Aside.mk (B0.out.append k1 k2 k3); clear k1 k2 k3))
  go_ret
  exact ⟨a3, _, c3, rfl, by simpa [markL] using B3.out⟩
set_option maxRecDepth 100000 in
theorem dAppNF_f_2 {w : World} {b : Nat} {e : Int} {a : Option Addr} {c X : Nat} {ba : Option Addr} {n bc : Nat} {l : List UInt8} {fm : Int} (hG : NG ≤ w.heap.size) (h : DA w b 2 false e a c X) (hB : Bf w ba n bc l) (hn : n ≤ 5000) (hdis : ∀ x y, foot ba bc x y → ¬ dfoot b a c x y) :
    Calls Tryz.prog 31 #[.pointer (some ⟨b, 0, none⟩), .slice ba n bc, .int .u8 fm] w fun e1 w' => ∃ a' n' c', e1 = .returned (.slice a' n' c') ∧ BW w w' ba bc a' n' c' (l ++ (markL false ++ [115, 78, 97, 78])) := by
  have hneg := h.neg
  have hform := h.form
  have HD := Aside.mk h
  have B0 := Aside.mk (BW.start hB)
  have hlit : Aside (∀ w1, Src Tryz.prog 1 9 (.string ⟨#[115, 78, 97, 78]⟩) 4 (bv [115, 78, 97, 78]) w1) := ⟨fun w1 => Src.str ⟨#[115, 78, 97, 78]⟩ w1⟩
  clear h hB
  go_enter Tryz.func31, Tryz.ntmps31
  go_wp2_with (at_builtin; go_must (refine wpList_appendB _ rfl (.tmp 32) (.const (.string ⟨#[115, 78, 97, 78]⟩)) 9 rfl (B0.out.size hG) B0.out.bf rfl rfl (hlit.out _) rfl (by omega) ?_; intro a3 c3 w3 k1 k2 k3; have B3 := Aside.mk (B0.out.append k1 k2 k3); clear k1 k2 k3))
  go_ret
  exact ⟨a3, _, c3, rfl, by simpa [markL] using B3.out⟩
set_option maxRecDepth 100000 in
theorem dAppNF_f_3 {w : World} {b : Nat} {e : Int} {a : Option Addr} {c X : Nat} {ba : Option Addr} {n bc : Nat} {l : List UInt8} {fm : Int} (hG : NG ≤ w.heap.size) (h : DA w b 3 false e a c X) (hB : Bf w ba n bc l) (hn : n ≤ 5000) (hdis : ∀ x y, foot ba bc x y → ¬ dfoot b a c x y) :
    Calls Tryz.prog 31 #[.pointer (some ⟨b, 0, none⟩), .slice ba n bc, .int .u8 fm] w fun e1 w' => ∃ a' n' c', e1 = .returned (.slice a' n' c') ∧ BW w w' ba bc a' n' c' (l ++ (markL false ++ [78, 97, 78])) := by
  have hneg := h.neg
  have hform := h.form
  have HD := Aside.mk h
  have B0 := Aside.mk (BW.start hB)
  have hlit : Aside (∀ w1, Src Tryz.prog 1 9 (.string ⟨#[78, 97, 78]⟩) 3 (bv [78, 97, 78]) w1) := ⟨fun w1 => Src.str ⟨#[78, 97, 78]⟩ w1⟩
  clear h hB
  go_enter Tryz.func31, Tryz.ntmps31
  go_wp2_with (at_builtin; go_must (refine wpList_appendB _ rfl (.tmp 28) (.const (.string ⟨#[78, 97, 78]⟩)) 9 rfl (B0.out.size hG) B0.out.bf rfl rfl (hlit.out _) rfl (by omega) ?_; intro a3 c3 w3 k1 k2 k3; have B3 := Aside.mk (B0.out.append k1 k2 k3); clear k1 k2 k3))
  go_ret
  exact ⟨a3, _, c3, rfl, by simpa [markL] using B3.out⟩
set_option maxRecDepth 100000 in
theorem dAppNF_t_1 {w : World} {b : Nat} {e : Int} {a : Option Addr} {c X : Nat} {ba : Option Addr} {n bc : Nat} {l : List UInt8} {fm : Int} (hG : NG ≤ w.heap.size) (h : DA w b 1 true e a c X) (hB : Bf w ba n bc l) (hn : n ≤ 5000) (hdis : ∀ x y, foot ba bc x y → ¬ dfoot b a c x y) :
    Calls Tryz.prog 31 #[.pointer (some ⟨b, 0, none⟩), .slice ba n bc, .int .u8 fm] w fun e1 w' => ∃ a' n' c', e1 = .returned (.slice a' n' c') ∧ BW w w' ba bc a' n' c' (l ++ (markL true ++ [73, 110, 102, 105, 110, 105, 116, 121])) := by
  have hneg := h.neg
  have hform := h.form
  have HD := Aside.mk h
  have B0 := Aside.mk (BW.start hB)
  have hlit : Aside (∀ w1, Src Tryz.prog 1 9 (.string ⟨#[73, 110, 102, 105, 110, 105, 116, 121]⟩) 8 (bv [73, 110, 102, 105, 110, 105, 116, 121]) w1) := ⟨fun w1 => Src.str ⟨#[73, 110, 102, 105, 110, 105, 116, 121]⟩ w1⟩
  clear h hB
  go_enter Tryz.func31, Tryz.ntmps31
  go_upto_region 3 with (at_builtin; go_must (refine wpList_appendB _ rfl (.tmp 15) (.tmp 16) 32 rfl ((B0.out.alloc _).size hG) (B0.out.alloc _).bf rfl rfl (Src.one w 45 5) rfl (by omega) ?_; intro a1 c1 w1 k1 k2 k3))
  have BX := Aside.mk ((B0.out.alloc _).append k1 k2 k3)
  have DX := Aside.mk (HD.out.fr BX.out.fr (fun x y k1 k2 => hdis x y k2 k1))
  have hformX := DX.out.form
  clear k1 k2 k3 hform hneg
  go_wp2_with (at_builtin; go_must (refine wpList_appendB _ rfl (.tmp 36) (.const (.string ⟨#[73, 110, 102, 105, 110, 105, 116, 121]⟩)) 9 rfl (BX.out.size hG) BX.out.bf rfl rfl (hlit.out _) rfl (by omega) ?_; intro a3 c3 w3 k1 k2 k3; have B3 := Aside.mk (BX.out.append k1 k2 k3); clear k1 k2 k3))
  go_ret
  exact ⟨a3, _, c3, rfl, by simpa [markL] using B3.out⟩
set_option maxRecDepth 100000 in
theorem dAppNF_t_2 {w : World} {b : Nat} {e : Int} {a : Option Addr} {c X : Nat} {ba : Option Addr} {n bc : Nat} {l : List UInt8} {fm : Int} (hG : NG ≤ w.heap.size) (h : DA w b 2 true e a c X) (hB : Bf w ba n bc l) (hn : n ≤ 5000) (hdis : ∀ x y, foot ba bc x y → ¬ dfoot b a c x y) :
    Calls Tryz.prog 31 #[.pointer (some ⟨b, 0, none⟩), .slice ba n bc, .int .u8 fm] w fun e1 w' => ∃ a' n' c', e1 = .returned (.slice a' n' c') ∧ BW w w' ba bc a' n' c' (l ++ (markL true ++ [115, 78, 97, 78])) := by
  have hneg := h.neg
  have hform := h.form
  have HD := Aside.mk h
  have B0 := Aside.mk (BW.start hB)
  have hlit : Aside (∀ w1, Src Tryz.prog 1 9 (.string ⟨#[115, 78, 97, 78]⟩) 4 (bv [115, 78, 97, 78]) w1) := ⟨fun w1 => Src.str ⟨#[115, 78, 97, 78]⟩ w1⟩
  clear h hB
  go_enter Tryz.func31, Tryz.ntmps31
  go_upto_region 3 with (at_builtin; go_must (refine wpList_appendB _ rfl (.tmp 15) (.tmp 16) 32 rfl ((B0.out.alloc _).size hG) (B0.out.alloc _).bf rfl rfl (Src.one w 45 5) rfl (by omega) ?_; intro a1 c1 w1 k1 k2 k3))
  have BX := Aside.mk ((B0.out.alloc _).append k1 k2 k3)
  have DX := Aside.mk (HD.out.fr BX.out.fr (fun x y k1 k2 => hdis x y k2 k1))
  have hformX := DX.out.form
  clear k1 k2 k3 hform hneg
  go_wp2_with (at_builtin; go_must (refine wpList_appendB _ rfl (.tmp 32) (.const (.string ⟨#[115, 78, 97, 78]⟩)) 9 rfl (BX.out.size hG) BX.out.bf rfl rfl (hlit.out _) rfl (by omega) ?_; intro a3 c3 w3 k1 k2 k3; have B3 := Aside.mk (BX.out.append k1 k2 k3); clear k1 k2 k3))
  go_ret
  exact ⟨a3, _, c3, rfl, by simpa [markL] using B3.out⟩
set_option maxRecDepth 100000 in
theorem dAppNF_t_3 {w : World} {b : Nat} {e : Int} {a : Option Addr} {c X : Nat} {ba : Option Addr} {n bc : Nat} {l : List UInt8} {fm : Int} (hG : NG ≤ w.heap.size) (h : DA w b 3 true e a c X) (hB : Bf w ba n bc l) (hn : n ≤ 5000) (hdis : ∀ x y, foot ba bc x y → ¬ dfoot b a c x y) :
    Calls Tryz.prog 31 #[.pointer (some ⟨b, 0, none⟩), .slice ba n bc, .int .u8 fm] w fun e1 w' => ∃ a' n' c', e1 = .returned (.slice a' n' c') ∧ BW w w' ba bc a' n' c' (l ++ (markL true ++ [78, 97, 78])) := by
  have hneg := h.neg
  have hform := h.form
  have HD := Aside.mk h
  have B0 := Aside.mk (BW.start hB)
  have hlit : Aside (∀ w1, Src Tryz.prog 1 9 (.string ⟨#[78, 97, 78]⟩) 3 (bv [78, 97, 78]) w1) := ⟨fun w1 => Src.str ⟨#[78, 97, 78]⟩ w1⟩
  clear h hB
  go_enter Tryz.func31, Tryz.ntmps31
  go_upto_region 3 with (at_builtin; go_must (refine wpList_appendB _ rfl (.tmp 15) (.tmp 16) 32 rfl ((B0.out.alloc _).size hG) (B0.out.alloc _).bf rfl rfl (Src.one w 45 5) rfl (by omega) ?_; intro a1 c1 w1 k1 k2 k3))
  have BX := Aside.mk ((B0.out.alloc _).append k1 k2 k3)
  have DX := Aside.mk (HD.out.fr BX.out.fr (fun x y k1 k2 => hdis x y k2 k1))
  have hformX := DX.out.form
  clear k1 k2 k3 hform hneg
  go_wp2_with (at_builtin; go_must (refine wpList_appendB _ rfl (.tmp 28) (.const (.string ⟨#[78, 97, 78]⟩)) 9 rfl (BX.out.size hG) BX.out.bf rfl rfl (hlit.out _) rfl (by omega) ?_; intro a3 c3 w3 k1 k2 k3; have B3 := Aside.mk (BX.out.append k1 k2 k3); clear k1 k2 k3))
  go_ret
  exact ⟨a3, _, c3, rfl, by simpa [markL] using B3.out⟩
end Go.Proofs.YtifkpcijheabhaaGreatDoor
namespace Go.Proofs.YtifkpcijheabhaaGreatDoor
open Go.RowKit

/-- The text of a finite decimal's digits, without its mark. -/
def bodyL (dl : List UInt8) (e : Int) (fm : Nat) : List UInt8 :=
  if fm = 101 then sciL dl e 101 else if fm = 69 then sciL dl e 69 else if fm = 102 then plainL dl e
  else if 0 < e ∨ e + (dl.length : Int) - 1 < (if dl = [48] then -2000 else -6) then sciL dl e (if fm = 103 then 101 else 69) else plainL dl e
/-- The text of a decimal. -/
def textL (f : Int) (ng : Bool) (e : Int) (dl : List UInt8) (fm : Nat) : List UInt8 := markL ng ++ (if f = 0 then bodyL dl e fm else formL f)
theorem natText_48 {X : Nat} : natText X = [48] ↔ X = 0 := by
  constructor
  · intro h
    have := numOf_natText X
    rw [h] at this
    rw [← this]; decide
  · rintro rfl; exact natText_zero
theorem plainL_pos (dl : List UInt8) (e : Int) (h : 0 < dl.length) : 0 < (plainL dl e).length := by
  unfold plainL
  split
  · split
    · simp
    · simp; omega
  · simp; omega
theorem sciL_pos (dl : List UInt8) (e : Int) (fm : UInt8) : 0 < (sciL dl e fm).length := by
  unfold sciL; simp; omega
theorem bodyL_pos (dl : List UInt8) (e : Int) (fm : Nat) (h : 0 < dl.length) : 0 < (bodyL dl e fm).length := by
  unfold bodyL
  repeat' split
  all_goals first | exact sciL_pos _ _ _ | exact plainL_pos _ _ h
theorem textL_pos (f : Int) (ng : Bool) (e : Int) (dl : List UInt8) (fm : Nat) (h : 0 < dl.length) : 0 < (textL f ng e dl fm).length := by
  unfold textL
  rw [List.length_append]
  have : 0 < (if f = 0 then bodyL dl e fm else formL f).length := by
    split
    · exact bodyL_pos _ _ _ h
    · unfold formL
      repeat' split
      all_goals simp
  omega
theorem dAppG_any {w : World} {b : Nat} {e : Int} {ng : Bool} {f : Nat} {a : Option Addr} {c X : Nat} {ba : Option Addr} {n bc : Nat} {l : List UInt8} (hf : f ≤ 3) (g : Gv w) (hp : PT w) (h : DA w b f ng e a c X) (h8 : Sm X) (hX : bl X ≤ 1100) (hm : ndig X ≤ 1000) (he : -5000 ≤ e ∧ e ≤ 5000)
    (hB : Bf w ba n bc l) (hn : n ≤ 5000) (hdis : ∀ x y, foot ba bc x y → ¬ dfoot b a c x y) :
    Calls Tryz.prog 31 #[.pointer (some ⟨b, 0, none⟩), .slice ba n bc, .int .u8 71] w fun e1 w' => ∃ a' n' c',
      e1 = .returned (.slice a' n' c') ∧ BW w w' ba bc a' n' c' (l ++ textL f ng e (natText X) 71) := by
  have c0 : f = 0 ∨ f = 1 ∨ f = 2 ∨ f = 3 := by omega
  rcases c0 with rfl | rfl | rfl | rfl
  · have e0 : textL ((0 : Nat) : Int) ng e (natText X) 71 = markL ng ++ bodyL (natText X) e 71 := rfl
    rw [e0]
    by_cases x0 : X = 0
    · have en : natText X = [48] := natText_48.2 x0
      have hb : bodyL (natText X) e 71 = if 0 < e ∨ e < -2000 then sciL (natText X) e 69 else plainL (natText X) e := by
        unfold bodyL
        rw [if_neg (by omega), if_neg (by omega), if_neg (by omega), en]
        simp
      rw [hb]
      by_cases h1 : 0 < e
      · rw [if_pos (.inl h1)]
        cases ng
        · exact dApp71_f_3 g hp h h8 hX hm he hB hn hdis x0 h1
        · exact dApp71_t_3 g hp h h8 hX hm he hB hn hdis x0 h1
      · by_cases h2 : e < -2000
        · rw [if_pos (.inr h2)]
          cases ng
          · exact dApp71_f_4 g hp h h8 hX hm he hB hn hdis x0 h2
          · exact dApp71_t_4 g hp h h8 hX hm he hB hn hdis x0 h2
        · rw [if_neg (by omega)]
          by_cases h3 : e = 0
          · cases ng
            · exact dApp71_f_2 g hp h h8 hX hm he hB hn hdis x0 h3
            · exact dApp71_t_2 g hp h h8 hX hm he hB hn hdis x0 h3
          · cases ng
            · exact dApp71_f_1 g hp h h8 hX hm he hB hn hdis x0 (by omega) (by omega)
            · exact dApp71_t_1 g hp h h8 hX hm he hB hn hdis x0 (by omega) (by omega)
    · have en : natText X ≠ [48] := fun k => x0 (natText_48.1 k)
      have hb : bodyL (natText X) e 71 = if 0 < e ∨ e + (ndig X : Int) - 1 < -6 then sciL (natText X) e 69 else plainL (natText X) e := by
        unfold bodyL
        rw [if_neg (by omega), if_neg (by omega), if_neg (by omega), natText_length, if_neg (c := natText X = [48]) en]
        simp
      rw [hb]
      by_cases h1 : 0 < e
      · rw [if_pos (.inl h1)]
        cases ng
        · exact dApp71_f_6 g hp h h8 hX hm he hB hn hdis x0 h1
        · exact dApp71_t_6 g hp h h8 hX hm he hB hn hdis x0 h1
      · by_cases h2 : e + (ndig X : Int) - 1 < -6
        · rw [if_pos (.inr h2)]
          cases ng
          · exact dApp71_f_7 g hp h h8 hX hm he hB hn hdis x0 (by omega) (by omega)
          · exact dApp71_t_7 g hp h h8 hX hm he hB hn hdis x0 (by omega) (by omega)
        · rw [if_neg (by omega)]
          cases ng
          · exact dApp71_f_5 g hp h h8 hX hm he hB hn hdis x0 (by omega) (by omega)
          · exact dApp71_t_5 g hp h h8 hX hm he hB hn hdis x0 (by omega) (by omega)
  · cases ng
    · exact dAppNF_f_1 g.g.size h hB hn hdis
    · exact dAppNF_t_1 g.g.size h hB hn hdis
  · cases ng
    · exact dAppNF_f_2 g.g.size h hB hn hdis
    · exact dAppNF_t_2 g.g.size h hB hn hdis
  · cases ng
    · exact dAppNF_f_3 g.g.size h hB hn hdis
    · exact dAppNF_t_3 g.g.size h hB hn hdis
/-- What Append answers, as far as Text asks. -/
def App (fm : Nat) (f : Int) (ng : Bool) (e : Int) (X : Nat) : Prop := ∀ (w : World) (b : Nat) (a : Option Addr) (c : Nat) (ba : Option Addr) (n bc : Nat) (l : List UInt8), Gv w → PT w → DA w b f ng e a c X → Bf w ba n bc l → n ≤ 5000 → (∀ x y, foot ba bc x y → ¬ dfoot b a c x y) →
  Calls Tryz.prog 31 #[.pointer (some ⟨b, 0, none⟩), .slice ba n bc, .int .u8 fm] w fun e1 w' => ∃ a' n' c', e1 = .returned (.slice a' n' c') ∧ BW w w' ba bc a' n' c' (l ++ textL f ng e (natText X) fm)
set_option maxRecDepth 100000 in
theorem dText_of {w : World} {b : Nat} {f : Int} {ng : Bool} {e : Int} {a : Option Addr} {c X : Nat} (fm : Nat) (hA : App fm f ng e X) (g : Gv w) (hp : PT w) (h : DA w b f ng e a c X) :
    Calls Tryz.prog 32 #[.pointer (some ⟨b, 0, none⟩), .int .u8 fm] w fun e1 w' => e1 = .returned (.string (mk (textL f ng e (natText X) fm))) ∧ Fr (fun _ _ => False) w w' := by
  have hG := g.g.size
  have F1 := Aside.mk ((Fr.refl (fun _ _ => False) w).alloc (z16 91))
  have Z1 := Aside.mk (zero16 w hG 91)
  have hlt := h.lt
  have hpos := textL_pos f ng e (natText X) fm (by rw [natText_length]; exact ndig_pos X)
  have H : Hid (Calls Tryz.prog 31 #[.pointer (some ⟨b, 0, none⟩), .slice (some ⟨w.heap.size, 0, none⟩) 0 16, .int .u8 fm] (w.alloc (z16 91)) fun e1 w' => ∃ a' n' c', e1 = .returned (.slice a' n' c') ∧
      (convert 32 9 (.slice a' n' c')).run Tryz.prog w' = .ok (.string (mk (textL f ng e (natText X) fm))) w' ∧ Aside (Fr (fun _ _ => False) w w')) := Lib.hid (by
    refine (hA _ _ _ _ _ _ _ _ (g.new F1.out) (hp.new hG F1.out) (h.fr F1.out (fun _ _ _ k => k)) Z1.out (by omega) (fun x y k1 k2 => ?_)).mono ?_
    · rw [foot_some] at k1
      rcases k2 with rfl | k2
      · omega
      · have := h.num.nt.reg.lt _ _ k2; omega
    · rintro e1 w' ⟨a', n', c', rfl, k⟩
      rw [List.nil_append] at k
      refine ⟨a', n', c', rfl, run_str k.bf (by rw [← k.bf.len]; exact hpos), ⟨F1.out.trans' k.fr (fun _ _ _ k => k) (fun x y hx k => ?_)⟩⟩
      rw [foot_some] at k; omega)
  generalize textL f ng e (natText X) fm = T at *
  clear h g hA hp hpos
  go_enter Tryz.func32, Tryz.ntmps32
  go_wp2_with fail
  rw [z16_eq]
  refine H.out.mono ?_
  rintro e1 w2 ⟨a', n', c', rfl, hcv, hF⟩
  go_wp2_with fail
  go_ret
  exact ⟨rfl, hF.out⟩
theorem appG {f : Nat} {ng : Bool} {e : Int} {X : Nat} (hf : f ≤ 3) (h8 : Sm X) (hX : bl X ≤ 1100) (hm : ndig X ≤ 1000) (he : -5000 ≤ e ∧ e ≤ 5000) : App 71 f ng e X :=
  fun _ _ _ _ _ _ _ _ g hp h hB hn hdis => dAppG_any hf g hp h h8 hX hm he hB hn hdis
end Go.Proofs.YtifkpcijheabhaaGreatDoor
namespace Go.Proofs.YtifkpcijheabhaaGreatDoor
open Go.RowKit

/-- A text as bytes of a new array. -/
theorem bytes_of (l : List UInt8) : ∃ (bc : World → Nat) (bw : World → World), (∀ w, (convert 9 32 (.string (mk l))).run Tryz.prog w = .ok (.slice (some ⟨w.heap.size, 0, none⟩) l.length (bc w)) (bw w)) ∧
    (∀ w, Fr (fun _ _ => False) w (bw w) ∧ Bs (bw w) w.heap.size 0 l ∧ (bw w).heap.size = w.heap.size + 1 ∧ (∀ i, i < l.length → (bw w).frozen? ⟨w.heap.size, i, none⟩ = false) ∧ l.length ≤ bc w) := by
  refine ⟨fun w => grownCap w l.length 0 5, fun w => w.drew.alloc (.cells (bytesRow (mk l) (grownCap w l.length 0 5)) 5 ((bytesRow (mk l) (grownCap w l.length 0 5)).size, (bytesRow (mk l) (grownCap w l.length 0 5)).size + 1)), fun w => ?_, fun w => ⟨((Fr.refl _ w).drew).alloc _, ?_, ?_, ?_, ?_⟩⟩
  · have := run_bytes_of_string (P := Tryz.prog) w 9 32 5 (mk l) Tryz.underlying9 Tryz.underlying32 Tryz.underlying5
    rwa [mk_size] at this
  · intro i hi
    rw [Nat.zero_add]
    have : (w.drew.alloc (.cells (bytesRow (mk l) (grownCap w l.length 0 5)) 5 ((bytesRow (mk l) (grownCap w l.length 0 5)).size, (bytesRow (mk l) (grownCap w l.length 0 5)).size + 1))).heap[w.heap.size]? = some (.cells (bytesRow (mk l) (grownCap w l.length 0 5)) 5 ((bytesRow (mk l) (grownCap w l.length 0 5)).size, (bytesRow (mk l) (grownCap w l.length 0 5)).size + 1)) := by
      show (w.heap.push _)[w.heap.size]? = _
      simp
    unfold World.cell?
    simp only [this]
    simp [bytesRow, mk, Array.getElem?_append, hi]
  · simp
  · intro i hi
    have : (w.drew.alloc (.cells (bytesRow (mk l) (grownCap w l.length 0 5)) 5 ((bytesRow (mk l) (grownCap w l.length 0 5)).size, (bytesRow (mk l) (grownCap w l.length 0 5)).size + 1))).heap[w.heap.size]? = some (.cells (bytesRow (mk l) (grownCap w l.length 0 5)) 5 ((bytesRow (mk l) (grownCap w l.length 0 5)).size, (bytesRow (mk l) (grownCap w l.length 0 5)).size + 1)) := by
      show (w.heap.push _)[w.heap.size]? = _
      simp
    have hsz : l.length ≤ (bytesRow (mk l) (grownCap w l.length 0 5)).size := by simp [bytesRow, mk]
    unfold World.frozen?
    simp only [this]
    simp
    omega
  · exact grownCap_ge w _ _ _
set_option maxRecDepth 100000 in
theorem dString_any {w : World} {b : Nat} {f : Int} {ng : Bool} {e : Int} {a : Option Addr} {c X : Nat} {T : List UInt8} (hA : App 71 f ng e X) (g : Gv w) (hp : PT w) (h : DA w b f ng e a c X) (hT : textL f ng e (natText X) 71 = T) :
    Calls Tryz.prog 43 #[.pointer (some ⟨b, 0, none⟩)] w fun e1 w' => e1 = .returned (.string (mk T)) ∧ Fr (fun _ _ => False) w w' := by
  have H := Lib.hid (dText_of 71 hA g hp h)
  rw [hT] at H
  clear hA g hp h hT
  go_enter Tryz.func43, Tryz.ntmps43
  go_wp2_with fail
  refine H.out.mono ?_
  rintro e1 w2 ⟨rfl, k⟩
  have K := Aside.mk k
  clear k
  go_wp2_with fail
  go_ret
  exact ⟨rfl, K.out⟩
set_option maxRecDepth 100000 in
theorem dMarshal_any {w : World} {b : Nat} {f : Int} {ng : Bool} {e : Int} {a : Option Addr} {c X : Nat} {T : List UInt8} (hA : App 71 f ng e X) (g : Gv w) (hp : PT w) (h : DA w b f ng e a c X) (hT : textL f ng e (natText X) 71 = T) :
    Calls Tryz.prog 42 #[.pointer (some ⟨b, 0, none⟩)] w fun e1 w' => ∃ p c', e1 = .returned (.tuple #[.slice (some ⟨p, 0, none⟩) T.length c', .nilIface]) ∧ Bs w' p 0 T ∧ p < w'.heap.size ∧ Fr (fun _ _ => False) w w' := by
  have H := Lib.hid (dString_any hA g hp h hT)
  obtain ⟨bc, bw, hcv, hbw⟩ := bytes_of T
  have HB := Aside.mk hbw
  obtain ⟨m, hm⟩ : ∃ m, T.length = m := ⟨_, rfl⟩
  rw [hm] at hcv ⊢
  clear hA g hp h hT hbw
  go_enter Tryz.func42, Tryz.ntmps42
  go_wp2_with fail
  refine H.out.mono ?_
  rintro e1 w2 ⟨rfl, k⟩
  have K := Aside.mk k
  clear k
  go_wp2_with fail
  go_ret2
  obtain ⟨q1, q2, q3, _⟩ := HB.out w2
  exact ⟨_, _, rfl, q2, by omega, K.out.trans q1⟩
set_option maxRecDepth 100000 in
set_option maxHeartbeats 1000000 in
theorem written1_any {w : World} {pd pt pm po : Nat} {f : Nat} {e : Int} {n : Bool} {s t0 m0 : ByteArray} {o0 : Bool} {T : List UInt8} (hf : f ≤ 3) (g : Gv w) (hp : PT w) (hd : D4 w pd f n e s) (ht : Cl w pt 0 (.string t0)) (hm : Cl w pm 0 (.string m0)) (ho : Cl w po 0 (.bool o0))
    (n1 : pt ≠ pm) (n2 : pt ≠ po) (n3 : pm ≠ po) (hdg : Digs s.data.toList) (h0 : 0 < s.size) (hs : s.size ≤ 1000) (hA : App 71 f n e (numOf s.data.toList)) (hT : textL f n e (natText (numOf s.data.toList)) 71 = T) :
    Calls Tryz.prog 41 #[.pointer (some ⟨pd, 0, none⟩), .pointer (some ⟨pt, 0, none⟩), .pointer (some ⟨pm, 0, none⟩), .pointer (some ⟨po, 0, none⟩)] w fun e1 w' =>
      e1 = .returned (.tuple #[]) ∧ Cl w' pt 0 (.string (mk T)) ∧ Cl w' pm 0 (.string (mk T)) ∧ Cl w' po 0 (.bool true) ∧ Fr (fun x _ => x = pt ∨ x = pm ∨ x = po) w w' := by
  obtain ⟨d0, d1, d2, d3, _⟩ := E8.of hd
  have H : Hid (∀ w1, Fr (fun _ _ => False) w w1 → Calls Tryz.prog 24 #[.agg #[.int .i64 f, .bool n, .int .i32 e, .string s]] w1 fun e1 w2 => ∃ p, e1 = .returned (.pointer (some ⟨p, 0, none⟩)) ∧
      Hid (Calls Tryz.prog 42 #[.pointer (some ⟨p, 0, none⟩)] w2 fun e1 w3 => ∃ q m c', e1 = .returned (.tuple #[.slice (some ⟨q, 0, none⟩) m c', .nilIface]) ∧ (convert 32 9 (.slice (some ⟨q, 0, none⟩) m c')).run Tryz.prog w3.drew = .ok (.string (mk T)) w3.drew ∧
        Hid (∀ w4, Fr (fun _ _ => False) w3 w4 → Calls Tryz.prog 43 #[.pointer (some ⟨p, 0, none⟩)] w4 fun e1 w5 => e1 = .returned (.string (mk T)) ∧
          (convert 32 9 (.slice (some ⟨q, 0, none⟩) m c')).run Tryz.prog w5 = .ok (.string (mk T)) w5 ∧ w5.cell? ⟨pt, 0, none⟩ = some (.string t0) ∧ w5.frozen? ⟨pt, 0, none⟩ = false ∧ w5.cell? ⟨pm, 0, none⟩ = some (.string m0) ∧ w5.frozen? ⟨pm, 0, none⟩ = false ∧
            w5.cell? ⟨po, 0, none⟩ = some (.bool o0) ∧ w5.frozen? ⟨po, 0, none⟩ = false ∧ Aside (Fr (fun _ _ => False) w w5)))) := Lib.hid (fun w1 k => by
    refine (dec_any f hf (g.new k) hdg h0 hs).mono ?_
    rintro e1 w2 ⟨p, a, c, rfl, k1, k2, k3⟩
    have f2 := k.trans k2
    refine ⟨p, rfl, Lib.hid ?_⟩
    refine (dMarshal_any hA (g.new f2) (hp.new g.g.size f2) k1 hT).mono ?_
    rintro e1 w3 ⟨q, c', rfl, b1, b2, b3⟩
    refine ⟨q, T.length, c', rfl, run_convert_bytes_back w3.drew _ _ _ ⟨q, 0, none⟩ c' T Tryz.underlying32 Tryz.underlying5 Tryz.underlying9 (fun j hj => by rw [Addr.add_lit]; exact b1 j hj), Lib.hid (fun w4 k4 => ?_)⟩
    have f4 := (f2.trans b3).trans k4
    refine (dString_any hA (g.new f4) (hp.new g.g.size f4) (k1.fr (b3.trans k4) (fun _ _ _ q => q)) hT).mono ?_
    rintro e1 w5 ⟨rfl, k5⟩
    have f5 := f4.trans k5
    have t5 := ht.fr f5 (fun q => q)
    have m5 := hm.fr f5 (fun q => q)
    have o5 := ho.fr f5 (fun q => q)
    have b5 := b1.fr (k4.trans k5) b2 (fun _ _ q => q)
    refine ⟨rfl, ?_, t5.cell, t5.free, m5.cell, m5.free, o5.cell, o5.free, ⟨f5⟩⟩
    exact run_convert_bytes_back w5 _ _ _ ⟨q, 0, none⟩ c' T Tryz.underlying32 Tryz.underlying5 Tryz.underlying9 (fun j hj => by rw [Addr.add_lit]; exact b5 j hj))
  have n1' : ¬ pm = pt := fun k => n1 k.symm
  have n2' : ¬ po = pt := fun k => n2 k.symm
  have n3' : ¬ po = pm := fun k => n3 k.symm
  clear hd ht hm ho g hp hdg h0 hs hA hT hf
  go_enter Tryz.func41, Tryz.ntmps41
  go_wp2_with fail
  refine (H.out _ (Fr.refl _ _)).mono ?_
  rintro e1 w2 ⟨p, rfl, q1⟩
  clear H
  go_wp2_with fail
  refine q1.out.mono ?_
  rintro e1 w3 ⟨q, m, c', rfl, hcv3, q2⟩
  clear q1
  go_wp2_with fail
  go_region_with (go_at_call 43; go_must (refine (q2.out _ (by repeat first | exact Fr.refl _ _ | refine Fr.drewN ?_ _ | refine Fr.drew ?_)).mono ?_; rintro e1 w5 ⟨rfl, hcv, t5, t6, m5, m6, o5, o6, hF⟩))
  all_goals
    go_wp2_with fail
    go_end0
    have T5 : Cl w5 pt 0 (.string t0) := ⟨t5, t6⟩
    have M5 : Cl w5 pm 0 (.string m0) := ⟨m5, m6⟩
    have O5 : Cl w5 po 0 (.bool o0) := ⟨o5, o6⟩
    refine ⟨rfl, ((T5.set _).other pm 0 _ (.inl n1')).other po 0 _ (.inl n2'), ((M5.other pt 0 _ (.inl n1)).set _).other po 0 _ (.inl n3'), ((O5.other pt 0 _ (.inl n2)).other pm 0 _ (.inl n3)).set _, ?_⟩
    exact (((hF.out.mono (T := fun x _ => x = pt ∨ x = pm ∨ x = po) (fun _ _ _ k => k.elim)).setCell pt 0 _ (fun _ => .inl rfl)).setCell pm 0 _ (fun _ => .inr (.inl rfl))).setCell po 0 _ (fun _ => .inr (.inr rfl))
theorem enter_written1 (caps : Array Value) (w : World) : (callFunc 41 caps).run Tryz.prog w = .ok (.enter 41 caps) w := by kernel_rfl
end Go.Proofs.YtifkpcijheabhaaGreatDoor
