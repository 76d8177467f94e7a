/- Decimal.Append in the format G. Decimal.Append in the format G. -/
import Derived.Test.YtifkpcijheabhaaGreatDoorP34Fmt6
set_option linter.unusedSimpArgs false
set_option linter.unusedVariables false
namespace Go.Proofs.YtifkpcijheabhaaGreatDoor
open Go.RowKit

set_option maxRecDepth 100000 in
set_option maxHeartbeats 2000000 in
theorem dApp71_f_1 {w : World} {b : Nat} {e : Int} {a : Option Addr} {c X : Nat} {ba : Option Addr} {n bc : Nat} {l : List UInt8} (g : Gv w) (hp : PT w) (h : DA w b 0 false e a c X) (h8 : Sm X) (hX : bl X ≤ 1100) (hm : ndig X ≤ 1000) (he : -5000 ≤ e ∧ e ≤ 5000)
    (hB : Bf w ba n bc l) (hn : n ≤ 5000) (hdis : ∀ x y, foot ba bc x y → ¬ dfoot b a c x y) (c0 : X = 0) (c1 : -2000 ≤ e) (c2 : e < 0) :
    Calls Tryz.prog 31 #[.pointer (some ⟨b, 0, none⟩), .slice ba n bc, .int .u8 71] w fun e1 w' => ∃ a' n' c',
      e1 = .returned (.slice a' n' c') ∧ BW w w' ba bc a' n' c' (l ++ (markL false ++ plainL (natText X) e)) := by
  have hneg := h.neg
  have hform := h.form
  have hexp := h.exp
  have HD := Aside.mk h
  have HG := Aside.mk g
  have HP := Aside.mk hp
  have B0 := Aside.mk (BW.start hB)
  have hG := g.g.size
  have HLT := Aside.mk hB.lt
  have HLB : Aside (∀ x y, foot ba bc x y → NG ≤ x) := ⟨hB.lo⟩
  have hblt := h.lt
  have hnp := ndig_pos X
  have HDB : Aside (∀ o, ¬ foot ba bc b o) := ⟨fun o k => hdis _ _ k (.inl rfl)⟩
  have hb0 : ((bl X : Int) == 0) = true := by subst c0; rfl
  have hnd0 : ndig X = 1 := by subst c0; rw [ndig]; simp
  have hnd1 : (ndig X : Int) ≤ 1 := by omega
  have hnd2 : (1 : Int) ≤ (ndig X : Int) := by omega
  clear hnd0
  clear c0
  clear h g hB hp
  go_enter Tryz.func31, Tryz.ntmps31
  have DBX : Aside (b < w.heap.size ∧ ∀ o, ¬ foot ba bc b o) := ⟨hblt, HDB.out⟩
  go_upto_region 13 with (fail)
  rw [z16_eq]
  go_cut [8] (fun dv wr => ∃ gb go gc, dv = .slice (some ⟨gb, go, none⟩) (ndig X) gc ∧ Aside (Bs wr gb go (natText X)) ∧ Aside (ndig X ≤ gc) ∧ Aside (gb < wr.heap.size ∧ w.heap.size ≤ gb) ∧ Aside (Fr (fun _ _ => False) w wr))
  case first =>
    go_region_with (go_at_call 51; go_must (refine (digits_own HG.out HD.out h8 hm (Fr.refl _ _) _).mono ?_; rintro e1 w2 ⟨gb, go, gc, rfl, g1, g2, g3, g4⟩))
    all_goals
      go_wp2_with fail
      go_meet
      exact ⟨gb, go, gc, rfl, g1, g2, g3, g4⟩
  case rest =>
    obtain ⟨gb, go, gc, rfl, g1, g2, g3, g4⟩ := hcut
    obtain ⟨w2, hw2⟩ : ∃ x, wc = x := ⟨_, rfl⟩
    subst hw2
    have D2 := HD.out.fr g4.out (fun _ _ _ k => k)
    have hexp2 := D2.exp
    have hbl2 := Lib.hid (bBitLen_any D2.num (by have := sm_len h8; omega))
    have B1 := B0.out.new g4.out
    have hsz2 := g4.out.size
    have hF := Lib.hid (fmtF_any (Nat.le_trans HG.out.g.size hsz2) D2 (by omega) (ndig_pos X) hm B1.bf (by omega) g1.out (natText_length X) g2.out g3.out.1 (fun o k => by have := HLT.out _ _ k; have := g3.out.2; omega) ⟨Nat.lt_of_lt_of_le DBX.out.1 hsz2, DBX.out.2⟩)
    have HB1 := Aside.mk B1
    clear D2 B1
    go_wp2_with fail
    refine hbl2.out.mono ?_
    rintro e1 w3 ⟨rfl, rfl⟩
    clear hbl2
    go_wp2_with fail
    refine hF.out.mono ?_
    rintro e1 w4 ⟨a4, n4, c4, rfl, k4⟩
    have K4 := Aside.mk (HB1.out.append k4.bf k4.fr k4.out)
    clear k4 hF
    go_wp2_with fail
    go_ret
    exact ⟨a4, n4, c4, rfl, by simpa [markL] using K4.out⟩
set_option maxRecDepth 100000 in
set_option maxHeartbeats 2000000 in
theorem dApp71_f_2 {w : World} {b : Nat} {e : Int} {a : Option Addr} {c X : Nat} {ba : Option Addr} {n bc : Nat} {l : List UInt8} (g : Gv w) (hp : PT w) (h : DA w b 0 false e a c X) (h8 : Sm X) (hX : bl X ≤ 1100) (hm : ndig X ≤ 1000) (he : -5000 ≤ e ∧ e ≤ 5000)
    (hB : Bf w ba n bc l) (hn : n ≤ 5000) (hdis : ∀ x y, foot ba bc x y → ¬ dfoot b a c x y) (c0 : X = 0) (c1 : e = 0) :
    Calls Tryz.prog 31 #[.pointer (some ⟨b, 0, none⟩), .slice ba n bc, .int .u8 71] w fun e1 w' => ∃ a' n' c',
      e1 = .returned (.slice a' n' c') ∧ BW w w' ba bc a' n' c' (l ++ (markL false ++ plainL (natText X) e)) := by
  have hneg := h.neg
  have hform := h.form
  have hexp := h.exp
  have HD := Aside.mk h
  have HG := Aside.mk g
  have HP := Aside.mk hp
  have B0 := Aside.mk (BW.start hB)
  have hG := g.g.size
  have HLT := Aside.mk hB.lt
  have HLB : Aside (∀ x y, foot ba bc x y → NG ≤ x) := ⟨hB.lo⟩
  have hblt := h.lt
  have hnp := ndig_pos X
  have HDB : Aside (∀ o, ¬ foot ba bc b o) := ⟨fun o k => hdis _ _ k (.inl rfl)⟩
  have hb0 : ((bl X : Int) == 0) = true := by subst c0; rfl
  have hnd0 : ndig X = 1 := by subst c0; rw [ndig]; simp
  have hnd1 : (ndig X : Int) ≤ 1 := by omega
  have hnd2 : (1 : Int) ≤ (ndig X : Int) := by omega
  clear hnd0
  clear c0
  subst c1
  clear h g hB hp
  go_enter Tryz.func31, Tryz.ntmps31
  have DBX : Aside (b < w.heap.size ∧ ∀ o, ¬ foot ba bc b o) := ⟨hblt, HDB.out⟩
  go_upto_region 13 with (fail)
  rw [z16_eq]
  go_cut [8] (fun dv wr => ∃ gb go gc, dv = .slice (some ⟨gb, go, none⟩) (ndig X) gc ∧ Aside (Bs wr gb go (natText X)) ∧ Aside (ndig X ≤ gc) ∧ Aside (gb < wr.heap.size ∧ w.heap.size ≤ gb) ∧ Aside (Fr (fun _ _ => False) w wr))
  case first =>
    go_region_with (go_at_call 51; go_must (refine (digits_own HG.out HD.out h8 hm (Fr.refl _ _) _).mono ?_; rintro e1 w2 ⟨gb, go, gc, rfl, g1, g2, g3, g4⟩))
    all_goals
      go_wp2_with fail
      go_meet
      exact ⟨gb, go, gc, rfl, g1, g2, g3, g4⟩
  case rest =>
    obtain ⟨gb, go, gc, rfl, g1, g2, g3, g4⟩ := hcut
    obtain ⟨w2, hw2⟩ : ∃ x, wc = x := ⟨_, rfl⟩
    subst hw2
    have D2 := HD.out.fr g4.out (fun _ _ _ k => k)
    have hexp2 := D2.exp
    have hbl2 := Lib.hid (bBitLen_any D2.num (by have := sm_len h8; omega))
    have B1 := B0.out.new g4.out
    have hsz2 := g4.out.size
    have hF := Lib.hid (fmtF_any (Nat.le_trans HG.out.g.size hsz2) D2 (by omega) (ndig_pos X) hm B1.bf (by omega) g1.out (natText_length X) g2.out g3.out.1 (fun o k => by have := HLT.out _ _ k; have := g3.out.2; omega) ⟨Nat.lt_of_lt_of_le DBX.out.1 hsz2, DBX.out.2⟩)
    have HB1 := Aside.mk B1
    clear D2 B1
    go_wp2_with fail
    refine hbl2.out.mono ?_
    rintro e1 w3 ⟨rfl, rfl⟩
    clear hbl2
    go_wp2_with fail
    refine hF.out.mono ?_
    rintro e1 w4 ⟨a4, n4, c4, rfl, k4⟩
    have K4 := Aside.mk (HB1.out.append k4.bf k4.fr k4.out)
    clear k4 hF
    go_wp2_with fail
    go_ret
    exact ⟨a4, n4, c4, rfl, by simpa [markL] using K4.out⟩
set_option maxRecDepth 100000 in
set_option maxHeartbeats 2000000 in
theorem dApp71_f_3 {w : World} {b : Nat} {e : Int} {a : Option Addr} {c X : Nat} {ba : Option Addr} {n bc : Nat} {l : List UInt8} (g : Gv w) (hp : PT w) (h : DA w b 0 false e a c X) (h8 : Sm X) (hX : bl X ≤ 1100) (hm : ndig X ≤ 1000) (he : -5000 ≤ e ∧ e ≤ 5000)
    (hB : Bf w ba n bc l) (hn : n ≤ 5000) (hdis : ∀ x y, foot ba bc x y → ¬ dfoot b a c x y) (c0 : X = 0) (c1 : 0 < e) :
    Calls Tryz.prog 31 #[.pointer (some ⟨b, 0, none⟩), .slice ba n bc, .int .u8 71] w fun e1 w' => ∃ a' n' c',
      e1 = .returned (.slice a' n' c') ∧ BW w w' ba bc a' n' c' (l ++ (markL false ++ sciL (natText X) e 69)) := by
  have hneg := h.neg
  have hform := h.form
  have hexp := h.exp
  have HD := Aside.mk h
  have HG := Aside.mk g
  have HP := Aside.mk hp
  have B0 := Aside.mk (BW.start hB)
  have hG := g.g.size
  have HLT := Aside.mk hB.lt
  have HLB : Aside (∀ x y, foot ba bc x y → NG ≤ x) := ⟨hB.lo⟩
  have hblt := h.lt
  have hnp := ndig_pos X
  have HDB : Aside (∀ o, ¬ foot ba bc b o) := ⟨fun o k => hdis _ _ k (.inl rfl)⟩
  have hb0 : ((bl X : Int) == 0) = true := by subst c0; rfl
  have hnd0 : ndig X = 1 := by subst c0; rw [ndig]; simp
  have hnd1 : (ndig X : Int) ≤ 1 := by omega
  have hnd2 : (1 : Int) ≤ (ndig X : Int) := by omega
  clear hnd0
  clear c0
  clear h g hB hp
  go_enter Tryz.func31, Tryz.ntmps31
  have DBX : Aside (b < w.heap.size ∧ ∀ o, ¬ foot ba bc b o) := ⟨hblt, HDB.out⟩
  go_upto_region 13 with (fail)
  rw [z16_eq]
  go_cut [8] (fun dv wr => ∃ gb go gc, dv = .slice (some ⟨gb, go, none⟩) (ndig X) gc ∧ Aside (Bs wr gb go (natText X)) ∧ Aside (ndig X ≤ gc) ∧ Aside (gb < wr.heap.size ∧ w.heap.size ≤ gb) ∧ Aside (Fr (fun _ _ => False) w wr))
  case first =>
    go_region_with (go_at_call 51; go_must (refine (digits_own HG.out HD.out h8 hm (Fr.refl _ _) _).mono ?_; rintro e1 w2 ⟨gb, go, gc, rfl, g1, g2, g3, g4⟩))
    all_goals
      go_wp2_with fail
      go_meet
      exact ⟨gb, go, gc, rfl, g1, g2, g3, g4⟩
  case rest =>
    obtain ⟨gb, go, gc, rfl, g1, g2, g3, g4⟩ := hcut
    obtain ⟨w2, hw2⟩ : ∃ x, wc = x := ⟨_, rfl⟩
    subst hw2
    have D2 := HD.out.fr g4.out (fun _ _ _ k => k)
    have hexp2 := D2.exp
    have hbl2 := Lib.hid (bBitLen_any D2.num (by have := sm_len h8; omega))
    have B1 := B0.out.new g4.out
    have hsz2 := g4.out.size
    have hF := Lib.hid (fmtE_any (fm := 69) (Nat.le_trans HG.out.g.size hsz2) (HP.out.new HG.out.g.size g4.out) HLB.out D2 he (ndig_pos X) hm B1.bf (by omega) g1.out (natText_length X) g2.out g3.out.1 (fun o k => by have := HLT.out _ _ k; have := g3.out.2; omega))
    rw [show (((69 : UInt8).toNat : Nat) : Int) = 69 from rfl] at hF
    have HB1 := Aside.mk B1
    clear D2 B1
    go_wp2_with fail
    refine hbl2.out.mono ?_
    rintro e1 w3 ⟨rfl, rfl⟩
    clear hbl2
    go_wp2_with fail
    refine hF.out.mono ?_
    rintro e1 w4 ⟨a4, n4, c4, rfl, k4⟩
    have K4 := Aside.mk (HB1.out.append k4.bf k4.fr k4.out)
    clear k4 hF
    go_wp2_with fail
    go_ret
    exact ⟨a4, n4, c4, rfl, by simpa [markL] using K4.out⟩
set_option maxRecDepth 100000 in
set_option maxHeartbeats 2000000 in
theorem dApp71_f_4 {w : World} {b : Nat} {e : Int} {a : Option Addr} {c X : Nat} {ba : Option Addr} {n bc : Nat} {l : List UInt8} (g : Gv w) (hp : PT w) (h : DA w b 0 false e a c X) (h8 : Sm X) (hX : bl X ≤ 1100) (hm : ndig X ≤ 1000) (he : -5000 ≤ e ∧ e ≤ 5000)
    (hB : Bf w ba n bc l) (hn : n ≤ 5000) (hdis : ∀ x y, foot ba bc x y → ¬ dfoot b a c x y) (c0 : X = 0) (c1 : e < -2000) :
    Calls Tryz.prog 31 #[.pointer (some ⟨b, 0, none⟩), .slice ba n bc, .int .u8 71] w fun e1 w' => ∃ a' n' c',
      e1 = .returned (.slice a' n' c') ∧ BW w w' ba bc a' n' c' (l ++ (markL false ++ sciL (natText X) e 69)) := by
  have hneg := h.neg
  have hform := h.form
  have hexp := h.exp
  have HD := Aside.mk h
  have HG := Aside.mk g
  have HP := Aside.mk hp
  have B0 := Aside.mk (BW.start hB)
  have hG := g.g.size
  have HLT := Aside.mk hB.lt
  have HLB : Aside (∀ x y, foot ba bc x y → NG ≤ x) := ⟨hB.lo⟩
  have hblt := h.lt
  have hnp := ndig_pos X
  have HDB : Aside (∀ o, ¬ foot ba bc b o) := ⟨fun o k => hdis _ _ k (.inl rfl)⟩
  have hb0 : ((bl X : Int) == 0) = true := by subst c0; rfl
  have hnd0 : ndig X = 1 := by subst c0; rw [ndig]; simp
  have hnd1 : (ndig X : Int) ≤ 1 := by omega
  have hnd2 : (1 : Int) ≤ (ndig X : Int) := by omega
  clear hnd0
  clear c0
  clear h g hB hp
  go_enter Tryz.func31, Tryz.ntmps31
  have DBX : Aside (b < w.heap.size ∧ ∀ o, ¬ foot ba bc b o) := ⟨hblt, HDB.out⟩
  go_upto_region 13 with (fail)
  rw [z16_eq]
  go_cut [8] (fun dv wr => ∃ gb go gc, dv = .slice (some ⟨gb, go, none⟩) (ndig X) gc ∧ Aside (Bs wr gb go (natText X)) ∧ Aside (ndig X ≤ gc) ∧ Aside (gb < wr.heap.size ∧ w.heap.size ≤ gb) ∧ Aside (Fr (fun _ _ => False) w wr))
  case first =>
    go_region_with (go_at_call 51; go_must (refine (digits_own HG.out HD.out h8 hm (Fr.refl _ _) _).mono ?_; rintro e1 w2 ⟨gb, go, gc, rfl, g1, g2, g3, g4⟩))
    all_goals
      go_wp2_with fail
      go_meet
      exact ⟨gb, go, gc, rfl, g1, g2, g3, g4⟩
  case rest =>
    obtain ⟨gb, go, gc, rfl, g1, g2, g3, g4⟩ := hcut
    obtain ⟨w2, hw2⟩ : ∃ x, wc = x := ⟨_, rfl⟩
    subst hw2
    have D2 := HD.out.fr g4.out (fun _ _ _ k => k)
    have hexp2 := D2.exp
    have hbl2 := Lib.hid (bBitLen_any D2.num (by have := sm_len h8; omega))
    have B1 := B0.out.new g4.out
    have hsz2 := g4.out.size
    have hF := Lib.hid (fmtE_any (fm := 69) (Nat.le_trans HG.out.g.size hsz2) (HP.out.new HG.out.g.size g4.out) HLB.out D2 he (ndig_pos X) hm B1.bf (by omega) g1.out (natText_length X) g2.out g3.out.1 (fun o k => by have := HLT.out _ _ k; have := g3.out.2; omega))
    rw [show (((69 : UInt8).toNat : Nat) : Int) = 69 from rfl] at hF
    have HB1 := Aside.mk B1
    clear D2 B1
    go_wp2_with fail
    refine hbl2.out.mono ?_
    rintro e1 w3 ⟨rfl, rfl⟩
    clear hbl2
    go_wp2_with fail
    refine hF.out.mono ?_
    rintro e1 w4 ⟨a4, n4, c4, rfl, k4⟩
    have K4 := Aside.mk (HB1.out.append k4.bf k4.fr k4.out)
    clear k4 hF
    go_wp2_with fail
    go_ret
    exact ⟨a4, n4, c4, rfl, by simpa [markL] using K4.out⟩
end Go.Proofs.YtifkpcijheabhaaGreatDoor
namespace Go.Proofs.YtifkpcijheabhaaGreatDoor
open Go.RowKit

set_option maxRecDepth 100000 in
set_option maxHeartbeats 2000000 in
theorem dApp71_f_5 {w : World} {b : Nat} {e : Int} {a : Option Addr} {c X : Nat} {ba : Option Addr} {n bc : Nat} {l : List UInt8} (g : Gv w) (hp : PT w) (h : DA w b 0 false e a c X) (h8 : Sm X) (hX : bl X ≤ 1100) (hm : ndig X ≤ 1000) (he : -5000 ≤ e ∧ e ≤ 5000)
    (hB : Bf w ba n bc l) (hn : n ≤ 5000) (hdis : ∀ x y, foot ba bc x y → ¬ dfoot b a c x y) (c0 : X ≠ 0) (c1 : e ≤ 0) (c2 : -6 ≤ e + ((ndig X : Int) - 1)) :
    Calls Tryz.prog 31 #[.pointer (some ⟨b, 0, none⟩), .slice ba n bc, .int .u8 71] w fun e1 w' => ∃ a' n' c',
      e1 = .returned (.slice a' n' c') ∧ BW w w' ba bc a' n' c' (l ++ (markL false ++ plainL (natText X) e)) := by
  have hneg := h.neg
  have hform := h.form
  have hexp := h.exp
  have HD := Aside.mk h
  have HG := Aside.mk g
  have HP := Aside.mk hp
  have B0 := Aside.mk (BW.start hB)
  have hG := g.g.size
  have HLT := Aside.mk hB.lt
  have HLB : Aside (∀ x y, foot ba bc x y → NG ≤ x) := ⟨hB.lo⟩
  have hblt := h.lt
  have hnp := ndig_pos X
  have HDB : Aside (∀ o, ¬ foot ba bc b o) := ⟨fun o k => hdis _ _ k (.inl rfl)⟩
  have hb0 : ((bl X : Int) == 0) = false := by rw [beq_eq_false_iff_ne]; have := bl_pos c0; omega
  clear h g hB hp
  go_enter Tryz.func31, Tryz.ntmps31
  have DBX : Aside (b < w.heap.size ∧ ∀ o, ¬ foot ba bc b o) := ⟨hblt, HDB.out⟩
  go_upto_region 13 with (fail)
  rw [z16_eq]
  go_cut [8] (fun dv wr => ∃ gb go gc, dv = .slice (some ⟨gb, go, none⟩) (ndig X) gc ∧ Aside (Bs wr gb go (natText X)) ∧ Aside (ndig X ≤ gc) ∧ Aside (gb < wr.heap.size ∧ w.heap.size ≤ gb) ∧ Aside (Fr (fun _ _ => False) w wr))
  case first =>
    go_region_with (go_at_call 51; go_must (refine (digits_own HG.out HD.out h8 hm (Fr.refl _ _) _).mono ?_; rintro e1 w2 ⟨gb, go, gc, rfl, g1, g2, g3, g4⟩))
    all_goals
      go_wp2_with fail
      go_meet
      exact ⟨gb, go, gc, rfl, g1, g2, g3, g4⟩
  case rest =>
    obtain ⟨gb, go, gc, rfl, g1, g2, g3, g4⟩ := hcut
    obtain ⟨w2, hw2⟩ : ∃ x, wc = x := ⟨_, rfl⟩
    subst hw2
    have D2 := HD.out.fr g4.out (fun _ _ _ k => k)
    have hexp2 := D2.exp
    have hbl2 := Lib.hid (bBitLen_any D2.num (by have := sm_len h8; omega))
    have B1 := B0.out.new g4.out
    have hsz2 := g4.out.size
    have hF := Lib.hid (fmtF_any (Nat.le_trans HG.out.g.size hsz2) D2 (by omega) (ndig_pos X) hm B1.bf (by omega) g1.out (natText_length X) g2.out g3.out.1 (fun o k => by have := HLT.out _ _ k; have := g3.out.2; omega) ⟨Nat.lt_of_lt_of_le DBX.out.1 hsz2, DBX.out.2⟩)
    have HB1 := Aside.mk B1
    clear D2 B1
    go_wp2_with fail
    refine hbl2.out.mono ?_
    rintro e1 w3 ⟨rfl, rfl⟩
    clear hbl2
    go_wp2_with fail
    refine hF.out.mono ?_
    rintro e1 w4 ⟨a4, n4, c4, rfl, k4⟩
    have K4 := Aside.mk (HB1.out.append k4.bf k4.fr k4.out)
    clear k4 hF
    go_wp2_with fail
    go_ret
    exact ⟨a4, n4, c4, rfl, by simpa [markL] using K4.out⟩
set_option maxRecDepth 100000 in
set_option maxHeartbeats 2000000 in
theorem dApp71_f_6 {w : World} {b : Nat} {e : Int} {a : Option Addr} {c X : Nat} {ba : Option Addr} {n bc : Nat} {l : List UInt8} (g : Gv w) (hp : PT w) (h : DA w b 0 false e a c X) (h8 : Sm X) (hX : bl X ≤ 1100) (hm : ndig X ≤ 1000) (he : -5000 ≤ e ∧ e ≤ 5000)
    (hB : Bf w ba n bc l) (hn : n ≤ 5000) (hdis : ∀ x y, foot ba bc x y → ¬ dfoot b a c x y) (c0 : X ≠ 0) (c1 : 0 < e) :
    Calls Tryz.prog 31 #[.pointer (some ⟨b, 0, none⟩), .slice ba n bc, .int .u8 71] w fun e1 w' => ∃ a' n' c',
      e1 = .returned (.slice a' n' c') ∧ BW w w' ba bc a' n' c' (l ++ (markL false ++ sciL (natText X) e 69)) := by
  have hneg := h.neg
  have hform := h.form
  have hexp := h.exp
  have HD := Aside.mk h
  have HG := Aside.mk g
  have HP := Aside.mk hp
  have B0 := Aside.mk (BW.start hB)
  have hG := g.g.size
  have HLT := Aside.mk hB.lt
  have HLB : Aside (∀ x y, foot ba bc x y → NG ≤ x) := ⟨hB.lo⟩
  have hblt := h.lt
  have hnp := ndig_pos X
  have HDB : Aside (∀ o, ¬ foot ba bc b o) := ⟨fun o k => hdis _ _ k (.inl rfl)⟩
  have hb0 : ((bl X : Int) == 0) = false := by rw [beq_eq_false_iff_ne]; have := bl_pos c0; omega
  clear h g hB hp
  go_enter Tryz.func31, Tryz.ntmps31
  have DBX : Aside (b < w.heap.size ∧ ∀ o, ¬ foot ba bc b o) := ⟨hblt, HDB.out⟩
  go_upto_region 13 with (fail)
  rw [z16_eq]
  go_cut [8] (fun dv wr => ∃ gb go gc, dv = .slice (some ⟨gb, go, none⟩) (ndig X) gc ∧ Aside (Bs wr gb go (natText X)) ∧ Aside (ndig X ≤ gc) ∧ Aside (gb < wr.heap.size ∧ w.heap.size ≤ gb) ∧ Aside (Fr (fun _ _ => False) w wr))
  case first =>
    go_region_with (go_at_call 51; go_must (refine (digits_own HG.out HD.out h8 hm (Fr.refl _ _) _).mono ?_; rintro e1 w2 ⟨gb, go, gc, rfl, g1, g2, g3, g4⟩))
    all_goals
      go_wp2_with fail
      go_meet
      exact ⟨gb, go, gc, rfl, g1, g2, g3, g4⟩
  case rest =>
    obtain ⟨gb, go, gc, rfl, g1, g2, g3, g4⟩ := hcut
    obtain ⟨w2, hw2⟩ : ∃ x, wc = x := ⟨_, rfl⟩
    subst hw2
    have D2 := HD.out.fr g4.out (fun _ _ _ k => k)
    have hexp2 := D2.exp
    have hbl2 := Lib.hid (bBitLen_any D2.num (by have := sm_len h8; omega))
    have B1 := B0.out.new g4.out
    have hsz2 := g4.out.size
    have hF := Lib.hid (fmtE_any (fm := 69) (Nat.le_trans HG.out.g.size hsz2) (HP.out.new HG.out.g.size g4.out) HLB.out D2 he (ndig_pos X) hm B1.bf (by omega) g1.out (natText_length X) g2.out g3.out.1 (fun o k => by have := HLT.out _ _ k; have := g3.out.2; omega))
    rw [show (((69 : UInt8).toNat : Nat) : Int) = 69 from rfl] at hF
    have HB1 := Aside.mk B1
    clear D2 B1
    go_wp2_with fail
    refine hbl2.out.mono ?_
    rintro e1 w3 ⟨rfl, rfl⟩
    clear hbl2
    go_wp2_with fail
    refine hF.out.mono ?_
    rintro e1 w4 ⟨a4, n4, c4, rfl, k4⟩
    have K4 := Aside.mk (HB1.out.append k4.bf k4.fr k4.out)
    clear k4 hF
    go_wp2_with fail
    go_ret
    exact ⟨a4, n4, c4, rfl, by simpa [markL] using K4.out⟩
set_option maxRecDepth 100000 in
set_option maxHeartbeats 2000000 in
theorem dApp71_f_7 {w : World} {b : Nat} {e : Int} {a : Option Addr} {c X : Nat} {ba : Option Addr} {n bc : Nat} {l : List UInt8} (g : Gv w) (hp : PT w) (h : DA w b 0 false e a c X) (h8 : Sm X) (hX : bl X ≤ 1100) (hm : ndig X ≤ 1000) (he : -5000 ≤ e ∧ e ≤ 5000)
    (hB : Bf w ba n bc l) (hn : n ≤ 5000) (hdis : ∀ x y, foot ba bc x y → ¬ dfoot b a c x y) (c0 : X ≠ 0) (c1 : e ≤ 0) (c2 : e + ((ndig X : Int) - 1) < -6) :
    Calls Tryz.prog 31 #[.pointer (some ⟨b, 0, none⟩), .slice ba n bc, .int .u8 71] w fun e1 w' => ∃ a' n' c',
      e1 = .returned (.slice a' n' c') ∧ BW w w' ba bc a' n' c' (l ++ (markL false ++ sciL (natText X) e 69)) := by
  have hneg := h.neg
  have hform := h.form
  have hexp := h.exp
  have HD := Aside.mk h
  have HG := Aside.mk g
  have HP := Aside.mk hp
  have B0 := Aside.mk (BW.start hB)
  have hG := g.g.size
  have HLT := Aside.mk hB.lt
  have HLB : Aside (∀ x y, foot ba bc x y → NG ≤ x) := ⟨hB.lo⟩
  have hblt := h.lt
  have hnp := ndig_pos X
  have HDB : Aside (∀ o, ¬ foot ba bc b o) := ⟨fun o k => hdis _ _ k (.inl rfl)⟩
  have hb0 : ((bl X : Int) == 0) = false := by rw [beq_eq_false_iff_ne]; have := bl_pos c0; omega
  clear h g hB hp
  go_enter Tryz.func31, Tryz.ntmps31
  have DBX : Aside (b < w.heap.size ∧ ∀ o, ¬ foot ba bc b o) := ⟨hblt, HDB.out⟩
  go_upto_region 13 with (fail)
  rw [z16_eq]
  go_cut [8] (fun dv wr => ∃ gb go gc, dv = .slice (some ⟨gb, go, none⟩) (ndig X) gc ∧ Aside (Bs wr gb go (natText X)) ∧ Aside (ndig X ≤ gc) ∧ Aside (gb < wr.heap.size ∧ w.heap.size ≤ gb) ∧ Aside (Fr (fun _ _ => False) w wr))
  case first =>
    go_region_with (go_at_call 51; go_must (refine (digits_own HG.out HD.out h8 hm (Fr.refl _ _) _).mono ?_; rintro e1 w2 ⟨gb, go, gc, rfl, g1, g2, g3, g4⟩))
    all_goals
      go_wp2_with fail
      go_meet
      exact ⟨gb, go, gc, rfl, g1, g2, g3, g4⟩
  case rest =>
    obtain ⟨gb, go, gc, rfl, g1, g2, g3, g4⟩ := hcut
    obtain ⟨w2, hw2⟩ : ∃ x, wc = x := ⟨_, rfl⟩
    subst hw2
    have D2 := HD.out.fr g4.out (fun _ _ _ k => k)
    have hexp2 := D2.exp
    have hbl2 := Lib.hid (bBitLen_any D2.num (by have := sm_len h8; omega))
    have B1 := B0.out.new g4.out
    have hsz2 := g4.out.size
    have hF := Lib.hid (fmtE_any (fm := 69) (Nat.le_trans HG.out.g.size hsz2) (HP.out.new HG.out.g.size g4.out) HLB.out D2 he (ndig_pos X) hm B1.bf (by omega) g1.out (natText_length X) g2.out g3.out.1 (fun o k => by have := HLT.out _ _ k; have := g3.out.2; omega))
    rw [show (((69 : UInt8).toNat : Nat) : Int) = 69 from rfl] at hF
    have HB1 := Aside.mk B1
    clear D2 B1
    go_wp2_with fail
    refine hbl2.out.mono ?_
    rintro e1 w3 ⟨rfl, rfl⟩
    clear hbl2
    go_wp2_with fail
    refine hF.out.mono ?_
    rintro e1 w4 ⟨a4, n4, c4, rfl, k4⟩
    have K4 := Aside.mk (HB1.out.append k4.bf k4.fr k4.out)
    clear k4 hF
    go_wp2_with fail
    go_ret
    exact ⟨a4, n4, c4, rfl, by simpa [markL] using K4.out⟩
end Go.Proofs.YtifkpcijheabhaaGreatDoor
