/- convertWords with a table: of no row, and of one row. convertWords with a table of one row: a number of 9 to 16 words. -/
import Derived.Test.YtgilnnipephfjaaGreatDoorM09Conv
import Derived.Test.YtgilnnipephfjaaGreatDoorM22Divs2
import Derived.Deep.RegionWith
import Derived.Deep.DeepCutAuto
import Derived.Deep.CutBlock
import Derived.WalkSpells
set_option linter.unusedSimpArgs false
set_option linter.unusedVariables false
namespace Go.Proofs.YtgilnnipephfjaaGreatDoor
open Go.RowKit

/-- Where nothing of the stack's own is written, a stack stays as it is. -/
theorem Stk.fr' {T : Nat → Nat → Prop} {w w' : World} {sb so n : Nat} (h : Stk w sb so n) (f : Fr T w w') (ht : ∀ x y, T x y → x < w.heap.size → ¬ sfree w sb so 0 x y) :
    Stk w' sb so n ∧ ∀ k x y, sfree w' sb so k x y ↔ sfree w sb so k x y := by
  have key : ∀ x y v, sfree w sb so 0 x y → w.cell? ⟨x, y, none⟩ = some v → w'.cell? ⟨x, y, none⟩ = some v := fun x y v hf hv =>
    (f.cell x y (World.block_lt_of_cell? w _ hv) (fun k => ht x y k (World.block_lt_of_cell? w _ hv) hf)).trans hv
  obtain ⟨hb, h⟩ := h
  rcases h with ⟨h1, rfl⟩ | ⟨ib, a, c, h1, h2, h3, h4, h5, h6⟩
  · have e1 := key _ _ _ (.inl ⟨rfl, rfl⟩) h1
    refine ⟨⟨f.blk hb, .inl ⟨e1, rfl⟩⟩, fun k x y => ?_⟩
    unfold sfree
    rw [e1, h1]
    simp
  · have e1 := key _ _ _ (.inl ⟨rfl, rfl⟩) h1
    have e2 := key _ _ _ (.inr ⟨ib, h1, .inl ⟨rfl, rfl⟩⟩) h2
    refine ⟨⟨f.blk hb, .inr ⟨ib, a, c, e1, e2, f.blk h3, h4, h5, ?_⟩⟩, fun k x y => ?_⟩
    · rcases h6 with k | ⟨ab, ao, rfl, ho⟩
      · exact .inl k
      · refine .inr ⟨ab, ao, rfl, f.own ho fun i hi k => ?_⟩
        exact ht _ _ k ho.kind.lt (.inr ⟨ib, h1, .inr ⟨ab, ao, n, c, h2, rfl, by omega, by omega⟩⟩)
    · unfold sfree
      rw [e1, h1]
      constructor
      · rintro (k | ⟨ib', e, k⟩)
        · exact .inl k
        · cases e
          rw [e2] at k
          exact .inr ⟨ib, rfl, by rw [h2]; exact k⟩
      · rintro (k | ⟨ib', e, k⟩)
        · exact .inl k
        · cases e
          rw [h2] at k
          exact .inr ⟨ib, rfl, by rw [e2]; exact k⟩
theorem run_tab_neq (b n c : Nat) (w : World) : (binOp .neq 227 (.slice (some ⟨b, 0, none⟩) n c) (.slice none 0 0)).run Tryz.prog w = .ok (.bool true) w := by
  have h : ∀ d : Nat, (Op.equalIn (d + 1) 227 (.slice (some ⟨b, 0, none⟩) n c) (.slice none 0 0)).run Tryz.prog w = .ok false w := fun d => by
    simp [Op.equalIn, run_underlying Tryz.underlying227]
  simp only [binOp]
  simp [Op.equal, Op.maxDepth, h 9999]

set_option maxRecDepth 100000 in
set_option maxHeartbeats 8000000 in
theorem convert_empty {a : Option Addr} {c X sb so L sc tb tc : Nat} {w : World} (stk : Value) (g : Gl w) (hX : Nt w a c X) (hn : nlen X ≤ 8) (hs : OwnB w sb so L) (hL : L < 1000000) (hd : ∀ o, so ≤ o → o < so + L → ¬ foot a c sb o) :
    Calls Tryz.prog 197 #[.slice a (nlen X) c, stk, .slice (some ⟨sb, so, none⟩) L sc, .int .u64 10, .int .i64 19, .int .u64 (p10 19 : Nat), .slice (some ⟨tb, 0, none⟩) 0 tc] w fun e w' => e = .returned (.tuple #[]) ∧
      Dgs w' sb so L 0 X ∧ OwnB w' sb so L ∧ Fr (fun b o => foot a c b o ∨ (b = sb ∧ so ≤ o ∧ o < so + L)) w w' := by
  have hp19 : p10 19 < B := by rw [p10_19]; decide
  have hp19' : 1 < p10 19 := by rw [p10_19]; decide
  have hG := g.size
  have hle := g.leaf
  have hsb := hs.kind.lt
  have I0 : Aside (CW w w a c sb so L X 0 (L - 0) a c) := ⟨{
    nt := by rw [Nat.pow_zero, Nat.div_one]; exact hX
    out := .inl ⟨rfl, rfl⟩
    own := hs
    dgs := fun i h1 h2 => by omega
    fr := Fr.refl _ _ }⟩
  have HX := Aside.mk hX
  have HD := Aside.mk hd
  have q8 : decide (8 < nlen X) = false := by simp; omega
  have hq := run_tab_neq tb 0 tc
  clear hX hs hd g
  go_enter Tryz.func197, Tryz.ntmps197
  go_upto_if 25 with (fail)
  go_cut [0, 2] from 24 to 105 (fun q s wx => q = .slice a (nlen X) c ∧ s = .slice (some ⟨sb, so, none⟩) L sc ∧ wx = w)
  case first =>
    go_wp2_with fail
    refine wp_loop_once ?_
    go_wp2_with fail
    go_meet
    exact ⟨rfl, rfl, rfl⟩
  case rest =>
  obtain ⟨rfl, rfl, hwc⟩ := hcut
  rw [hwc]
  have hn' : nlen X < 800000 := by omega
  clear q8 hq hle hn hwc
  have hn := hn'
  clear hn'
  go_wp2_with fail
  go_loopw [0, 19] (fun q i wr => ∃ (t : Nat) (aq : Option Addr) (cq n : Nat), i = .int .i64 ((L - t : Nat) : Int) ∧ q = .slice aq n cq ∧ n = nlen (X / 10 ^ t) ∧ Aside (CW w wr a c sb so L X t (L - t) aq cq)) (fun q _ wr => nval wr q)
  case atStart => exact ⟨0, a, c, _, rfl, rfl, by rw [Nat.pow_zero, Nat.div_one], I0⟩
  case round =>
    obtain ⟨t, aq, cq, n, rfl, rfl, hn1, hI⟩ := hrel
    by_cases h0 : 0 < n
    · have g0 : decide (0 < (n : Int)) = true := by simpa using h0
      have hq0 : X / 10 ^ t ≠ 0 := fun k => by rw [hn1, k, nlen_zero] at h0; omega
      have hle : X / 10 ^ t ≤ X := Nat.div_le_self _ _
      have hdv := Lib.hid (divW_any (zl := n) (Nat.le_trans hG hI.out.fr.size) hI.out.nt.reg hI.out.nt (by have := nlen_mono hle; omega) hp19 hp19' (.inl ⟨rfl, rfl⟩))
      rw [grp_zero, next_t] at hdv
      have HN := Aside.mk hn1
      have HQ0 := Aside.mk hq0
      rw [← hn1] at hdv
      clear hn1 hq0 hle
      obtain ⟨R, hR⟩ : ∃ R, grp X t 0 = R := ⟨_, rfl⟩
      rw [hR] at hdv
      have HR := Aside.mk hR.symm
      clear hR
      obtain ⟨N2, hN2⟩ : ∃ N2, nlen (X / 10 ^ (t + 19)) = N2 := ⟨_, rfl⟩
      rw [hN2] at hdv
      have HN2 := Aside.mk hN2
      clear hN2
      go_wp2_with fail
      refine hdv.out.mono ?_
      rintro e w1 ⟨a', c', rfl, hnt1, hfr1, hout1⟩
      have J0 : Aside (CW w w1 a c sb so L X (t + 19) (L - (t + 0)) a' c') := ⟨hI.out.divided HX.out.reg hsb HD.out hnt1 hfr1 hout1⟩
      clear hnt1 hfr1 hout1 hdv
      go_wp2_with fail
      go_loopw [19, 20, 21] (fun i r j wr => ∃ (k R : Nat), k ≤ 19 ∧ j = .int .i64 k ∧ i = .int .i64 ((L - (t + k) : Nat) : Int) ∧ r = .int .u64 (R : Nat) ∧ Aside (R = grp X t k) ∧ Aside (CW w wr a c sb so L X (t + 19) (L - (t + k)) a' c')) (fun _ _ j _ => 19 - (intOf j).toNat)
      case atStart => exact ⟨0, R, by omega, rfl, rfl, rfl, HR, J0⟩
      case round =>
        obtain ⟨k, R2, hk, rfl, rfl, rfl, hR2, hJ⟩ := hrel
        by_cases hk19 : k < 19
        · by_cases hm : 0 < L - (t + k)
          · obtain ⟨m, hm1⟩ : ∃ m, L - (t + k) = m + 1 := ⟨L - (t + k) - 1, by omega⟩
            have hm2 : L - (t + (k + 1)) = m := by omega
            have hmL : m < L := by omega
            obtain ⟨u, _, hu⟩ := hJ.out.own.cell m hmL
            have hf : wr.frozen? ⟨sb, so + m, none⟩ = false := hJ.out.own.kind.free _
            have hRd : R2 % 10 = dg X (L - 1 - m) := by rw [hR2.out, grp_dg X t k hk19, show L - 1 - m = t + k from by omega]
            have J1 : Aside (CW w (wr.setCell ⟨sb, so + m, none⟩ (.int .u8 ((48 + R2 % 10 : Nat) : Int))) a c sb so L X (t + 19) m a' c') :=
              ⟨(hm1 ▸ hJ.out : CW w wr a c sb so L X (t + 19) (m + 1) a' c').set hmL hRd hsb HD.out⟩
            rw [show ((48 + R2 % 10 : Nat) : Int) = 48 + ((R2 : Int) - (R2 : Int) / 10 * 10) from by omega] at J1
            have hRn : Aside (R2 / 10 = grp X t (k + 1)) := ⟨by rw [hR2.out, grp_next]⟩
            have hRB : R2 < 10000000000000000000 := by have := grp_lt X t k; rw [← hR2.out, p10_19] at this; exact this
            rw [hm1]
            have HM1 := Aside.mk hm1
            have HM2 := Aside.mk hm2
            clear hRd hm1 hm2 hm
            go_wp2_with fail
            go_roundw
            case rel => exact ⟨k + 1, R2 / 10, by omega, by go_num, by rw [HM2.out], rfl, hRn, by rw [HM2.out]; exact J1⟩
            case measure => simp [intOf]; omega
          · have hm0 : L - (t + k) = 0 := by omega
            rw [hm0] at hJ ⊢
            have hm1 : L - (t + 19) = 0 := by omega
            have HM1 := Aside.mk hm1
            clear hm hm0 hm1
            go_wp2_with fail
            go_roundw
            case rel => exact ⟨t + 19, a', c', N2, by rw [HM1.out]; rfl, rfl, HN2.out.symm, by rw [HM1.out]; exact hJ⟩
            case measure => exact CW.less hI hJ HN HN2 HQ0
        · obtain rfl : k = 19 := by omega
          go_wp2_with fail
          go_roundw
          case rel => exact ⟨t + 19, a', c', N2, rfl, rfl, HN2.out.symm, hJ⟩
          case measure => exact CW.less hI hJ HN HN2 HQ0
    · obtain rfl : n = 0 := by omega
      have hz : X / 10 ^ t = 0 := nlen_eq_zero.1 hn1.symm
      have HZ := Aside.mk hz
      clear hz hn1
      go_wp2_with fail
      go_loopw [19] (fun i wr => ∃ (k : Nat), k ≤ L - t ∧ i = .int .i64 k ∧ Aside (CW w wr a c sb so L X t k aq cq)) (fun i _ => (intOf i).toNat)
      case atStart => exact ⟨L - t, by omega, rfl, hI⟩
      case round =>
        obtain ⟨k, hk, rfl, hJ⟩ := hrel
        by_cases hk0 : 0 < k
        · obtain ⟨m, rfl⟩ : ∃ m, k = m + 1 := ⟨k - 1, by omega⟩
          have hmL : m < L := by omega
          obtain ⟨u, _, hu⟩ := hJ.out.own.cell m hmL
          have hf : wr.frozen? ⟨sb, so + m, none⟩ = false := hJ.out.own.kind.free _
          have J1 := Aside.mk (hJ.out.set (d := 0) hmL (dg_zero HZ.out (by omega)).symm hsb HD.out)
          go_wp2_with fail
          go_roundw
          case rel => exact ⟨m, by omega, rfl, J1⟩
          case measure => simp [intOf]
        · obtain rfl : k = 0 := by omega
          go_wp2_with fail
          go_end0
          exact ⟨rfl, hJ.out.dgs, hJ.out.own, hJ.out.fr⟩
end Go.Proofs.YtgilnnipephfjaaGreatDoor
namespace Go.Proofs.YtgilnnipephfjaaGreatDoor
open Go.RowKit

theorem half_two : half 2 = 10 ^ 154 := rfl
theorem dg_hi (X k : Nat) : dg (X / half 2) k = dg X (k + 154) := by
  unfold dg
  rw [half_two, Nat.div_div_eq_div_mul, ← Nat.pow_add, Nat.add_comm]
theorem gdg_lo (X k m : Nat) : X % 10 ^ (k + (m + 1)) / 10 ^ k % 10 = X / 10 ^ k % 10 := by
  rw [Nat.pow_add 10 k, Nat.mod_mul_right_div_self, Nat.pow_succ, Nat.mod_mod_of_dvd _ (Nat.dvd_mul_left 10 _)]
theorem dg_lo (X k : Nat) (h : k < 154) : dg (X % half 2) k = dg X k := by
  obtain ⟨m, hm⟩ : ∃ m, 154 = k + (m + 1) := ⟨153 - k, by omega⟩
  unfold dg
  rw [half_two, hm]
  exact gdg_lo X k m
theorem dgs_join {w : World} {b o h L X : Nat} (hL : L = h + 154) (h1 : Dgs w b o h 0 (X / half 2)) (h2 : Dgs w b (o + h) 154 0 (X % half 2)) : Dgs w b o L 0 X := by
  intro i _ hi
  by_cases k : i < h
  · have := h1 i (Nat.zero_le _) k
    rw [dg_hi, show h - 1 - i + 154 = L - 1 - i from by omega] at this
    exact this
  · have := h2 (i - h) (Nat.zero_le _) (by omega)
    rw [dg_lo _ _ (by omega), show 154 - 1 - (i - h) = L - 1 - i from by omega, Nat.add_assoc, show h + (i - h) = i from by omega] at this
    exact this
theorem OwnB.parts {w : World} {b o h m : Nat} (h1 : OwnB w b o h) (h2 : OwnB w b (o + h) m) : OwnB w b o (h + m) :=
  ⟨fun i hi => by
    by_cases k : i < h
    · exact h1.cell i k
    · have := h2.cell (i - h) (by omega)
      rwa [Nat.add_assoc, show h + (i - h) = i from by omega] at this, h1.kind⟩
theorem bl_big {X n : Nat} (h : B ^ n ≤ X) : ¬ bl X ≤ 64 * n := fun k => by
  have := (lt_two_iff X (64 * n)).2 k
  rw [← Bpow_two] at this
  omega
/-- How many words a slice has. -/
def slen : Value → Nat
  | .slice _ n _ => n
  | _ => 0
/-- The state behind the split. -/
structure CB (w wr : World) (a : Option Addr) (c : Nat) (qa : Option Addr) (qc X h L sb so kb ko : Nat) : Prop where
  q : Nt wr qa qc (X / half 2)
  own : OwnB wr sb so h
  up : Dgs wr sb (so + h) 154 0 (X % half 2)
  ownU : OwnB wr sb (so + h) 154
  stk : Stk wr kb ko 0
  sub : SSub w wr kb ko 0
  nq : ∀ x y, foot qa qc x y → ¬ sfree wr kb ko 0 x y
  fr : Fr (fun x y => foot a c x y ∨ (x = sb ∧ so ≤ y ∧ y < so + L) ∨ sfree w kb ko 0 x y) w wr
  hd : ∀ o, so ≤ o → o < so + L → ¬ foot qa qc sb o
  oq : ∀ x y, x < w.heap.size → foot qa qc x y → foot a c x y

set_option maxRecDepth 1000000 in
set_option maxHeartbeats 16000000 in
theorem convert_big {a0 ba : Option Addr} {c0 X0 sb so L0 sc tb bc kb ko : Nat} {w0 : World} (g : Gl w0) (hX : Nt w0 a0 c0 X0) (h9 : 8 < nlen X0) (hXl : X0 < half 2 * half 2) (hs : OwnB w0 sb so L0) (hL : L0 < 1000000) (hsc : L0 ≤ sc) (h154 : 154 < L0) (hd : ∀ o, so ≤ o → o < so + L0 → ¬ foot a0 c0 sb o)
    (ht : Rw3 w0 tb (.slice ba 8 bc) (.int .i64 512) (.int .i64 154)) (hb : Nt w0 ba bc (half 2)) (hk : Stk w0 kb ko 0) (fa : ∀ x y, foot a0 c0 x y → ¬ sfree w0 kb ko 0 x y) (fb : ∀ x y, foot ba bc x y → ¬ sfree w0 kb ko 0 x y) (fs : ∀ o, ¬ sfree w0 kb ko 0 sb o) (ft : ∀ o, ¬ sfree w0 kb ko 0 tb o) (hst : sb ≠ tb) :
    Calls Tryz.prog 197 #[.slice a0 (nlen X0) c0, .pointer (some ⟨kb, ko, none⟩), .slice (some ⟨sb, so, none⟩) L0 sc, .int .u64 10, .int .i64 19, .int .u64 (p10 19 : Nat), .slice (some ⟨tb, 0, none⟩) 1 1] w0 fun e w' => e = .returned (.tuple #[]) ∧
      Dgs w' sb so L0 0 X0 ∧ OwnB w' sb so L0 ∧ Stk w' kb ko 0 ∧ SSub w0 w' kb ko 0 ∧ Fr (fun x y => foot a0 c0 x y ∨ (x = sb ∧ so ≤ y ∧ y < so + L0) ∨ sfree w0 kb ko 0 x y) w0 w' := by
  have hp19 : p10 19 < B := by rw [p10_19]; decide
  have hp19' : 1 < p10 19 := by rw [p10_19]; decide
  have hG0 := g.size
  have hle := g.leaf
  have hX8 : B ^ 8 ≤ X0 := Bpow_le h9
  have hYX : half 2 ≤ X0 := Nat.le_of_lt (Nat.lt_of_lt_of_le (half_lt (by omega)) hX8)
  have hblX : ¬ bl X0 ≤ 512 := bl_big (n := 8) hX8
  have hlenX : nlen X0 < 20 := by
    have h1 : X0 < B ^ 17 := Nat.lt_of_lt_of_le hXl (Nat.le_trans (Nat.mul_le_mul (Nat.le_of_lt (half_lt (by omega))) (Nat.le_of_lt (half_lt (by omega)))) (by rw [← Nat.pow_add]; exact Nat.pow_le_pow_right B_pos (by omega)))
    have := nlen_le h1
    omega
  have hq8 : nlen (X0 / half 2) ≤ 8 := nlen_le (Nat.lt_trans (Nat.div_lt_of_lt_mul hXl) (half_lt (by omega)))
  have hr8 : nlen (X0 % half 2) ≤ 8 := nlen_le (Nat.lt_trans (Nat.mod_lt _ (Nat.pos_of_ne_zero (half_ne 2))) (half_lt (by omega)))
  have HBL := Lib.hid (bitLen_any hX (by omega))
  have HDV := Lib.hid (divBig_any (za := a0) (zl := nlen X0) (zc := c0) (ua := none) (ul := 0) (uc0 := 0) g hk (by omega) hX.reg hX.len (Reg.nil w0) (Nat.le_refl 0) hX hb (by rw [half_len (by omega)]; omega) (by rw [half_len (by omega)]; omega) hYX (by omega) (fun _ _ _ => foot_none _ _ _) (.inr (fun _ _ k => (foot_none _ _ _ k).elim)) fa (fun _ _ k => (foot_none _ _ _ k).elim) fa fb)
  rw [half_len (by omega)] at HDV
  have t0 := ht.c0
  have t1 := ht.c1
  have t2 := ht.c2
  have HX := Aside.mk hX
  have HS := Aside.mk hs
  have HD0 := Aside.mk hd
  have HK := Aside.mk hk
  have HF := Aside.mk (And.intro fa (And.intro fs ft))
  have HTB := Aside.mk ht
  have HG := Aside.mk g
  obtain ⟨n0, hn0⟩ : ∃ z, nlen X0 = z := ⟨_, rfl⟩
  obtain ⟨nq, hnq⟩ : ∃ z, nlen (X0 / half 2) = z := ⟨_, rfl⟩
  obtain ⟨nr, hnr⟩ : ∃ z, nlen (X0 % half 2) = z := ⟨_, rfl⟩
  obtain ⟨bX, hbX⟩ : ∃ z, bl X0 = z := ⟨_, rfl⟩
  rw [hn0] at h9 hlenX HBL HDV ⊢
  rw [hbX] at HBL hblX
  rw [hnq] at hq8 HDV
  rw [hnr] at hr8 HDV
  have HNQ := Aside.mk hnq
  have HNR := Aside.mk hnr
  have HN0 := Aside.mk hn0
  obtain ⟨h, hh⟩ : ∃ z, L0 = z + 154 := ⟨L0 - 154, by omega⟩
  have hhi : (L0 : Int) - 154 = ((h : Nat) : Int) := by omega
  have HH := Aside.mk hh
  have hhL : h < L0 := by omega
  have hsch : ¬ sc = h := by omega
  have q5 : decide ((bX : Int) ≤ 512) = false := by simp; omega
  have q8 : decide (8 < n0) = true := by simpa using h9
  have q8' : decide (8 < nq) = false := by simp; omega
  have hq := run_tab_neq tb 1 1
  clear hX hs hd hk fa fb fs ft ht hb g hXl hX8 hYX hn0 hnq hnr hbX hh hblX
  go_enter Tryz.func197, Tryz.ntmps197
  go_upto_if 25 with (fail)
  go_cut [0, 2] from 24 to 108 (fun q s wx => ∃ qa qc, q = .slice qa nq qc ∧ s = .slice (some ⟨sb, so, none⟩) h sc ∧ Aside (CB w0 wx a0 c0 qa qc X0 h L0 sb so kb ko))
  case first =>
    go_wp2_with fail
    go_loopw [0, 2, 14, 15] (fun q s r i wr => (q = .slice a0 n0 c0 ∧ s = .slice (some ⟨sb, so, none⟩) L0 sc ∧ r = .slice none 0 0 ∧ i = .int .i64 0 ∧ Aside (wr = w0)) ∨ (∃ qa qc, q = .slice qa nq qc ∧ s = .slice (some ⟨sb, so, none⟩) h sc ∧ i = .int .i64 0 ∧ Aside (CB w0 wr a0 c0 qa qc X0 h L0 sb so kb ko))) (fun q _ _ _ _ => slen q)
    case atStart => exact .inl ⟨rfl, rfl, rfl, rfl, ⟨rfl⟩⟩
    case round =>
      rcases hrel with ⟨rfl, rfl, rfl, rfl, hW⟩ | ⟨qa, qc, rfl, rfl, rfl, hC⟩
      · obtain ⟨hW⟩ := hW
        subst hW
        go_wp2_with fail
        refine HBL.out.mono ?_
        rintro e w' ⟨rfl, rfl⟩
        go_wp2_with fail
        refine wp_loop_once ?_
        go_wp2_with fail
        refine HDV.out.mono ?_
        rintro e w1 ⟨qb, qo, qc, ub, uo, uc, rfl, r1, r2, r3, r4, r5, r6, r7, r8, r9, r10⟩
        have hfar := HTB.out.far HX.out.reg (fun _ => by simp) (fun x e => by cases e) (fun x e => by cases e)
        have nz : ∀ x y, ¬ foot none 0 x y := fun _ _ => foot_none _ _ _
        have k2 : w1.cell? ⟨tb, 2, none⟩ = some (.int .i64 154) := (r5.cell tb 2 HTB.out.blk.lt (by
          rintro (k | k | k)
          · exact hfar 2 (by omega) k
          · exact nz _ _ k
          · exact HF.out.2.2 2 k)).trans HTB.out.c2
        have s1 : OwnB w1 sb so L0 := HS.out.fr r5 (fun i hi k => by
          rcases k with k | k | k
          · exact HD0.out (so + i) (by omega) (by omega) k
          · exact nz _ _ k
          · exact HF.out.2.1 (so + i) k)
        have g1 : Gl w1 := HG.out.fr r5 (fun x y k => by
          rcases k with k | k | k
          · exact HX.out.reg.lo x y k
          · exact (nz _ _ k).elim
          · exact HK.out.free_lo k)
        have hub : w'.heap.size ≤ ub := by
          rcases r7 with ⟨e, _⟩ | ⟨b', o', e, hn'⟩
          · cases e
          · cases e; exact hn'
        have hsbl : sb < w'.heap.size := HS.out.kind.lt
        have hqs : ∀ o, so ≤ o → o < so + L0 → ¬ foot (some ⟨qb, qo, none⟩) qc sb o := fun o o1 o2 k => by
          rcases r6 with ⟨e1, e2⟩ | ⟨b', o', e, hn'⟩
          · rw [e1, e2] at k; exact HD0.out o o1 o2 k
          · cases e; rw [foot_some] at k; omega
        have hfs1 : ∀ o, ¬ sfree w1 kb ko 0 sb o := fun o k => by
          rcases r4 0 sb o (Nat.le_refl _) k with k | k
          · exact HF.out.2.1 o k
          · omega
        have HCE : Hid (∀ d, Calls Tryz.prog 197 #[.slice (some ⟨ub, uo, none⟩) nr uc, .pointer (some ⟨kb, ko, none⟩), .slice (some ⟨sb, so + h, none⟩) (L0 - h) (sc - h), .int .u64 10, .int .i64 19, .int .u64 (p10 19 : Nat), .slice (some ⟨tb, 0, none⟩) 0 1] (w1.drewN d) fun e w2 => e = .returned (.tuple #[]) ∧
            Aside (CB w' w2 a0 c0 (some ⟨qb, qo, none⟩) qc X0 h L0 sb so kb ko)) := Lib.hid (fun d => by
          have hLh : L0 - h = 154 := by have := HH.out; omega
          rw [← HNR.out, hLh]
          have s2 : OwnB (w1.drewN d) sb (so + h) 154 := ⟨fun i hi => by
            have := s1.cell (h + i) (by have := HH.out; omega)
            rwa [← Nat.add_assoc] at this, ⟨s1.kind.1, s1.kind.2⟩⟩
          refine (convert_empty (sc := sc - h) (tb := tb) (tc := 1) (.pointer (some ⟨kb, ko, none⟩)) (g1.drewN d) (r2.drewN d) (by rw [HNR.out]; exact hr8) s2 (by omega) (fun o _ _ k => by rw [foot_some] at k; omega)).mono ?_
          rintro e w2 ⟨rfl, d1, d2, d3⟩
          have f2 : Fr (fun b o => foot (some ⟨ub, uo, none⟩) uc b o ∨ (b = sb ∧ so + h ≤ o ∧ o < so + h + 154)) w1 w2 := ((Fr.refl _ w1).drewN d).trans d3
          have st2 := r3.fr' f2 (fun x y k _ q => by
            rcases k with k | ⟨rfl, k1, k2⟩
            · rw [foot_some] at k
              have := r10 (y - uo) (by omega)
              rw [show uo + (y - uo) = y from by omega, ← k.1] at this
              exact this q
            · exact hfs1 y q)
          refine ⟨rfl, ⟨f2.nt r1 (fun x y k1 k2 => ?_), ?_, d1, d2, st2.1, (r4.trans (SSub.of_iff st2.2) r5.size), ?_, ?_, hqs, ?_⟩⟩
          · rcases k2 with k2 | ⟨rfl, k3, k4⟩
            · exact r8 x y k1 k2
            · exact hqs y (by omega) (by have := HH.out; omega) k1
          · refine OwnB.fr f2 (⟨fun i hi => s1.cell i (by omega), s1.kind⟩ : OwnB w1 sb so h) (fun i hi k => ?_)
            rcases k with k | ⟨_, k3, k4⟩
            · rw [foot_some] at k; omega
            · omega
          · intro x y k1 k2
            rw [foot_some] at k1
            have := r9 (y - qo) (by omega)
            rw [show qo + (y - qo) = y from by omega, ← k1.1] at this
            exact this ((st2.2 0 x y).1 k2)
          · refine (r5.mono (T := fun x y => foot a0 c0 x y ∨ (x = sb ∧ so ≤ y ∧ y < so + L0) ∨ sfree w' kb ko 0 x y) (fun x y _ k => ?_)).trans' f2 (fun _ _ _ k => k) (fun x y hx k => ?_)
            · rcases k with k | k | k
              · exact .inl k
              · exact (nz _ _ k).elim
              · exact .inr (.inr k)
            · rcases k with k | ⟨rfl, k3, k4⟩
              · rw [foot_some] at k; omega
              · exact .inr (.inl ⟨rfl, by omega, by have := HH.out; omega⟩)
          · intro x y hx k
            rcases r6 with ⟨e1, e2⟩ | ⟨b', o', e, hn'⟩
            · rw [e1, e2] at k; exact k
            · cases e; rw [foot_some] at k; omega)
        have j1 : (h : Int) ≤ (L0 : Int) := by omega
        have j2 : (h : Int) ≤ (sc : Int) := by omega
        clear r1 r2 r3 r4 r5 r6 r7 r8 r9 r10 hfar nz s1 g1 hub hqs hfs1 HDV HBL
        go_wp2_with fail
        go_region_with (go_at_call 197; go_must (refine (HCE.out _).mono ?_; rintro e w2 ⟨rfl, hA⟩))
        clear HCE k2
        go_wp2_with fail
        go_roundw
        case rel => exact .inr ⟨_, _, rfl, rfl, rfl, hA⟩
        case measure => simp [slen]; omega
      · have hgl : Gl wr := HG.out.fr hC.out.fr (fun x y k => by
          rcases k with k | ⟨rfl, _⟩ | k
          · exact HX.out.reg.lo x y k
          · exact HS.out.kind.1
          · exact HK.out.free_lo k)
        have hle2 := hgl.leaf
        clear hgl HDV HBL
        go_wp2_with fail
        go_meet
        exact ⟨qa, qc, rfl, rfl, hC⟩
  case rest =>
  obtain ⟨a, c, rfl, rfl, hC⟩ := hcut
  have FIN : Aside (∀ w', Dgs w' sb so h 0 (X0 / half 2) → OwnB w' sb so h → Fr (fun b o => foot a c b o ∨ (b = sb ∧ so ≤ o ∧ o < so + h)) wc w' → Dgs w' sb so L0 0 X0 ∧ OwnB w' sb so L0 ∧ Stk w' kb ko 0 ∧ SSub w0 w' kb ko 0 ∧ Fr (fun x y => foot a0 c0 x y ∨ (x = sb ∧ so ≤ y ∧ y < so + L0) ∨ sfree w0 kb ko 0 x y) w0 w') := ⟨fun w' d1 d2 f => by
    have hLe := HH.out
    have hup : ∀ i, i < 154 → ¬ (foot a c sb (so + h + i) ∨ (sb = sb ∧ so ≤ so + h + i ∧ so + h + i < so + h)) := fun i hi k => by
      rcases k with k | k
      · exact hC.out.hd _ (by omega) (by omega) k
      · omega
    have u1 := hC.out.up.fr f hC.out.own.kind.lt hup
    have u2 := hC.out.ownU.fr f hup
    have st := hC.out.stk.fr' f (fun x y k hx q => by
      rcases k with k | ⟨rfl, _⟩
      · exact hC.out.nq x y k q
      · rcases hC.out.sub 0 x y (Nat.le_refl _) q with q | q
        · exact HF.out.2.1 y q
        · have := HS.out.kind.lt; omega)
    refine ⟨dgs_join hLe d1 u1, by rw [hLe]; exact d2.parts u2, st.1, hC.out.sub.trans (SSub.of_iff st.2) hC.out.fr.size, hC.out.fr.trans' f (fun _ _ _ k => k) (fun x y hx k => ?_)⟩
    rcases k with k | ⟨k1, k2, k3⟩
    · exact .inl (hC.out.oq x y hx k)
    · exact .inr (.inl ⟨k1, k2, by omega⟩)⟩
  obtain ⟨X, hXe⟩ : ∃ z, X0 / half 2 = z := ⟨_, rfl⟩
  have hXn := hC.out.q
  rw [hXe] at FIN HNQ hXn
  have hsb : sb < wc.heap.size := hC.out.own.kind.lt
  have hG : NG ≤ wc.heap.size := Nat.le_trans hG0 hC.out.fr.size
  have hn : nlen X < 800000 := by rw [HNQ.out]; omega
  have I0 : Aside (CW wc wc a c sb so h X 0 (h - 0) a c) := ⟨{
    nt := by rw [Nat.pow_zero, Nat.div_one]; exact hXn
    out := .inl ⟨rfl, rfl⟩
    own := hC.out.own
    dgs := fun i h1 h2 => by omega
    fr := Fr.refl _ _ }⟩
  have HX1 := Aside.mk hXn
  have HD : Aside (∀ o, so ≤ o → o < so + h → ¬ foot a c sb o) := ⟨fun o o1 o2 => hC.out.hd o o1 (by omega)⟩
  have hLh : h < 1000000 := by omega
  clear hXn hXe hC HX HDV HBL HS HD0 HK HF HTB HG HN0 HH q8 q8' q5 hq t0 t1 t2 hle hq8 hr8 h9 hlenX HNR hhi hsch
  go_wp2_with fail
  go_loopw [0, 19] (fun q i wr => ∃ (t : Nat) (aq : Option Addr) (cq n : Nat), i = .int .i64 ((h - t : Nat) : Int) ∧ q = .slice aq n cq ∧ n = nlen (X / 10 ^ t) ∧ Aside (CW wc wr a c sb so h X t (h - t) aq cq)) (fun q _ wr => nval wr q)
  case atStart => exact ⟨0, a, c, _, rfl, rfl, by rw [Nat.pow_zero, Nat.div_one, HNQ.out], I0⟩
  case round =>
    obtain ⟨t, aq, cq, n, rfl, rfl, hn1, hI⟩ := hrel
    by_cases h0 : 0 < n
    · have g0 : decide (0 < (n : Int)) = true := by simpa using h0
      have hq0 : X / 10 ^ t ≠ 0 := fun k => by rw [hn1, k, nlen_zero] at h0; omega
      have hle : X / 10 ^ t ≤ X := Nat.div_le_self _ _
      have hdv := Lib.hid (divW_any (zl := n) (Nat.le_trans hG hI.out.fr.size) hI.out.nt.reg hI.out.nt (by have := nlen_mono hle; omega) hp19 hp19' (.inl ⟨rfl, rfl⟩))
      rw [grp_zero, next_t] at hdv
      have HN := Aside.mk hn1
      have HQ0 := Aside.mk hq0
      rw [← hn1] at hdv
      clear hn1 hq0 hle
      obtain ⟨R, hR⟩ : ∃ R, grp X t 0 = R := ⟨_, rfl⟩
      rw [hR] at hdv
      have HR := Aside.mk hR.symm
      clear hR
      obtain ⟨N2, hN2⟩ : ∃ N2, nlen (X / 10 ^ (t + 19)) = N2 := ⟨_, rfl⟩
      rw [hN2] at hdv
      have HN2 := Aside.mk hN2
      clear hN2
      go_wp2_with fail
      refine hdv.out.mono ?_
      rintro e w1 ⟨a', c', rfl, hnt1, hfr1, hout1⟩
      have J0 : Aside (CW wc w1 a c sb so h X (t + 19) (h - (t + 0)) a' c') := ⟨hI.out.divided HX1.out.reg hsb HD.out hnt1 hfr1 hout1⟩
      clear hnt1 hfr1 hout1 hdv
      go_wp2_with fail
      go_loopw [19, 20, 21] (fun i r j wr => ∃ (k R : Nat), k ≤ 19 ∧ j = .int .i64 k ∧ i = .int .i64 ((h - (t + k) : Nat) : Int) ∧ r = .int .u64 (R : Nat) ∧ Aside (R = grp X t k) ∧ Aside (CW wc wr a c sb so h X (t + 19) (h - (t + k)) a' c')) (fun _ _ j _ => 19 - (intOf j).toNat)
      case atStart => exact ⟨0, R, by omega, rfl, rfl, rfl, HR, J0⟩
      case round =>
        obtain ⟨k, R2, hk, rfl, rfl, rfl, hR2, hJ⟩ := hrel
        by_cases hk19 : k < 19
        · by_cases hm : 0 < h - (t + k)
          · obtain ⟨m, hm1⟩ : ∃ m, h - (t + k) = m + 1 := ⟨h - (t + k) - 1, by omega⟩
            have hm2 : h - (t + (k + 1)) = m := by omega
            have hmL : m < h := by omega
            obtain ⟨u, _, hu⟩ := hJ.out.own.cell m hmL
            have hf : wr.frozen? ⟨sb, so + m, none⟩ = false := hJ.out.own.kind.free _
            have hRd : R2 % 10 = dg X (h - 1 - m) := by rw [hR2.out, grp_dg X t k hk19, show h - 1 - m = t + k from by omega]
            have J1 : Aside (CW wc (wr.setCell ⟨sb, so + m, none⟩ (.int .u8 ((48 + R2 % 10 : Nat) : Int))) a c sb so h X (t + 19) m a' c') :=
              ⟨(hm1 ▸ hJ.out : CW wc wr a c sb so h X (t + 19) (m + 1) a' c').set hmL hRd hsb HD.out⟩
            rw [show ((48 + R2 % 10 : Nat) : Int) = 48 + ((R2 : Int) - (R2 : Int) / 10 * 10) from by omega] at J1
            have hRn : Aside (R2 / 10 = grp X t (k + 1)) := ⟨by rw [hR2.out, grp_next]⟩
            have hRB : R2 < 10000000000000000000 := by have := grp_lt X t k; rw [← hR2.out, p10_19] at this; exact this
            rw [hm1]
            have HM1 := Aside.mk hm1
            have HM2 := Aside.mk hm2
            clear hRd hm1 hm2 hm
            go_wp2_with fail
            go_roundw
            case rel => exact ⟨k + 1, R2 / 10, by omega, by go_num, by rw [HM2.out], rfl, hRn, by rw [HM2.out]; exact J1⟩
            case measure => simp [intOf]; omega
          · have hm0 : h - (t + k) = 0 := by omega
            rw [hm0] at hJ ⊢
            have hm1 : h - (t + 19) = 0 := by omega
            have HM1 := Aside.mk hm1
            clear hm hm0 hm1
            go_wp2_with fail
            go_roundw
            case rel => exact ⟨t + 19, a', c', N2, by rw [HM1.out]; rfl, rfl, HN2.out.symm, by rw [HM1.out]; exact hJ⟩
            case measure => exact CW.less hI hJ HN HN2 HQ0
        · obtain rfl : k = 19 := by omega
          go_wp2_with fail
          go_roundw
          case rel => exact ⟨t + 19, a', c', N2, rfl, rfl, HN2.out.symm, hJ⟩
          case measure => exact CW.less hI hJ HN HN2 HQ0
    · obtain rfl : n = 0 := by omega
      have hz : X / 10 ^ t = 0 := nlen_eq_zero.1 hn1.symm
      have HZ := Aside.mk hz
      clear hz hn1
      go_wp2_with fail
      go_loopw [19] (fun i wr => ∃ (k : Nat), k ≤ h - t ∧ i = .int .i64 k ∧ Aside (CW wc wr a c sb so h X t k aq cq)) (fun i _ => (intOf i).toNat)
      case atStart => exact ⟨h - t, by omega, rfl, hI⟩
      case round =>
        obtain ⟨k, hk, rfl, hJ⟩ := hrel
        by_cases hk0 : 0 < k
        · obtain ⟨m, rfl⟩ : ∃ m, k = m + 1 := ⟨k - 1, by omega⟩
          have hmL : m < h := by omega
          obtain ⟨u, _, hu⟩ := hJ.out.own.cell m hmL
          have hf : wr.frozen? ⟨sb, so + m, none⟩ = false := hJ.out.own.kind.free _
          have J1 := Aside.mk (hJ.out.set (d := 0) hmL (dg_zero HZ.out (by omega)).symm hsb HD.out)
          go_wp2_with fail
          go_roundw
          case rel => exact ⟨m, by omega, rfl, J1⟩
          case measure => simp [intOf]
        · obtain rfl : k = 0 := by omega
          go_wp2_with fail
          go_end0
          exact ⟨rfl, FIN.out _ hJ.out.dgs hJ.out.own hJ.out.fr⟩
end Go.Proofs.YtgilnnipephfjaaGreatDoor
