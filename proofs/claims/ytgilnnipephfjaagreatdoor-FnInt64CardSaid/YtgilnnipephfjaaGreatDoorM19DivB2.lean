/- Contract of natdiv.go: divBasic. -/
import Derived.Test.YtgilnnipephfjaaGreatDoorM18DivB
import Derived.Deep.RegionHeld3
set_option linter.unusedSimpArgs false
set_option linter.unusedVariables false
namespace Go.Proofs.YtgilnnipephfjaaGreatDoor
open Go.RowKit

theorem dis_of {b o n b' o' n' : Nat} (hn : 0 < n) (hn' : 0 < n') (h : ∀ i, i < n → ∀ j, j < n' → b = b' → o + i ≠ o' + j) : dis b o n b' o' n' := by
  unfold dis
  by_cases hb : b = b'
  · right
    by_cases ho : o ≤ o'
    · left
      apply Nat.le_of_not_lt
      intro k
      exact h (o' - o) (by omega) 0 (by omega) hb (by omega)
    · right
      apply Nat.le_of_not_lt
      intro k
      exact h 0 (by omega) (o - o') (by omega) hb (by omega)
  · exact .inl hb
theorem DB.wc {w1 wr : World} {qb qo ub uo vb vo tb tq n m N V k R : Nat} (h : DB w1 wr qb qo ub uo vb vo tb tq n m N V k R) (x y : Nat) (hd : DT qb qo ub uo tb tq n m x y) : WC wr x y := by
  rcases hd with k | k | k
  · exact h.q.wc k
  · exact h.uown.wc k
  · exact h.t.wc k
theorem DB.top {w1 wr : World} {qb qo ub uo vb vo tb tq n m N V k R j : Nat} (h : DB w1 wr qb qo ub uo vb vo tb tq n m N V k R) (hj : m ≤ j) : DB w1 wr qb qo ub uo vb vo tb tq n m N V j R :=
  ⟨h.u, h.ublk, h.q, fun i h1 h2 => by omega, h.v, h.t, h.fr⟩
/-- The digit that is put where the quotient ends. -/
theorem top_digit {N V m : Nat} (h : N < V * B ^ m) : wd (N / V) m = 0 := wd_ge _ (Nat.div_lt_of_lt_mul h) (Nat.le_refl _)

set_option maxRecDepth 1000000 in
set_option maxHeartbeats 40000000 in
theorem divBasic_any {qb qo qc ub uo uc vb vo vc n m N V sb so s : Nat} {w : World} (hG : NG ≤ w.heap.size) (hs : Stk w sb so s) (hs2 : s ≤ 1000) (hn2 : 2 ≤ n) (hn : n < 60) (hm0 : 0 < m) (hm : m < 100000) (huc : n + m ≤ uc)
    (hu : Words w ub uo (n + m) N) (hub : Blk w ub) (hv : Words w vb vo n V) (hq : Own w qb qo m) (htop : B ≤ 2 * wd V (n - 1)) (hNV : N < V * B ^ m)
    (dqu : dis qb qo m ub uo (n + m)) (dqv : dis qb qo m vb vo n) (duv : dis ub uo (n + m) vb vo n)
    (fq : ∀ i, i < m → ¬ sfree w sb so s qb (qo + i)) (fu : ∀ i, i < n + m → ¬ sfree w sb so s ub (uo + i)) (fv : ∀ i, i < n → ¬ sfree w sb so s vb (vo + i)) :
    Calls Tryz.prog 257 #[.slice (some ⟨qb, qo, none⟩) m qc, .pointer (some ⟨sb, so, none⟩), .slice (some ⟨ub, uo, none⟩) (n + m) uc, .slice (some ⟨vb, vo, none⟩) n vc] w fun e w' =>
      e = .returned (.tuple #[]) ∧ Words w' qb qo m (N / V) ∧ Words w' ub uo (n + m) (N % V) ∧ Stk w' sb so s ∧ SSub w w' sb so s ∧
      Fr (fun x y => (x = qb ∧ qo ≤ y ∧ y < qo + m) ∨ (x = ub ∧ uo ≤ y ∧ y < uo + (n + m)) ∨ sfree w sb so s x y) w w' := by
  have hV0 : 0 < V := by
    apply Nat.pos_of_ne_zero; intro h; subst h; rw [Nat.zero_mul] at hNV; omega
  have i0 : (n : Int) + (m : Int) - (n : Int) = m := by omega
  have hVl := hv.lt
  have HS := Lib.hid (save_any hs (by omega))
  have HN := Lib.hid (nat_any (m := n + 1) hG hs (by omega) (by omega) (by omega))
  rw [show ((n + 1 : Nat) : Int) = (n : Int) + 1 from rfl] at HN
  obtain ⟨v1, hv1⟩ : ∃ v, wd V (n - 1) = v := ⟨_, rfl⟩
  have hv1l : v1 < B := by rw [← hv1]; exact wd_lt _ _
  have hv10 : v1 ≠ 0 := by rw [hv1] at htop; have := B_pos; omega
  have i1 : ((n : Int) - 1).toNat = n - 1 := by omega
  have HSK := Aside.mk hs
  have HFR := Aside.mk (And.intro fq (And.intro fu fv))
  have HDS := Aside.mk (And.intro dqu (And.intro dqv duv))
  have HQW := Aside.mk hq
  have HU := Aside.mk (And.intro hu hub)
  have HVW := Aside.mk hv
  have HNV := Aside.mk hNV
  have HTOP := Aside.mk htop
  have HV1 := Aside.mk hv1
  have HV := Aside.mk hVl
  clear hs fq fu fv dqu dqv duv hq hu hub hv hNV htop hv1 hVl
  go_enter_defers Tryz.func257, Tryz.ntmps257
  go_wp2_with fail
  refine HS.out.mono ?_
  rintro e w0 ⟨rfl, rfl⟩
  go_wp2_with fail
  refine HN.out.mono ?_
  rintro e w' ⟨tb, tq, tc, s1, rfl, htc, hno⟩
  have HNO := Aside.mk hno
  have st : DS qb qo ub uo vb vo tb tq n m := by
    have key : ∀ b o l, 0 < l → (∀ i, i < l → ¬ sfree w0 sb so s b (o + i)) → b < w0.heap.size → dis b o l tb tq (n + 1) := fun b o l hl hf hlt => dis_of hl (by omega) fun i hi j hj e1 e2 => by
      rcases hno.src j hj with k | k
      · exact hf i hi (by rw [e1, e2]; exact k)
      · omega
    exact ⟨HDS.out.1, HDS.out.2.1, key _ _ _ hm0 HFR.out.1 HQW.out.kind.lt, HDS.out.2.2, key _ _ _ (by omega) HFR.out.2.1 HU.out.2.lt, key _ _ _ (by omega) HFR.out.2.2 (World.block_lt_of_cell? w0 _ (HVW.out.cell 0 (by omega)))⟩
  have hD : DB w' w' qb qo ub uo vb vo tb tq n m N V (m + 1) (rm N V (m + 1)) := by
    have h1 : N < V * B ^ (m + 1) := Nat.lt_of_lt_of_le HNV.out (Nat.mul_le_mul_left _ (Nat.pow_le_pow_right B_pos (by omega)))
    rw [rm_top h1]
    exact ⟨hno.fr.words HU.out.1 HFR.out.2.1, hno.fr.blk HU.out.2, hno.fr.own HQW.out HFR.out.1, fun i h1 h2 => by omega, hno.fr.words HVW.out HFR.out.2.2, hno.own, Fr.refl _ _⟩
  have hv1c : w'.cell? ⟨vb, vo + (n - 1), none⟩ = some (.int .u64 (v1 : Nat)) := by rw [← HV1.out]; exact hD.v.cell (n - 1) (by omega)
  have HR := Lib.hid (recip_any v1 w' hv1l hv10)
  have HDB := Aside.mk hD
  have HST := Aside.mk st
  clear hD st hno HS HN
  go_wp2_with fail
  refine HR.out.mono ?_
  rintro e w2 ⟨rfl, d0, rfl⟩
  go_wp2_with fail
  clear HR hv1c
  go_loopw [13, 14] (fun u i wr => ∃ (k x : Nat), k ≤ m + 1 ∧ i = .int .i64 ((k : Int) - 1) ∧ u = .int .u64 (x : Nat) ∧ Aside (x = wd (rm N V k) (n + k - 1)) ∧ Aside (DB w' wr qb qo ub uo vb vo tb tq n m N V k (rm N V k))) (fun _ i _ => (intOf i + 1).toNat)
  case atStart =>
    refine ⟨m + 1, 0, by omega, by simp, rfl, ⟨?_⟩, ⟨HDB.out.drewN d0⟩⟩
    have h1 : N < V * B ^ (m + 1) := Nat.lt_of_lt_of_le HNV.out (Nat.mul_le_mul_left _ (Nat.pow_le_pow_right B_pos (by omega)))
    rw [rm_top h1, wd_ge N (k := n + m) _ (by omega)]
    rw [Nat.pow_add]
    exact Nat.lt_of_lt_of_le HNV.out (Nat.mul_le_mul_right _ (Nat.le_of_lt HV.out))
  case round =>
    obtain ⟨k, x, hk, rfl, rfl, hx, hI⟩ := hrel
    by_cases h0 : 0 < k
    · obtain ⟨j, rfl⟩ : ∃ j, k = j + 1 := ⟨k - 1, by omega⟩
      obtain ⟨R, hR⟩ : ∃ R, rm N V (j + 1) = R := ⟨_, rfl⟩
      rw [hR] at hx hI
      have hT : R / B ^ j < V * B := by rw [← hR]; exact rm_win hV0
      have HRM := Aside.mk hR
      obtain ⟨t1, ht1⟩ : ∃ t, wd R (j + n - 1) = t := ⟨_, rfl⟩
      obtain ⟨t0, ht0⟩ : ∃ t, wd R (j + n - 2) = t := ⟨_, rfl⟩
      obtain ⟨v0, hv0⟩ : ∃ t, wd V (n - 2) = t := ⟨_, rfl⟩
      have ht1l : t1 < B := by rw [← ht1]; exact wd_lt _ _
      have ht0l : t0 < B := by rw [← ht0]; exact wd_lt _ _
      have hv0l : v0 < B := by rw [← hv0]; exact wd_lt _ _
      have hxl : x < B := by rw [hx.out]; exact wd_lt _ _
      have cu1 : wr.cell? ⟨ub, uo + (j + n - 1), none⟩ = some (.int .u64 (t1 : Nat)) := by rw [← ht1]; exact hI.out.u.cell _ (by omega)
      have cu2 : wr.cell? ⟨ub, uo + (j + n - 2), none⟩ = some (.int .u64 (t0 : Nat)) := by rw [← ht0]; exact hI.out.u.cell _ (by omega)
      have cv2 : wr.cell? ⟨vb, vo + (n - 2), none⟩ = some (.int .u64 (v0 : Nat)) := by rw [← hv0]; exact hI.out.v.cell _ (by omega)
      have hG : x ≤ v1 ∧ R / B ^ j / V ≤ guess x t1 t0 v1 v0 ∧ guess x t1 t0 v1 v0 ≤ R / B ^ j / V + 1 ∧ guess x t1 t0 v1 v0 < B := by
        have hp : n - 2 + 2 = n := by omega
        have hp1 : n - 2 + 1 = n - 1 := by omega
        have g := guess_ok (R := R) (V := V) (j := j) (p := n - 2) (by rw [hp]; exact HV.out) hT (by rw [hp1, HV1.out]; have := HTOP.out; rwa [HV1.out] at this)
        rw [hp, hp1, hv0, HV1.out, show j + (n - 1) = j + n - 1 from by omega, show j + (n - 2) = j + n - 2 from by omega, ht1, ht0, show j + n = n + (j + 1) - 1 from by omega, ← hx.out] at g
        exact g
      obtain ⟨Q, hQ⟩ : ∃ Q, guess x t1 t0 v1 v0 = Q := ⟨_, rfl⟩
      rw [hQ] at hG
      have HQ := Lib.hid hQ
      have HG := Aside.mk hG
      have hxv := hG.1
      have hQl := hG.2.2.2
      clear hQ hG hR hT ht1 ht0 hv0 h0
      have j0 : ((j + 1 : Nat) : Int) - 1 = j := by omega
      rw [j0]
      clear j0
      have j1 : ((j : Int) + (n : Int) - 1).toNat = j + n - 1 := by omega
      have j2 : ((j : Int) + (n : Int) - 2).toNat = j + n - 2 := by omega
      have j3 : ((n : Int) - 2).toNat = n - 2 := by omega
      go_upto_if 51 with (fail)
      go_cut [15, 16, 17, 18, 19, 20] from 45 to 104 (fun q _ _ _ _ _ wx => q = .int .u64 (Q : Nat) ∧ wx = wr)
      case first =>
        by_cases ht : x = v1
        · have e1 : ((x : Int) != v1) = false := by simp [ht]
          have hq : Q = B - 1 := by rw [← HQ.out]; unfold guess; rw [if_pos ht]
          have HF := Aside.mk hq
          clear ht hq hxv
          go_wp2_with fail
          go_meet
          exact ⟨by rw [HF.out]; rfl, rfl⟩
        · have e1 : ((x : Int) != v1) = true := by simp; omega
          have hq : Q = ((x * B + t1) * B + t0) / (v1 * B + v0) := by rw [← HQ.out]; unfold guess; rw [if_neg ht]
          have hlt : x < v1 := by omega
          have HF := Lib.hid hq
          clear ht hq hxv
          obtain ⟨U, hU⟩ : ∃ U, x * B + t1 = U := ⟨_, rfl⟩
          have hUV : U < v1 * B + v0 := by
            have := Nat.mul_le_mul_right B (show x + 1 ≤ v1 from hlt)
            rw [Nat.succ_mul] at this
            omega
          have T0 := Trial.start (b := B) (v1 := v1) (v0 := v0) (U := U) (u0 := t0) (by have := HTOP.out; rwa [HV1.out] at this) hv1l hv0l hUV ht0l
          have hdiv := Lib.hid (divWW_any x t1 v1 wr hv1l hlt ht1l)
          obtain ⟨a0, ha0⟩ : ∃ a, quo2 x t1 v1 = a := ⟨_, rfl⟩
          obtain ⟨c0, hc0⟩ : ∃ a, rem2 x t1 v1 = a := ⟨_, rfl⟩
          have ha0' : U / v1 = a0 := by rw [← hU]; exact ha0
          have hc0' : U % v1 = c0 := by rw [← hU]; exact hc0
          rw [ha0', hc0'] at T0
          have hc0l : c0 < B := by rw [← hc0']; exact Nat.lt_trans (Nat.mod_lt _ (by omega)) hv1l
          have ha0l : a0 < B := by
            rw [← ha0']; apply Nat.div_lt_of_lt_mul
            rw [← hU]
            have := Nat.mul_le_mul_right B (show x + 1 ≤ v1 from hlt)
            rw [Nat.succ_mul] at this
            omega
          rw [ha0, hc0] at hdiv
          rw [hU] at HF
          have HUV := Aside.mk hUV
          have TT0 := Aside.mk T0
          have hm := Lib.hid (mulWW_any a0 v0 wr ha0l hv0l)
          clear ha0 hc0 ha0' hc0' hU hUV T0
          go_wp2_with fail
          refine hdiv.out.mono ?_
          rintro e w2 ⟨rfl, rfl⟩
          go_wp2_with fail
          refine hm.out.mono ?_
          rintro e w3 ⟨rfl, rfl⟩
          clear hdiv hm
          go_wp2_with fail
          go_loop [15, 16, 18, 19] (fun q r h l => ∃ a c : Nat, q = .int .u64 a ∧ r = .int .u64 c ∧ h = .int .u64 (prodHi a v0 : Nat) ∧ l = .int .u64 (prodLo a v0 : Nat) ∧ a < B ∧ c < B ∧ Aside (Trial B v1 v0 U t0 a c)) (fun q _ _ _ => (intOf q).toNat)
          case atStart => exact ⟨a0, c0, rfl, rfl, rfl, rfl, ha0l, hc0l, TT0⟩
          case round =>
            obtain ⟨a, c, rfl, rfl, rfl, rfl, hal, hcl, hTr⟩ := hrel
            have hgt := greaterThan_any (prodHi a v0) (prodLo a v0) c t0 w3 (Nat.mod_lt _ B_pos) ht0l
            rw [prod_split] at hgt
            have hVpos : 0 < v1 * B + v0 := by have := HUV.out; omega
            have HGT := Lib.hid hgt
            clear hgt
            by_cases ht : B * c + t0 < a * v0
            · have hdt : decide (c * B + t0 < a * v0) = true := by rw [Nat.mul_comm c B]; simpa using ht
              rw [hdt] at HGT
              obtain ⟨ha, hDn⟩ := hTr.out.down HUV.out ht0l (.inr ht)
              have hle := hTr.out.le
              obtain ⟨b, rfl⟩ : ∃ b, a = b + 1 := ⟨a - 1, by omega⟩
              rw [Nat.add_sub_cancel] at hDn
              have hpd := prod_down ha hv0l
              rw [Nat.add_sub_cancel] at hpd
              have HDN := Aside.mk hDn
              have hl1 : prodLo (b + 1) v0 < B := Nat.mod_lt _ B_pos
              have hh1 : prodHi (b + 1) v0 < B := Nat.div_lt_of_lt_mul (Nat.mul_lt_mul'' hal hv0l)
              obtain ⟨ph, hph⟩ : ∃ z, prodHi (b + 1) v0 = z := ⟨_, rfl⟩
              obtain ⟨pl, hpl⟩ : ∃ z, prodLo (b + 1) v0 = z := ⟨_, rfl⟩
              rw [hph, hpl] at hpd HGT ⊢
              have hwb : IntKind.u64.wrap (b : Int) = b := wrapU (by omega)
              rw [hpl] at hl1
              rw [hph] at hh1
              clear hph hpl ht hdt hDn hTr
              by_cases hov : B ≤ c + v1
              · have hw : IntKind.u64.wrap ((c : Int) + (v1 : Int)) = ((c + v1 - B : Nat) : Int) := by
                  rw [IntKind.wrap_u64]; have hB : (B : Int) = 18446744073709551616 := rfl; omega
                obtain ⟨c2, hc2⟩ : ∃ z, c + v1 - B = z := ⟨_, rfl⟩
                rw [hc2] at hw
                have hlt2 : decide (c2 < v1) = true := by simp; omega
                have hfin : b = Q := by rw [HF.out]; exact HDN.out.leave hVpos hv0l (by omega) hov
                have HFIN := Aside.mk hfin
                clear hfin hov hc2 hVpos hpd
                go_wp2_with fail
                refine HGT.out.mono ?_
                rintro e w4 ⟨rfl, rfl⟩
                go_wp2_with fail
                go_meet
                exact ⟨by rw [HFIN.out], rfl⟩
              · have hw : IntKind.u64.wrap ((c : Int) + (v1 : Int)) = ((c + v1 : Nat) : Int) := by
                  rw [IntKind.wrap_u64]; have hB : (B : Int) = 18446744073709551616 := rfl; omega
                obtain ⟨c2, hc2⟩ : ∃ z, c + v1 = z := ⟨_, rfl⟩
                rw [hc2] at hw HDN
                have hlt2 : decide (c2 < v1) = false := by simp; omega
                have hc2l : c2 < B := by omega
                clear hov hc2 hVpos
                by_cases hbr : pl < v0
                · obtain ⟨p1, p2, p3⟩ := hpd.1 hbr
                  have hbr' : decide (pl < v0) = true := by simpa using hbr
                  have hw2 : IntKind.u64.wrap ((pl : Int) - (v0 : Int)) = ((pl + B - v0 : Nat) : Int) := by
                    rw [IntKind.wrap_u64]; have hB : (B : Int) = 18446744073709551616 := rfl; omega
                  have hw3 : IntKind.u64.wrap ((ph : Int) - 1) = ((ph - 1 : Nat) : Int) := by
                    rw [IntKind.wrap_u64]; have hB : (B : Int) = 18446744073709551616 := rfl; omega
                  rw [← p3] at hw2
                  rw [← p1] at hw3
                  clear hpd hbr p1 p2 p3
                  go_wp2_with fail
                  refine HGT.out.mono ?_
                  rintro e w4 ⟨rfl, rfl⟩
                  go_wp2_with fail
                  go_round
                  case rel => exact ⟨b, c2, rfl, rfl, rfl, rfl, by omega, hc2l, HDN⟩
                  case measure => simp [intOf]
                · obtain ⟨p1, p3⟩ := hpd.2 hbr
                  have hbr' : decide (pl < v0) = false := by simp; omega
                  have hw2 : IntKind.u64.wrap ((pl : Int) - (v0 : Int)) = ((pl - v0 : Nat) : Int) := by
                    rw [IntKind.wrap_u64]; have hB : (B : Int) = 18446744073709551616 := rfl; omega
                  rw [← p3] at hw2
                  have P1 := Aside.mk p1
                  clear hpd hbr p1 p3
                  go_wp2_with fail
                  refine HGT.out.mono ?_
                  rintro e w4 ⟨rfl, rfl⟩
                  go_wp2_with fail
                  go_round
                  case rel => exact ⟨b, c2, rfl, rfl, by rw [P1.out], rfl, by omega, hc2l, HDN⟩
                  case measure => simp [intOf]
            · have hdt : decide (c * B + t0 < a * v0) = false := by rw [Nat.mul_comm c B]; simpa using ht
              rw [hdt] at HGT
              have hfin : a = Q := by rw [HF.out]; exact hTr.out.exit hVpos (by omega)
              have HFIN := Aside.mk hfin
              clear hfin ht hdt hVpos
              go_wp2_with fail
              refine HGT.out.mono ?_
              rintro e w4 ⟨rfl, rfl⟩
              go_wp2_with fail
              go_meet
              exact ⟨by rw [HFIN.out], rfl⟩
      case rest =>
        obtain ⟨rfl, hwx⟩ := hcut
        rw [hwx]
        clear hwx cu1 cu2 cv2 ht1l ht0l hv0l hxl hxv HQ
        have hMV := Lib.hid (mulAddVWW_any tb tq tc vb vo vc n V Q 0 wr (by omega) hI.out.v (hI.out.t.le (by omega)) (by have := HST.out.vt; unfold dis at this; omega) hQl B_pos)
        go_wp2_with fail
        refine hMV.out.mono ?_
        rintro e w2 ⟨Z1, c1, rfl, hw2, hZ1, hc1, hE1⟩
        have hown2 : Own w2 tb tq (n + 1) := by rw [hw2]; exact hI.out.t.put _ _ _ _
        obtain ⟨u1, _, hu1⟩ := hown2.cell n (by omega)
        have hf1 := hown2.free n (by omega)
        have hw3' : w2.setCell ⟨tb, tq + n, none⟩ (.int .u64 (c1 : Nat)) = putW wr tb tq (n + 1) (V * Q) := by
          rw [hw2, putW_snoc _ _ _ _ _ _ hZ1 hc1, hE1]; rfl
        have hVQ : V * Q < B ^ (n + 1) := by rw [← Nat.add_zero (V * Q), ← hE1]; exact snoc_lt hZ1 hc1
        have hc1e : c1 = wd (V * Q) n := by
          rw [← Nat.add_zero (V * Q), ← hE1, wd_hi _ _ hZ1 hc1]
        have HW3 := Aside.mk hw3'
        have HVQ := Aside.mk hVQ
        have HC1 := Aside.mk hc1e
        clear hw2 hw3' hown2 hE1 hc1e hMV hVQ
        go_upto_region 25 with (fail)
        rw [HW3.out]
        have D3 := Aside.mk (hI.out.putT HST.out (n + 1) (V * Q) (Nat.le_refl _))
        have T3 := Aside.mk (Words_putW wr tb tq (n + 1) (V * Q) HVQ.out hI.out.t)
        obtain ⟨w3, hw3⟩ : ∃ x, putW wr tb tq (n + 1) (V * Q) = x := ⟨_, rfl⟩
        rw [hw3] at D3 T3 ⊢
        clear hw3 hu1 hf1 HW3 hI
        have hc3 : w3.cell? ⟨tb, tq + n, none⟩ = some (.int .u64 (c1 : Nat)) := by rw [HC1.out]; exact T3.out.cell n (by omega)
        obtain ⟨h, hh⟩ : ∃ h, (if j = m then n else n + 1) = h := ⟨_, rfl⟩
        have hRl : R < V * B ^ (j + 1) := by rw [← HRM.out]; exact rm_lt hV0
        have hRl2 : R < B ^ (n + (j + 1)) := by
          rw [Nat.pow_add]; exact Nat.lt_of_lt_of_le hRl (Nat.mul_le_mul_right _ (Nat.le_of_lt HV.out))
        have hdig : R / B ^ j / V = wd (N / V) j := by rw [← HRM.out]; exact rm_dig _ _ _
        have hcz : j = m → c1 = 0 := fun e => by
          have h1 : R / B ^ j / V = 0 := by rw [hdig, e]; exact top_digit HNV.out
          have h2 : Q ≤ 1 := by have := HG.out.2.2.1; omega
          rw [HC1.out]
          apply wd_ge (k := n) _ _ (Nat.le_refl _)
          exact Nat.lt_of_le_of_lt (by have := Nat.mul_le_mul_left V h2; omega) HV.out
        have hjh : j + h ≤ n + m := by rw [← hh]; split <;> omega
        have hRh : R < B ^ (j + h) := by
          by_cases e : j = m
          · rw [← hh, if_pos e, e, Nat.add_comm]; have := D3.out.u.lt; exact this
          · rw [← hh, if_neg e]; rwa [show j + (n + 1) = n + (j + 1) from by omega]
        have hVQh : V * Q < B ^ h := by
          by_cases e : j = m
          · have e2 := hcz e
            rw [HC1.out] at e2
            rw [← hh, if_pos e]
            exact (top_zero HVQ.out).1 e2
          · rw [← hh, if_neg e]; exact HVQ.out
        have hhn : h = n ∨ h = n + 1 := by rw [← hh]; split <;> simp
        have HH := Aside.mk hh
        have HRH := Aside.mk hRh
        have HVQH := Aside.mk hVQh
        have HDIG := Aside.mk hdig
        have HCZ := Aside.mk hcz
        clear hh hRl hRl2 hdig hcz hRh hVQh
        go_upto_region 26 with (fail)
        obtain ⟨bj, hbj⟩ : ∃ b, decide (j = m) = b := ⟨_, rfl⟩
        go_cut [128] from 105 to 127 (fun q wx => q = .bool bj ∧ wx = w3)
        case first =>
          by_cases e : j = m
          · have z0 : ((c1 : Int) == 0) = true := by rw [HCZ.out e]; rfl
            have z1 : decide ((n : Int) + (m : Int) < (j : Int) + ((n : Int) + 1)) = true := by simp; omega
            have hbe : bj = true := by rw [← hbj]; simpa using e
            have HBE := Aside.mk hbe
            clear e hbe hhn hbj
            go_wp2_with fail
            go_meet
            exact ⟨by rw [HBE.out], rfl⟩
          · have z1 : decide ((n : Int) + (m : Int) < (j : Int) + ((n : Int) + 1)) = false := by simp; omega
            have hbe : bj = false := by rw [← hbj]; simpa using e
            have HBE := Aside.mk hbe
            clear e hbe hhn hbj
            go_wp2_with fail
            go_meet
            exact ⟨by rw [HBE.out], rfl⟩
        case rest =>
        obtain ⟨rfl, hwx⟩ := hcut
        rw [hwx]
        clear hwx
        have HBJ := Aside.mk hbj
        clear hbj
        go_upto_if 128 with (fail)
        go_cut [21] from 128 to 130 (fun q wx => q = .int .i64 (h : Nat) ∧ wx = w3)
        case first =>
          cases bj
          · have hhe : h = n + 1 := by rw [← HH.out, if_neg (of_decide_eq_false HBJ.out)]
            have HHE := Aside.mk hhe
            clear hhe hhn
            go_wp2_with fail
            go_meet
            exact ⟨by rw [HHE.out]; rfl, rfl⟩
          · have hhe : h = n := by rw [← HH.out, if_pos (of_decide_eq_true HBJ.out)]
            have HHE := Aside.mk hhe
            clear hhe hhn
            go_wp2_with fail
            go_meet
            exact ⟨by rw [HHE.out], rfl⟩
        case rest =>
          obtain ⟨rfl, hwx⟩ := hcut
          rw [hwx]
          clear hwx hc3
          have hW1 : Words w3 ub (uo + j) h (R / B ^ j) := D3.out.win j h hjh (by apply Nat.div_lt_of_lt_mul; rw [← Nat.pow_add]; exact HRH.out)
          have hW2 : Words w3 tb tq h (V * Q) := ⟨HVQH.out, fun i hi => T3.out.cell i (by omega)⟩
          have hO1 : Own w3 ub (uo + j) h := D3.out.uown.sub j h hjh
          have hd1 : ub ≠ tb ∨ uo + j ≤ tq ∨ tq + h ≤ uo + j := by have := HST.out.ut; unfold dis at this; omega
          have HC : Hid (∀ d0, Calls Tryz.prog 243 #[.slice (some ⟨ub, uo + j, none⟩) h (uc - j), .slice (some ⟨ub, uo + j, none⟩) h (uc - j), .slice (some ⟨tb, tq, none⟩) h tc] (w3.drewN d0) fun e w4 =>
              ∃ (c : Nat), e = .returned (.int .u64 c) ∧ c ≤ 1 ∧ Aside (∃ Z, Z < B ^ h ∧ Z + Q * V = R / B ^ j + B ^ h * c ∧ DB w' w4 qb qo ub uo vb vo tb tq n m N V (j + 1) (putV R j h Z))) := Lib.hid (fun d0 => by
            refine (subVV_any ub (uo + j) (uc - j) ub (uo + j) (uc - j) tb tq tc h (R / B ^ j) (V * Q) (w3.drewN d0) (by omega) (hW1.drewN d0) (hW2.drewN d0) (hO1.drewN d0) (by omega) hd1).mono ?_
            rintro e w4 ⟨Z, c, d, rfl, rfl, k1, k2, k3⟩
            refine ⟨c, rfl, k2, ⟨Z, k1, by rw [Nat.mul_comm Q V]; exact k3, ?_⟩⟩
            exact ((D3.out.drewN d0).putU HST.out j h Z hjh k1).drewN d)
          have hucj : ¬ uc = j := by omega
          have g1 : IntKind.i64.wrap ((j : Int) + h) = (j : Int) + h := IntWalk.i64_in _ (by omega)
          have g2 : 0 ≤ (j : Int) + h := by omega
          have g3 : ((j : Int) + h).toNat = j + h := by omega
          have g4 : (j : Int) + h ≤ uc := by omega
          have g5 : (j : Int) ≤ (j : Int) + h := by omega
          have g6 : (h : Int) ≤ tc := by omega
          clear hW1 hW2 hO1 hd1
          go_wp2_with fail
          refine wp_region_noPanic ?_
          go_region_with (go_at_call 243; go_must (refine (HC.out _).mono ?_; rintro e w4 ⟨c, rfl, hc, hA⟩))
          refine NoPanic.normal ?_
          clear HC g6
          go_upto_if 148 with (fail)
          go_cut [15, 22, 23] from 131 to 176 (fun q _ _ wx => q = .int .u64 (wd (N / V) j : Nat) ∧ Aside (DB w' wx qb qo ub uo vb vo tb tq n m N V (j + 1) (rm N V j)))
          case first =>
            obtain ⟨⟨Z, hZ, hE, hD4⟩⟩ := hA
            have hsub := kn_sub (p := B ^ h) ⟨HG.out.2.1, HG.out.2.2.1⟩ hV0 hZ hc hE
            have hRV : R / B ^ j % V < V := Nat.mod_lt _ hV0
            have hnx : R % B ^ j + B ^ j * (R / B ^ j % V) = rm N V j := by rw [← HRM.out]; exact rm_next _ _ _
            rcases hsub with ⟨rfl, hQ, hZ2⟩ | ⟨rfl, hQ, hZ2⟩
            · have hval : Aside (DB w' w4 qb qo ub uo vb vo tb tq n m N V (j + 1) (rm N V j)) := ⟨by
                rw [putV_last HRH.out, hZ2, hnx] at hD4; exact hD4⟩
              have hdg : Aside (Q = wd (N / V) j) := ⟨by rw [hQ]; exact HDIG.out⟩
              clear hQ hZ2 hD4 hE hZ hnx hRV
              go_wp2_with fail
              go_meet
              exact ⟨by rw [hdg.out], hval⟩
            · have hdg : Aside (Q - 1 = wd (N / V) j) := ⟨by rw [hQ, Nat.add_sub_cancel]; exact HDIG.out⟩
              obtain ⟨Q1, hQ1⟩ : ∃ z, Q = z + 1 := ⟨R / B ^ j / V, hQ⟩
              rw [hQ1, Nat.add_sub_cancel] at hdg
              have hQ1w : IntKind.u64.wrap (Q1 : Int) = Q1 := wrapU (by omega)
              rw [hQ1]
              have hQe := Aside.mk hQ
              clear hQ hQ1 hE
              -- the window's low words
              have hwin : Words w4 ub (uo + j) n (Z % B ^ n) := by
                have := hD4.u.sub j n (by omega)
                rw [putV_div, Nat.div_eq_of_lt HRH.out, Nat.mul_zero, Nat.add_zero] at this
                exact this
              have hO1 : Own w4 ub (uo + j) n := hD4.uown.sub j n (by omega)
              have hback : Z % B ^ n + V = R / B ^ j % V + B ^ n ∧ (h = n + 1 → Z / B ^ n = B - 1) := by
                rcases hhn with rfl | rfl
                · rw [Nat.mod_eq_of_lt hZ]; exact ⟨hZ2, fun k => by omega⟩
                · rw [Nat.pow_succ] at hZ2
                  have := kn_back1 B_pos hRV HV.out hZ2
                  exact ⟨this.1, fun _ => this.2⟩
              have hd1 : ub ≠ vb ∨ uo + j ≤ vo ∨ vo + n ≤ uo + j := by have := HST.out.uv; unfold dis at this; omega
              have HCA : Hid (∀ d0, Calls Tryz.prog 241 #[.slice (some ⟨ub, uo + j, none⟩) n (uc - j), .slice (some ⟨ub, uo + j, none⟩) n (uc - j), .slice (some ⟨vb, vo, none⟩) n vc] (w4.drewN d0) fun e w5 =>
                  e = .returned (.int .u64 1) ∧ Aside (DB w' w5 qb qo ub uo vb vo tb tq n m N V (j + 1) (R % B ^ j + B ^ j * (R / B ^ j % V + B ^ n * (Z / B ^ n))))) := Lib.hid (fun d0 => by
                refine (addVV_any ub (uo + j) (uc - j) ub (uo + j) (uc - j) vb vo vc n (Z % B ^ n) V (w4.drewN d0) (by omega) (hwin.drewN d0) (hD4.v.drewN d0) (hO1.drewN d0) (by omega) hd1).mono ?_
                rintro e w5 ⟨Z2, c2, d, rfl, rfl, k1, k2, k3⟩
                rw [hback.1] at k3
                obtain ⟨rfl, rfl⟩ := kn_back (V := 0) k1 (Nat.lt_trans hRV HV.out) k3
                refine ⟨rfl, ⟨?_⟩⟩
                have := ((hD4.drewN d0).putU HST.out j n _ (by omega) k1).drewN d
                rwa [putV_twice (by omega) hZ HRH.out] at this)
              have HZB := Aside.mk hback.2
              have HNX := Aside.mk hnx
              have HRV := Aside.mk (Nat.lt_trans hRV HV.out)
              have HZL := Aside.mk hZ
              have g7 : IntKind.i64.wrap ((j : Int) + n) = (j : Int) + n := IntWalk.i64_in _ (by omega)
              have g8 : 0 ≤ (j : Int) + n := by omega
              have g9 : ((j : Int) + n).toNat = j + n := by omega
              have g10 : (j : Int) + n ≤ uc := by omega
              have g11 : (j : Int) ≤ (j : Int) + n := by omega
              clear hwin hO1 hback hd1 hD4 hZ2 hnx hRV hZ
              go_wp2_with fail
              refine wp_region_noPanic ?_
              go_region_with (go_at_call 241; go_must (refine (HCA.out _).mono ?_; rintro e w5 ⟨rfl, hA5⟩))
              refine NoPanic.normal ?_
              clear HCA
              rcases hhn with hhe | hhe
              · have z2 : decide (n < h) = false := by simp; omega
                have hval : Aside (DB w' w5 qb qo ub uo vb vo tb tq n m N V (j + 1) (rm N V j)) := ⟨by
                  have := hA5.out
                  rw [Nat.div_eq_of_lt (show Z < B ^ n by rw [← hhe]; exact HZL.out)] at this
                  simp only [Nat.mul_zero, Nat.add_zero] at this
                  rw [HNX.out] at this
                  exact this⟩
                clear hA5 hhe
                go_wp2_with fail
                go_meet
                exact ⟨by rw [hdg.out], hval⟩
              · have z2 : decide (n < h) = true := by simp; omega
                have D5 := hA5.out
                rw [HZB.out hhe] at D5
                have hBn : B - 1 < B := by have := B_pos; omega
                have hcw : w5.cell? ⟨ub, uo + (j + n), none⟩ = some (.int .u64 ((B - 1 : Nat) : Int)) := by
                  have := D5.u.cell (j + n) (by omega)
                  rw [this, ← wd_div, Nat.add_mul_div_left _ _ (Bpow_pos j), Nat.div_eq_of_lt (Nat.mod_lt _ (Bpow_pos j)), Nat.zero_add, wd_hi _ _ HRV.out hBn]
                have hfw := D5.uown.free (j + n) (by omega)
                have g12 : (j : Int) + (n : Int) < (n : Int) + (m : Int) := by omega
                have hwz : IntKind.u64.wrap (((B - 1 : Nat) : Int) + 1) = 0 := by decide
                have hval : Aside (DB w' (w5.setCell ⟨ub, uo + (j + n), none⟩ (.int .u64 0)) qb qo ub uo vb vo tb tq n m N V (j + 1) (rm N V j)) := ⟨by
                  have := D5.putU HST.out (j + n) 1 0 (by omega) (by simp [B])
                  rw [putV_drop (Nat.mod_lt _ (Bpow_pos j)) HRV.out hBn, HNX.out] at this
                  simpa [putW, wd_zero, Nat.add_zero] using this⟩
                obtain ⟨bm, hbm⟩ : ∃ z, B - 1 = z := ⟨_, rfl⟩
                rw [hbm] at hcw hwz
                clear hA5 hhe D5 hBn hbm
                go_wp2_with fail
                go_meet
                exact ⟨by rw [hdg.out], hval⟩
          case rest =>
            obtain ⟨rfl, hDx⟩ := hcut
            have cun : wc.cell? ⟨ub, uo + (j + n - 1), none⟩ = some (.int .u64 (wd (rm N V j) (j + n - 1) : Nat)) := hDx.out.u.cell _ (by omega)
            obtain ⟨x2, hx2⟩ : ∃ z, wd (rm N V j) (j + n - 1) = z := ⟨_, rfl⟩
            rw [hx2] at cun
            have HX2 : Aside (x2 = wd (rm N V j) (n + j - 1)) := ⟨by rw [← hx2, show n + j - 1 = j + n - 1 from by omega]⟩
            by_cases e : j = m
            · have hd0 : wd (N / V) j = 0 := by rw [e]; exact top_digit HNV.out
              have zj : ((j : Int) == m) = true := by simp [e]
              have hT : Aside (DB w' wc qb qo ub uo vb vo tb tq n m N V j (rm N V j)) := ⟨hDx.out.top (by omega)⟩
              rw [hd0]
              clear e hd0 hx2 hDx
              go_wp2_with fail
              go_roundw
              case rel => exact ⟨j, x2, by omega, rfl, rfl, HX2, hT⟩
              case measure => simp [intOf]
            · have zj : ((j : Int) == m) = false := by simp; omega
              have hjm : j < m := by omega
              have hT := Aside.mk (hDx.out.setQ HST.out hjm)
              obtain ⟨uq, _, huq⟩ := hDx.out.q.cell j hjm
              have hfq := hDx.out.q.free j hjm
              obtain ⟨D, hD⟩ : ∃ z, wd (N / V) j = z := ⟨_, rfl⟩
              rw [hD] at hT ⊢
              clear e hD hx2 hDx
              go_wp2_with fail
              go_roundw
              case rel => exact ⟨j, x2, by omega, rfl, rfl, HX2, hT⟩
              case measure => simp [intOf]
    · obtain rfl : k = 0 := by omega
      go_wp2_with fail
      refine leaves_cons (f := 251) (args := #[.pointer (some ⟨sb, so, none⟩), .int .i64 (s : Nat)]) (by simp) (by simp [go_sem]) ?_
      have hstk := HNO.out.stk.fr hI.out.fr (fun x y hd _ => ⟨HDB.out.wc x y hd, hI.out.wc x y hd⟩)
      refine (restore_d _ hstk.1 HNO.out.le (by have := HNO.out.le2; omega)).mono ?_
      rintro e u' w2 ⟨rfl, rfl, r1, r2, r3⟩
      refine ⟨_, results_none rfl _ _ _, rfl, ?_⟩
      have hback : ∀ x y, sfree wr sb so s1 x y → sfree w0 sb so s x y ∨ w0.heap.size ≤ x := fun x y k => HNO.out.sub s x y (Nat.le_refl _) (((hstk.2 s1 x y).1 k).le HNO.out.le)
      have hqW : Words wr qb qo m (N / V) := ⟨Nat.div_lt_of_lt_mul HNV.out, fun i hi => hI.out.qd i (Nat.zero_le _) hi⟩
      have hz := hI.out.u
      rw [rm_zero] at hz
      refine ⟨r2.words hqW (fun i hi k => ?_), r2.words hz (fun i hi k => ?_), r1, fun k x y hk hf => HNO.out.sub k x y hk ((hstk.2 k x y).1 ((r3 k x y).1 hf)), ?_⟩
      · rcases hback _ _ k with k | k
        · exact HFR.out.1 i hi k
        · have := HQW.out.kind.lt; omega
      · rcases hback _ _ k with k | k
        · exact HFR.out.2.1 i hi k
        · have := HU.out.2.lt; omega
      · refine (HNO.out.fr.trans' hI.out.fr (U := fun x y => (x = qb ∧ qo ≤ y ∧ y < qo + m) ∨ (x = ub ∧ uo ≤ y ∧ y < uo + (n + m)) ∨ sfree w0 sb so s x y) (fun x y _ k => .inr (.inr k)) (fun x y hx k => ?_)).trans' r2 (fun _ _ _ k => k) (fun x y hx k => ?_)
        · rcases k with k | k | ⟨rfl, k1, k2⟩
          · exact .inl k
          · exact .inr (.inl k)
          · have := HNO.out.src (y - tq) (by omega)
            rw [show tq + (y - tq) = y from by omega] at this
            rcases this with q | q
            · exact .inr (.inr q)
            · omega
        · rcases hback _ _ k with q | q
          · exact .inr (.inr q)
          · omega
end Go.Proofs.YtgilnnipephfjaaGreatDoor
