/- itoa in base 10, of numbers of 9 to 16 words. Int.Abs of another number; the texts of numbers; apd's BigInt over them. -/
import Derived.Test.YtgilnnipephfjaaGreatDoorM23Conv3
import Derived.Test.YtgilnnipephfjaaGreatDoorM14Buf
import Derived.Test.YtgilnnipephfjaaGreatDoorM13Scan3
import Derived.Deep.RegionLaw
set_option linter.unusedSimpArgs false
set_option linter.unusedVariables false
namespace Go.Proofs.YtgilnnipephfjaaGreatDoor
open Go.RowKit

set_option maxRecDepth 100000 in
set_option maxHeartbeats 8000000 in
theorem itoa_big {a : Option Addr} {c X : Nat} {w : World} (neg : Bool) (g : Gl w) (hX : Nt w a c X) (h0 : X ≠ 0) (h9 : 8 < nlen X) (hXl : X < half 2 * half 2) :
    Calls Tryz.prog 149 #[.slice a (nlen X) c, .bool neg, .int .i64 10] w fun e w' => ∃ b o c', e = .returned (.slice (some ⟨b, o, none⟩) (txt neg X).length c') ∧ Bs w' b o (txt neg X) ∧ b < w'.heap.size ∧ w.heap.size ≤ b ∧
      Fr (fun _ _ => False) w w' := by
  have hn0 := nlen_pos h0
  have hlen17 : nlen X ≤ 16 := nlen_le (Nat.lt_of_lt_of_le hXl (Nat.le_trans (Nat.mul_le_mul (Nat.le_of_lt (half_lt (by omega))) (Nat.le_of_lt (half_lt (by omega)))) (by rw [← Nat.pow_add]; exact Nat.le_refl _)))
  have hblX : bl X ≤ 1024 := by
    have h1 : X < 2 ^ (64 * nlen X) := by have := nlen_lt X; rwa [B_two, ← Nat.pow_mul] at this
    have := (lt_two_iff X _).1 h1
    omega
  have hnd : 155 ≤ ndig X := by
    apply Classical.byContradiction
    intro kk
    have h1 := lt_ndig X
    have h2 : half 2 ≤ X := Nat.le_of_lt (Nat.lt_of_lt_of_le (half_lt (by omega)) (Bpow_le h9))
    have h3 : 10 ^ ndig X ≤ half 2 := Nat.pow_le_pow_right (by decide) (by omega)
    omega
  obtain ⟨q, k, hq, hk1, _, hkX⟩ := fl_get flAll_log (show bl X ≤ 1100 by omega)
  obtain ⟨hq1, hq2⟩ := flq_some hq
  have HK1 := Aside.mk (bl_ndig hk1)
  have hk : k < 1100 := by omega
  have f1 := run_fof (bl X)
  have f2 := run_fdiv hq1
  have f3 := run_fcut hq2 (by omega)
  have fm := run_makeB (k + 1) (k + 1) (Nat.le_refl _) (by omega)
  have fm2 := run_makeB (k + 1 + 1) (k + 1 + 1) (Nat.le_refl _) (by omega)
  rw [show ((k + 1 : Nat) : Int) = (k : Int) + 1 from rfl] at fm
  rw [show ((k + 1 + 1 : Nat) : Int) = (k : Int) + 1 + 1 from rfl] at fm2
  obtain ⟨BL, hBL⟩ : ∃ b, bl X = b := ⟨_, rfl⟩
  have hbl := bitLen_any hX (by omega)
  have f4 : ∀ w, Sem.run Tryz.prog (convert 3 209 (.int .i64 10)) w = .ok (.float .f64 4621819117588971520) w := fun w => by kernel_rfl
  rw [hBL] at f1 f2 hbl
  obtain ⟨fb, hfb⟩ : ∃ b, FloatKind.f64.nearest (BL : Int) = b := ⟨_, rfl⟩
  rw [hfb] at f1 f2
  clear hfb hq hq1 hq2 hk1
  obtain ⟨n, hn⟩ : ∃ n, nlen X = n := ⟨_, rfl⟩
  have HX := Aside.mk hX
  have HG := Aside.mk g
  have H0 := Aside.mk h0
  have HN := Aside.mk hn
  rw [hn] at hn0 h9 hlen17 hbl ⊢
  have hn0' : ((n : Int) == 0) = false := by simp; omega
  have Hbl := Lib.hid hbl
  have HXL := Aside.mk hXl
  have HND := Aside.mk hnd
  clear hX g h0 hn hbl hXl hnd
  cases neg
  · go_enter_defers Tryz.func149, Tryz.ntmps149
    go_wp2_with (first | (go_at_call 146; refine Hbl.out.mono ?_; rintro e w' ⟨rfl, rfl⟩) | (go_at_call 191; refine (log2U _).mono ?_; rintro e w' ⟨rfl, rfl⟩))
    obtain ⟨wA, hwA⟩ : ∃ x, World.alloc w' (.cells (madeCells #[.int .u8 0] (k + 1)) 5) = x := ⟨_, rfl⟩
    have hA1 : OwnB wA w'.heap.size 0 (k + 1) := hwA ▸ OwnB_made _ _ _ HG.out.size
    have hA2 : Fr (fun _ _ => False) w' wA := hwA ▸ (Fr.refl _ _).alloc _
    rw [hwA]
    clear hwA
    obtain ⟨s, hs⟩ : ∃ s, w'.heap.size = s := ⟨_, rfl⟩
    rw [hs] at hA1 ⊢
    have HS := Aside.mk hs
    have HA1 := Aside.mk hA1
    have HA2 := Aside.mk hA2
    clear hs hA1 hA2
    refine (getStack_any _).mono ?_
    rintro e wB ⟨rfl, hwB⟩
    obtain ⟨t, ht⟩ : ∃ t, wA.heap.size = t := ⟨_, rfl⟩
    rw [ht]
    have HB10 : Aside (OwnB wB s 0 (k + 1)) := ⟨hwB ▸ (((Fr.refl (fun _ _ => False) wA).alloc _)).ownB HA1.out (fun _ _ k => k)⟩
    have HB20 : Aside (Fr (fun _ _ => False) w' wB) := ⟨hwB ▸ HA2.out.alloc _⟩
    have HB30 : Aside (Stk wB t 0 0 ∧ wB.cell? ⟨t, 0, none⟩ = some (.pointer none)) := ⟨⟨by rw [hwB, ← ht]; exact Stk.new (Nat.le_trans HG.out.size HA2.out.size) _, by rw [hwB, ← ht, World.cell?_alloc_new]; rfl⟩⟩
    have HT0 : Aside (s < t ∧ wB.heap.size = t + 1) := ⟨⟨by rw [← ht]; exact HA1.out.kind.lt, by rw [hwB, ← ht]; simp⟩⟩
    clear hwB ht
    go_wp2_with fail
    refine (maxPow_ten _).mono ?_
    rintro e w2 ⟨rfl, rfl⟩
    go_wp2_with fail
    refine (divisors_tab (HG.out.fr HB20.out (fun _ _ k => k.elim)) h9 (by omega)).mono ?_
    rintro e w3 ⟨tb, ba, bc, rfl, hTD⟩
    have HTD := Aside.mk hTD
    have HB1 := Aside.mk (hTD.fr.ownB HB10.out (fun _ _ k => k))
    have HB2 := Aside.mk (HB20.out.trans hTD.fr)
    have HK3 := Aside.mk (HB30.out.1.fr0 hTD.fr).1
    have HP3 := Aside.mk ((hTD.fr.cell t 0 (by have := HT0.out; omega) (fun k => k)).trans HB30.out.2)
    have HT : Aside (s < t ∧ t + 1 ≤ w3.heap.size) := ⟨⟨HT0.out.1, by have := HT0.out.2; have := hTD.fr.size; omega⟩⟩
    clear hTD
    go_wp2_with fail
    have HXB : Aside (Nt w3 a c X) := ⟨HB2.out.nt HX.out (fun _ _ _ k => k)⟩
    have hset := Lib.hid (set_any (a := none) (zl := 0) (xa := a) (xc := c) (X := X) (Nat.le_trans HG.out.size HB2.out.size) (Reg.nil w3) HXB.out.words (by rw [HN.out]; omega))
    rw [HN.out] at hset
    refine hset.out.mono ?_
    clear hset
    rintro e w4 ⟨az, cz, rfl, hcz, hrz, hwz, hfz, hoz⟩
    have HZ : Aside (Nt w4 az cz X) := ⟨⟨hrz, by rw [HN.out]; exact hcz, by rw [HN.out]; exact hwz⟩⟩
    have HF4 : Aside (Fr (fun _ _ => False) w3 w4) := ⟨hfz.mono (fun b o _ k => foot_none _ _ _ k)⟩
    have HO : Aside (∀ b o, foot az cz b o → t < b) := ⟨by
      intro b o k
      rcases hoz with ⟨rfl, rfl⟩ | ⟨b', o', rfl, hn⟩
      · exact (foot_none _ _ _ k).elim
      · rw [foot_some] at k; have := HT.out.2; omega⟩
    clear hcz hrz hwz hfz hoz
    go_wp2_with fail
    have hP4 : w4.cell? ⟨t, 0, none⟩ = some (.pointer none) := (HF4.out.cell t 0 (by have := HT.out; omega) (fun k => k)).trans HP3.out
    have hsf : ∀ x y, sfree w4 t 0 0 x y → x = t := fun x y q => by
      rcases q with q | ⟨ib, q, _⟩
      · exact q.1
      · rw [hP4] at q; cases q
    have HSF := Aside.mk hsf
    have hcv := Lib.hid (convert_big (sc := (k + 1)) (kb := t) (ko := 0) (tb := tb) (HG.out.fr (HB2.out.trans HF4.out) (fun _ _ k => k.elim)) HZ.out (by rw [HN.out]; exact h9) HXL.out (HF4.out.ownB HB1.out (fun _ _ k => k)) (by omega) (Nat.le_refl _) (by have := HND.out; have := HK1.out; omega) (fun o _ _ k => by have := HO.out _ _ k; have := HT.out.1; omega)
      (HTD.out.t.fr HF4.out (fun _ k => k)) (HF4.out.nt HTD.out.b (fun _ _ _ k => k)) (HK3.out.fr0 HF4.out).1 (fun x y k q => by have := HO.out _ _ k; have := hsf _ _ q; omega) (fun x y k q => by have := HTD.out.bnew _ _ k; have := hsf _ _ q; have := HT0.out.2; omega)
      (fun o q => by have := hsf _ _ q; have := HT.out.1; omega) (fun o q => by have := hsf _ _ q; have := HTD.out.tnew; have := HT0.out.2; omega) (by have := HTD.out.tnew; have := HT0.out; omega))
    clear hP4 hsf
    rw [HN.out] at hcv
    refine hcv.out.mono ?_
    clear hcv
    rintro e w5 ⟨rfl, hd5, ho5, hk5, hu5, hf5⟩
    have HK5 := Aside.mk hk5
    have HU5 := Aside.mk hu5
    clear hk5 hu5
    have HD5 := Aside.mk hd5
    have HO5 := Aside.mk ho5
    have HF5 := Aside.mk hf5
    have HS5 : Aside (∀ x y, sfree w5 t 0 0 x y → x ≠ s ∧ w'.heap.size ≤ x) := ⟨fun x y q => by
      have h4 := (HB2.out.trans HF4.out).size
      have h5 := HT.out
      have h6 := HF4.out.size
      have h7 := HS.out
      rcases HU5.out 0 x y (Nat.le_refl _) q with q | q
      · have := HSF.out x y q; omega
      · omega⟩
    have HE5 : Aside (Fr (fun _ _ => False) w' w5) := ⟨(HB2.out.trans HF4.out).trans' hf5 (fun _ _ _ k => k) (fun x y hx k => by
      have h5 := HT.out
      have h7 := HS.out
      rcases k with k | k | k
      · have := HO.out x y k; omega
      · omega
      · have := HSF.out x y k; omega)⟩
    clear hd5 ho5 hf5
    go_wp2_with fail
    obtain ⟨z, hz⟩ : ∃ z, (k + 1) - ndig X = z := ⟨_, rfl⟩
    have hzL : z < (k + 1) := by have := ndig_pos X; have := HK1.out; omega
    have hz1 : 0 ≤ z := by have := HK1.out; omega
    have HZ0 := Aside.mk hz
    clear hz
    go_loopw [7] (fun i wr => ∃ m : Nat, m ≤ z ∧ i = .int .i64 m ∧ Aside (wr = w5)) (fun i _ => z - (intOf i).toNat)
    case atStart => exact ⟨0, by omega, rfl, ⟨rfl⟩⟩
    case round =>
      obtain ⟨m, hm, rfl, HW⟩ := hrel
      have hc := HD5.out m (by omega) (by omega)
      rw [Nat.zero_add, ← HW.out] at hc
      by_cases hmz : m < z
      · rw [dg_high (X := X) (k := (k + 1) - 1 - m) (by have := HZ0.out; omega)] at hc
        go_wp2_with fail
        go_roundw
        case rel => exact ⟨m + 1, by omega, rfl, HW⟩
        case measure => simp [intOf]; omega
      · obtain rfl : m = z := by omega
        have hd := dg_top H0.out
        rw [show ndig X - 1 = (k + 1) - 1 - m from by have := HZ0.out; have := ndig_pos X; have := HK1.out; omega] at hd
        obtain ⟨D, hD⟩ : ∃ D, dg X ((k + 1) - 1 - m) = D := ⟨_, rfl⟩
        have hD10 := dg_lt X ((k + 1) - 1 - m)
        rw [hD] at hc hd hD10
        have hne : (((48 + D : Nat) : Int) == 48) = false := beq_eq_false_iff_ne.2 (by omega)
        clear hd hD
        go_wp2_with fail
        refine leaves_cons (f := 194) (args := #[.pointer (some ⟨t, 0, none⟩)]) (by simp) (by simp [go_sem]) ?_
        refine (free_ds (n := 0) _ (by rw [HW.out]; exact HK5.out) (by omega)).mono ?_
        rintro e u' w'' ⟨rfl, rfl, hfe⟩
        rw [HW.out] at hfe
        refine ⟨_, results_tmp rfl _ _ _, s, m, k + 1 - m, ?_, ?_, ?_, ?_, ?_⟩
        · rw [txt_false, natText_length, show ndig X = k + 1 - m from by have := HZ0.out; have := HK1.out; omega]; rfl
        · have := HD5.out.bytes (by have := HK1.out; omega)
          rw [HZ0.out, Nat.zero_add, ← txt_false] at this
          exact this.fr hfe HO5.out.kind.lt (fun i _ q => (HS5.out _ _ q).1 rfl)
        · exact Nat.lt_of_lt_of_le HO5.out.kind.lt hfe.size
        · rw [HS.out]; exact Nat.le_refl _
        · exact HE5.out.trans' hfe (fun _ _ _ k => k) (fun x y hx k => by have := (HS5.out x y k).2; omega)
  · go_enter_defers Tryz.func149, Tryz.ntmps149
    go_wp2_with (first | (go_at_call 146; refine Hbl.out.mono ?_; rintro e w' ⟨rfl, rfl⟩) | (go_at_call 191; refine (log2U _).mono ?_; rintro e w' ⟨rfl, rfl⟩))
    obtain ⟨wA, hwA⟩ : ∃ x, World.alloc w' (.cells (madeCells #[.int .u8 0] (k + 1 + 1)) 5) = x := ⟨_, rfl⟩
    have hA1 : OwnB wA w'.heap.size 0 (k + 1 + 1) := hwA ▸ OwnB_made _ _ _ HG.out.size
    have hA2 : Fr (fun _ _ => False) w' wA := hwA ▸ (Fr.refl _ _).alloc _
    rw [hwA]
    clear hwA
    obtain ⟨s, hs⟩ : ∃ s, w'.heap.size = s := ⟨_, rfl⟩
    rw [hs] at hA1 ⊢
    have HS := Aside.mk hs
    have HA1 := Aside.mk hA1
    have HA2 := Aside.mk hA2
    clear hs hA1 hA2
    refine (getStack_any _).mono ?_
    rintro e wB ⟨rfl, hwB⟩
    obtain ⟨t, ht⟩ : ∃ t, wA.heap.size = t := ⟨_, rfl⟩
    rw [ht]
    have HB10 : Aside (OwnB wB s 0 (k + 1 + 1)) := ⟨hwB ▸ (((Fr.refl (fun _ _ => False) wA).alloc _)).ownB HA1.out (fun _ _ k => k)⟩
    have HB20 : Aside (Fr (fun _ _ => False) w' wB) := ⟨hwB ▸ HA2.out.alloc _⟩
    have HB30 : Aside (Stk wB t 0 0 ∧ wB.cell? ⟨t, 0, none⟩ = some (.pointer none)) := ⟨⟨by rw [hwB, ← ht]; exact Stk.new (Nat.le_trans HG.out.size HA2.out.size) _, by rw [hwB, ← ht, World.cell?_alloc_new]; rfl⟩⟩
    have HT0 : Aside (s < t ∧ wB.heap.size = t + 1) := ⟨⟨by rw [← ht]; exact HA1.out.kind.lt, by rw [hwB, ← ht]; simp⟩⟩
    clear hwB ht
    go_wp2_with fail
    refine (maxPow_ten _).mono ?_
    rintro e w2 ⟨rfl, rfl⟩
    go_wp2_with fail
    refine (divisors_tab (HG.out.fr HB20.out (fun _ _ k => k.elim)) h9 (by omega)).mono ?_
    rintro e w3 ⟨tb, ba, bc, rfl, hTD⟩
    have HTD := Aside.mk hTD
    have HB1 := Aside.mk (hTD.fr.ownB HB10.out (fun _ _ k => k))
    have HB2 := Aside.mk (HB20.out.trans hTD.fr)
    have HK3 := Aside.mk (HB30.out.1.fr0 hTD.fr).1
    have HP3 := Aside.mk ((hTD.fr.cell t 0 (by have := HT0.out; omega) (fun k => k)).trans HB30.out.2)
    have HT : Aside (s < t ∧ t + 1 ≤ w3.heap.size) := ⟨⟨HT0.out.1, by have := HT0.out.2; have := hTD.fr.size; omega⟩⟩
    clear hTD
    go_wp2_with fail
    have HXB : Aside (Nt w3 a c X) := ⟨HB2.out.nt HX.out (fun _ _ _ k => k)⟩
    have hset := Lib.hid (set_any (a := none) (zl := 0) (xa := a) (xc := c) (X := X) (Nat.le_trans HG.out.size HB2.out.size) (Reg.nil w3) HXB.out.words (by rw [HN.out]; omega))
    rw [HN.out] at hset
    refine hset.out.mono ?_
    clear hset
    rintro e w4 ⟨az, cz, rfl, hcz, hrz, hwz, hfz, hoz⟩
    have HZ : Aside (Nt w4 az cz X) := ⟨⟨hrz, by rw [HN.out]; exact hcz, by rw [HN.out]; exact hwz⟩⟩
    have HF4 : Aside (Fr (fun _ _ => False) w3 w4) := ⟨hfz.mono (fun b o _ k => foot_none _ _ _ k)⟩
    have HO : Aside (∀ b o, foot az cz b o → t < b) := ⟨by
      intro b o k
      rcases hoz with ⟨rfl, rfl⟩ | ⟨b', o', rfl, hn⟩
      · exact (foot_none _ _ _ k).elim
      · rw [foot_some] at k; have := HT.out.2; omega⟩
    clear hcz hrz hwz hfz hoz
    go_wp2_with fail
    have hP4 : w4.cell? ⟨t, 0, none⟩ = some (.pointer none) := (HF4.out.cell t 0 (by have := HT.out; omega) (fun k => k)).trans HP3.out
    have hsf : ∀ x y, sfree w4 t 0 0 x y → x = t := fun x y q => by
      rcases q with q | ⟨ib, q, _⟩
      · exact q.1
      · rw [hP4] at q; cases q
    have HSF := Aside.mk hsf
    have hcv := Lib.hid (convert_big (sc := (k + 1 + 1)) (kb := t) (ko := 0) (tb := tb) (HG.out.fr (HB2.out.trans HF4.out) (fun _ _ k => k.elim)) HZ.out (by rw [HN.out]; exact h9) HXL.out (HF4.out.ownB HB1.out (fun _ _ k => k)) (by omega) (Nat.le_refl _) (by have := HND.out; have := HK1.out; omega) (fun o _ _ k => by have := HO.out _ _ k; have := HT.out.1; omega)
      (HTD.out.t.fr HF4.out (fun _ k => k)) (HF4.out.nt HTD.out.b (fun _ _ _ k => k)) (HK3.out.fr0 HF4.out).1 (fun x y k q => by have := HO.out _ _ k; have := hsf _ _ q; omega) (fun x y k q => by have := HTD.out.bnew _ _ k; have := hsf _ _ q; have := HT0.out.2; omega)
      (fun o q => by have := hsf _ _ q; have := HT.out.1; omega) (fun o q => by have := hsf _ _ q; have := HTD.out.tnew; have := HT0.out.2; omega) (by have := HTD.out.tnew; have := HT0.out; omega))
    clear hP4 hsf
    rw [HN.out] at hcv
    refine hcv.out.mono ?_
    clear hcv
    rintro e w5 ⟨rfl, hd5, ho5, hk5, hu5, hf5⟩
    have HK5 := Aside.mk hk5
    have HU5 := Aside.mk hu5
    clear hk5 hu5
    have HD5 := Aside.mk hd5
    have HO5 := Aside.mk ho5
    have HF5 := Aside.mk hf5
    have HS5 : Aside (∀ x y, sfree w5 t 0 0 x y → x ≠ s ∧ w'.heap.size ≤ x) := ⟨fun x y q => by
      have h4 := (HB2.out.trans HF4.out).size
      have h5 := HT.out
      have h6 := HF4.out.size
      have h7 := HS.out
      rcases HU5.out 0 x y (Nat.le_refl _) q with q | q
      · have := HSF.out x y q; omega
      · omega⟩
    have HE5 : Aside (Fr (fun _ _ => False) w' w5) := ⟨(HB2.out.trans HF4.out).trans' hf5 (fun _ _ _ k => k) (fun x y hx k => by
      have h5 := HT.out
      have h7 := HS.out
      rcases k with k | k | k
      · have := HO.out x y k; omega
      · omega
      · have := HSF.out x y k; omega)⟩
    clear hd5 ho5 hf5
    go_wp2_with fail
    obtain ⟨z, hz⟩ : ∃ z, (k + 1 + 1) - ndig X = z := ⟨_, rfl⟩
    have hzL : z < (k + 1 + 1) := by have := ndig_pos X; have := HK1.out; omega
    have hz1 : 1 ≤ z := by have := HK1.out; omega
    have HZ0 := Aside.mk hz
    clear hz
    go_loopw [7] (fun i wr => ∃ m : Nat, m ≤ z ∧ i = .int .i64 m ∧ Aside (wr = w5)) (fun i _ => z - (intOf i).toNat)
    case atStart => exact ⟨0, by omega, rfl, ⟨rfl⟩⟩
    case round =>
      obtain ⟨m, hm, rfl, HW⟩ := hrel
      have hc := HD5.out m (by omega) (by omega)
      rw [Nat.zero_add, ← HW.out] at hc
      by_cases hmz : m < z
      · rw [dg_high (X := X) (k := (k + 1 + 1) - 1 - m) (by have := HZ0.out; omega)] at hc
        go_wp2_with fail
        go_roundw
        case rel => exact ⟨m + 1, by omega, rfl, HW⟩
        case measure => simp [intOf]; omega
      · obtain rfl : m = z := by omega
        have hd := dg_top H0.out
        rw [show ndig X - 1 = (k + 1 + 1) - 1 - m from by have := HZ0.out; have := ndig_pos X; have := HK1.out; omega] at hd
        obtain ⟨D, hD⟩ : ∃ D, dg X ((k + 1 + 1) - 1 - m) = D := ⟨_, rfl⟩
        have hD10 := dg_lt X ((k + 1 + 1) - 1 - m)
        rw [hD] at hc hd hD10
        have hne : (((48 + D : Nat) : Int) == 48) = false := beq_eq_false_iff_ne.2 (by omega)
        clear hd hD
        obtain ⟨j, rfl⟩ : ∃ j, m = j + 1 := ⟨m - 1, by omega⟩
        obtain ⟨u, _, hu⟩ := HO5.out.cell j (by omega)
        have hfz : wr.frozen? ⟨s, j, none⟩ = false := by rw [HW.out]; exact HO5.out.kind.free _
        rw [Nat.zero_add, ← HW.out] at hu
        go_wp2_with fail
        refine leaves_cons (f := 194) (args := #[.pointer (some ⟨t, 0, none⟩)]) (by simp) (by simp [go_sem]) ?_
        have fset := (Fr.refl (fun x y => x = s ∧ y = j) w5).setCell s j (.int .u8 45) (fun _ => ⟨rfl, rfl⟩)
        have kset := HK5.out.fr' fset (fun x y q _ q2 => (HS5.out x y q2).1 q.1)
        refine (free_ds (n := 0) _ (by rw [HW.out]; exact kset.1) (by omega)).mono ?_
        rintro e u' w'' ⟨rfl, rfl, hfe⟩
        rw [HW.out] at hu hfe
        have hsz : (w5.setCell ⟨s, j, none⟩ (.int .u8 45)).heap.size = w5.heap.size := World.size_setCell _ _ _
        have hnf : ∀ x y, sfree (w5.setCell ⟨s, j, none⟩ (.int .u8 45)) t 0 0 x y → x ≠ s ∧ w'.heap.size ≤ x := fun x y q => HS5.out x y ((kset.2 0 x y).1 q)
        refine ⟨_, results_tmp rfl _ _ _, s, j, k + 1 + 1 - j, ?_, ?_, ?_, ?_, ?_⟩
        · rw [txt_true H0.out, List.length_cons, natText_length, show ndig X + 1 = k + 1 + 1 - j from by have := HZ0.out; have := HK1.out; omega]; rfl
        · rw [txt_true H0.out]
          refine Bs.fr hfe (by rw [hsz]; exact HO5.out.kind.lt) ?_ (fun i _ q => (hnf _ _ q).1 rfl)
          refine Bs.cons (World.cell?_setCell_same _ _ _ hu) ?_
          have := HD5.out.bytes (by have := HK1.out; omega)
          rw [HZ0.out, Nat.zero_add] at this
          intro i hi
          rw [World.cell?_setCell_other _ _ _ _ (by simp only [ne_eq, Addr.mk.injEq, and_true]; omega)]
          exact this i hi
        · exact Nat.lt_of_lt_of_le (by rw [hsz]; exact HO5.out.kind.lt) hfe.size
        · rw [HS.out]; exact Nat.le_refl _
        · exact (HE5.out.setCell s j (.int .u8 45) (fun k => by have := HS.out; omega)).trans' hfe (fun _ _ _ k => k) (fun x y hx k => by have := (hnf x y k).2; omega)
end Go.Proofs.YtgilnnipephfjaaGreatDoor
namespace Go.Proofs.YtgilnnipephfjaaGreatDoor
open Go.RowKit

set_option maxRecDepth 100000 in
theorem iAbs_other {zb zo xb xo : Nat} {zn xn : Bool} {a xa : Option Addr} {c xc Z X : Nat} {w : World} (hG : NG ≤ w.heap.size) (hz : IA w zb zo zn a c Z) (hx : IA w xb xo xn xa xc X)
    (hap : zb ≠ xb ∨ zo + 2 ≤ xo ∨ xo + 2 ≤ zo) (hn : nlen X < 900000) :
    Calls Tryz.prog 214 #[.pointer (some ⟨zb, zo, none⟩), .pointer (some ⟨xb, xo, none⟩)] w fun e w' => ∃ a' c', e = .returned (.pointer (some ⟨zb, zo, none⟩)) ∧ IA w' zb zo false a' c' X ∧ Fr (ifoot zb zo a c) w w' ∧ Out w a c a' c' := by
  have H := Lib.hid (iSet_other hG hz hx hap hn)
  clear hz hx hap
  go_enter Tryz.func214, Tryz.ntmps214
  go_wp2_with fail
  refine H.out.mono ?_
  rintro e w1 ⟨a', c', rfl, h1, h2, h3⟩
  have hn := h1.neg
  have hf := h1.blk.free zo
  have H1 := Aside.mk h1
  have H2 := Aside.mk h2
  have H3 := Aside.mk h3
  clear h1 h2 h3 H
  go_wp2_with fail
  go_ret
  have g := (Fr.refl (fun b' o' => b' = zb ∧ o' = zo) w1).setCell zb zo (.bool false) (fun _ => ⟨rfl, rfl⟩)
  refine ⟨a', c', rfl, ⟨World.cell?_setCell_same _ _ _ hn, (World.cell?_setCell_other _ _ _ _ (by simp)).trans H1.out.abs, g.nt H1.out.nt ?_, g.blk H1.out.blk⟩, H2.out.trans' g (fun _ _ _ k => k) (fun b' o' _ k => .inl ⟨k.1, .inl k.2⟩), H3.out⟩
  rintro b' o' k ⟨rfl, rfl⟩
  exact (H1.out.apart H1.out.nt.reg).1 k

/-- A number whose text is made with one split at most. -/
def Sm (X : Nat) : Prop := X < half 2 * half 2
theorem sm_of8 {X : Nat} (h : nlen X ≤ 8) : Sm X := Nat.lt_of_lt_of_le ((lt_Bpow_iff X 8).2 h) (by decide)
theorem sm_pow {X n : Nat} (h : X < 10 ^ n) (hn : n ≤ 308) : Sm X := by
  have e : half 2 * half 2 = p10 (152 + 2 + (152 + 2)) := by unfold half p10; rw [← Nat.pow_add]
  unfold Sm
  rw [e]
  exact Nat.lt_of_lt_of_le h (p10_mono (by omega))
theorem sm_digs {l : List UInt8} (h : Digs l) (hl : l.length ≤ 308) : Sm (numOf l) := sm_pow (numOf_lt h) hl
theorem sm_len {X : Nat} (h : Sm X) : nlen X ≤ 16 :=
  nlen_le (Nat.lt_of_lt_of_le h (Nat.le_trans (Nat.mul_le_mul (Nat.le_of_lt (half_lt (by omega))) (Nat.le_of_lt (half_lt (by omega)))) (by rw [← Nat.pow_add]; exact Nat.le_refl _)))
/-- The text of a number, of whatever length the conversion takes. -/
theorem itoa_any {a : Option Addr} {c X : Nat} {w : World} (neg : Bool) (g : Gl w) (hX : Nt w a c X) (h8 : Sm X) :
    Calls Tryz.prog 149 #[.slice a (nlen X) c, .bool neg, .int .i64 10] w fun e w' => ∃ b o c', e = .returned (.slice (some ⟨b, o, none⟩) (txt neg X).length c') ∧ Bs w' b o (txt neg X) ∧ b < w'.heap.size ∧ w.heap.size ≤ b ∧
      Fr (fun _ _ => False) w w' := by
  by_cases h0 : X = 0
  · subst h0
    rw [nlen_zero, txt_zero]
    exact itoa_zero a c neg w
  · by_cases h9 : nlen X ≤ 8
    · exact itoa_pos neg g hX h0 h9
    · exact itoa_big neg g hX h0 (by omega) h8
/-- What a number's text is. -/
def itxt (neg : Bool) (X : Nat) : ByteArray := ⟨(txt neg X).toArray⟩

set_option maxRecDepth 100000 in
theorem iText_any {b o : Nat} {neg : Bool} {a : Option Addr} {c X : Nat} {w : World} (g : Gl w) (h : IA w b o neg a c X) (h8 : Sm X) :
    Calls Tryz.prog 133 #[.pointer (some ⟨b, o, none⟩), .int .i64 10] w fun e w' => e = .returned (.string (itxt neg X)) ∧ Fr (fun _ _ => False) w w' := by
  have hn := h.neg
  have ha := h.abs
  have H : Hid (∀ d, Calls Tryz.prog 149 #[.slice a (nlen X) c, .bool neg, .int .i64 10] (w.drewN d) fun e w' => ∃ b o n c', e = .returned (.slice (some ⟨b, o, none⟩) n c') ∧
      (convert 38 9 (.slice (some ⟨b, o, none⟩) n c')).run Tryz.prog w' = .ok (.string (itxt neg X)) w' ∧ Aside (Fr (fun _ _ => False) w w')) := Lib.hid (fun d => by
    refine (itoa_any neg (g.drewN d) (h.nt.drewN d) h8).mono ?_
    rintro e w1 ⟨b, o, c', rfl, h1, h2, h3, h4⟩
    refine ⟨b, o, _, c', rfl, ?_, ⟨((Fr.refl _ w).drewN d).trans h4⟩⟩
    exact run_convert_bytes_back w1 _ _ _ _ _ _ Tryz.underlying38 Tryz.underlying5 Tryz.underlying9 (fun j hj => by rw [Addr.add_lit]; exact h1 j hj))
  clear h
  go_enter Tryz.func133, Tryz.ntmps133
  go_wp2_with fail
  go_region_with (go_at_call 149; go_must (refine (H.out _).mono ?_; rintro e w1 ⟨b1, o1, n1, c1, rfl, hcv, hA⟩))
  all_goals
    go_wp2_with fail
    go_ret
    exact ⟨rfl, hA.out⟩
end Go.Proofs.YtgilnnipephfjaaGreatDoor
