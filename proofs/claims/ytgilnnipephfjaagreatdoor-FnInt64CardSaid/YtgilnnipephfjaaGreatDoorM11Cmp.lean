/- itoa in base 10, of at most 8 words: no table is needed. Contract of nat.go: cmp. -/
import Derived.Test.YtgilnnipephfjaaGreatDoorM10Txt
import Derived.Test.YtgilnnipephfjaaGreatDoorM06Exp2
import Derived.Lib.SlBytesConst
import Derived.Test.YtgilnnipephfjaaGreatDoorM03Mul
set_option linter.unusedSimpArgs false
set_option linter.unusedVariables false
namespace Go.Proofs.YtgilnnipephfjaaGreatDoor
open Go.RowKit

theorem divisors_nil (stk : Value) (n : Nat) (w : World) (g : Gl w) (hn : n ≤ 8) :
    Calls Tryz.prog 196 #[stk, .int .i64 n, .int .u64 10, .int .i64 19, .int .u64 (p10 19 : Nat)] w fun e w' => e = .returned (.slice none 0 0) ∧ w' = w := by
  have h1 := g.leaf
  go_enter Tryz.func196, Tryz.ntmps196
  go_wp2_with fail
  go_ret
  exact ⟨rfl, rfl⟩

theorem infoB : (Tryz.prog.info? 5).map (fun i => (i.zero, i.size, i.bytes)) = some (some (.int .u8 0), 1, 1) := by kernel_rfl
theorem run_makeB (n c : Nat) (hn : n ≤ c) (hc : c < 1000000) (w : World) :
    (Instr.makeSlice 38 (.int .i64 (n : Int)) (.int .i64 (c : Int))).run Tryz.prog w = .ok (.slice (some ⟨w.heap.size, 0, none⟩) n c) (w.alloc (.cells (madeCells #[.int .u8 0] c) 5)) := by
  obtain ⟨i, hi, hzz⟩ := Option.map_eq_some_iff.1 infoB
  simp only [Prod.mk.injEq] at hzz
  obtain ⟨hz, hs, hb⟩ := hzz
  have h := run_make (P := Tryz.prog) w 38 5 i _ Tryz.underlying38 hi hz .i64 .i64 n c (by omega) (by omega) (by rw [hb]; omega) (by omega)
  simp only [Int.toNat_natCast, hs, Nat.mul_one] at h
  exact h
theorem OwnB_made (c t : Nat) (w : World) (hG : NG ≤ w.heap.size) : OwnB (w.alloc (.cells (madeCells #[.int .u8 0] c) t)) w.heap.size 0 c := by
  refine ⟨fun i hi => ⟨0, by omega, ?_⟩, ⟨hG, t, kind_alloc_new _ _ _ _⟩⟩
  rw [Nat.zero_add, World.cell?_alloc_new, ← Array.getElem?_toList, toList_madeCells_one]
  simp [hi]

set_option maxRecDepth 100000 in
theorem itoa_zero (a : Option Addr) (c : Nat) (neg : Bool) (w : World) :
    Calls Tryz.prog 149 #[.slice a 0 c, .bool neg, .int .i64 10] w fun e w' => ∃ b o c', e = .returned (.slice (some ⟨b, o, none⟩) 1 c') ∧ Bs w' b o [48] ∧ b < w'.heap.size ∧ w.heap.size ≤ b ∧
      Fr (fun _ _ => False) w w' := by
  have fc := Lib.run_convert_bytes_const (P := Tryz.prog) w 38 5 #[.int .u8 48] 1 1 Tryz.underlying38 Tryz.underlying5
  go_enter_defers Tryz.func149, Tryz.ntmps149
  go_wp2_with fail
  refine ⟨_, results_tmp rfl _ _ _, w.heap.size, 0, 1, rfl, ?_, by simp, Nat.le_refl _, (Fr.refl _ w).alloc _⟩
  intro i hi
  obtain rfl : i = 0 := by simpa using hi
  rw [Nat.add_zero, World.cell?_alloc_mark]
  rfl

theorem itoa_stk {w3 w4 w5 : World} {t s L : Nat} {az : Option Addr} {cz : Nat} (h3 : w3.cell? ⟨t, 0, none⟩ = some (.pointer none)) (ht : s < t ∧ w3.heap.size = t + 1) (h4 : Fr (fun _ _ => False) w3 w4)
    (h5 : Fr (fun b o => foot az cz b o ∨ (b = s ∧ 0 ≤ o ∧ o < 0 + L)) w4 w5) (ho : ∀ b o, foot az cz b o → t < b) : w5.cell? ⟨t, 0, none⟩ = some (.pointer none) := by
  have := h4.size
  refine (h5.cell t 0 (by omega) (fun k => ?_)).trans ((h4.cell t 0 (by omega) (fun k => k)).trans h3)
  rcases k with k | k
  · have := ho _ _ k; omega
  · omega
theorem itoa_fr {w w3 w4 w5 : World} {t s L : Nat} {az : Option Addr} {cz : Nat} (hs : w.heap.size = s) (h3 : Fr (fun _ _ => False) w w3) (ht : s < t ∧ w3.heap.size = t + 1) (h4 : Fr (fun _ _ => False) w3 w4)
    (h5 : Fr (fun b o => foot az cz b o ∨ (b = s ∧ 0 ≤ o ∧ o < 0 + L)) w4 w5) (ho : ∀ b o, foot az cz b o → t < b) : Fr (fun _ _ => False) w w5 :=
  (h3.trans h4).trans' h5 (fun _ _ _ k => k) (fun b o hb k => by
    rcases k with k | k
    · have := ho _ _ k; omega
    · omega)

set_option maxRecDepth 100000 in
set_option maxHeartbeats 4000000 in
theorem itoa_pos {a : Option Addr} {c X : Nat} {w : World} (neg : Bool) (g : Gl w) (hX : Nt w a c X) (h0 : X ≠ 0) (h8 : nlen X ≤ 8) :
    Calls Tryz.prog 149 #[.slice a (nlen X) c, .bool neg, .int .i64 10] w fun e w' => ∃ b o c', e = .returned (.slice (some ⟨b, o, none⟩) (txt neg X).length c') ∧ Bs w' b o (txt neg X) ∧ b < w'.heap.size ∧ w.heap.size ≤ b ∧
      Fr (fun _ _ => False) w w' := by
  have hn0 := nlen_pos h0
  have hblX : bl X ≤ 512 := by
    have h1 : X < 2 ^ (64 * nlen X) := by have := nlen_lt X; rwa [B_two, ← Nat.pow_mul] at this
    have := (lt_two_iff X _).1 h1
    omega
  obtain ⟨q, k, hq, hk1, _, hkX⟩ := fl_get flAll_log (show bl X ≤ 1100 by omega)
  obtain ⟨hq1, hq2⟩ := flq_some hq
  have HK1 := Aside.mk (bl_ndig hk1)
  have hk : k < 1000 := by omega
  have f1 := run_fof (bl X)
  have f2 := run_fdiv hq1
  have f3 := run_fcut hq2 (by omega)
  have fm := run_makeB (k + 1) (k + 1) (Nat.le_refl _) (by omega)
  have fm2 := run_makeB (k + 1 + 1) (k + 1 + 1) (Nat.le_refl _) (by omega)
  rw [show ((k + 1 : Nat) : Int) = (k : Int) + 1 from rfl] at fm
  rw [show ((k + 1 + 1 : Nat) : Int) = (k : Int) + 1 + 1 from rfl] at fm2
  obtain ⟨BL, hBL⟩ : ∃ b, bl X = b := ⟨_, rfl⟩
  have hbl := bitLen_any hX (by omega)
  have f4 : ∀ w, Sem.run Tryz.prog (convert 3 209 (.int .i64 10)) w = .ok (.float .f64 4621819117588971520) w := fun w => by kernel_rfl
  rw [hBL] at f1 f2 hbl
  obtain ⟨fb, hfb⟩ : ∃ b, FloatKind.f64.nearest (BL : Int) = b := ⟨_, rfl⟩
  rw [hfb] at f1 f2
  clear hfb hq hq1 hq2 hk1
  obtain ⟨n, hn⟩ : ∃ n, nlen X = n := ⟨_, rfl⟩
  have HX := Aside.mk hX
  have HG := Aside.mk g
  have H0 := Aside.mk h0
  have HN := Aside.mk hn
  rw [hn] at hn0 h8 hbl ⊢
  have hn0' : ((n : Int) == 0) = false := by simp; omega
  have Hbl := Lib.hid hbl
  clear hX g h0 hn hbl
  cases neg
  · go_enter_defers Tryz.func149, Tryz.ntmps149
    go_wp2_with (first | (go_at_call 146; refine Hbl.out.mono ?_; rintro e w' ⟨rfl, rfl⟩) | (go_at_call 191; refine (log2U _).mono ?_; rintro e w' ⟨rfl, rfl⟩))
    obtain ⟨wA, hwA⟩ : ∃ x, World.alloc w' (.cells (madeCells #[.int .u8 0] (k + 1)) 5) = x := ⟨_, rfl⟩
    have hA1 : OwnB wA w'.heap.size 0 (k + 1) := hwA ▸ OwnB_made _ _ _ HG.out.size
    have hA2 : Fr (fun _ _ => False) w' wA := hwA ▸ (Fr.refl _ _).alloc _
    rw [hwA]
    clear hwA
    obtain ⟨s, hs⟩ : ∃ s, w'.heap.size = s := ⟨_, rfl⟩
    rw [hs] at hA1 ⊢
    have HS := Aside.mk hs
    have HA1 := Aside.mk hA1
    have HA2 := Aside.mk hA2
    clear hs hA1 hA2
    refine (getStack_any _).mono ?_
    rintro e wB ⟨rfl, hwB⟩
    obtain ⟨t, ht⟩ : ∃ t, wA.heap.size = t := ⟨_, rfl⟩
    rw [ht]
    have HB1 : Aside (OwnB wB s 0 (k + 1)) := ⟨hwB ▸ (((Fr.refl (fun _ _ => False) wA).alloc _)).ownB HA1.out (fun _ _ k => k)⟩
    have HB2 : Aside (Fr (fun _ _ => False) w' wB) := ⟨hwB ▸ HA2.out.alloc _⟩
    have HB3 : Aside (wB.cell? ⟨t, 0, none⟩ = some (.pointer none)) := ⟨by rw [hwB, ← ht, World.cell?_alloc_new]; rfl⟩
    have HT : Aside (s < t ∧ wB.heap.size = t + 1) := ⟨⟨by rw [← ht]; exact HA1.out.kind.lt, by rw [hwB, ← ht]; simp⟩⟩
    clear hwB ht
    go_wp2_with fail
    refine (maxPow_ten _).mono ?_
    rintro e w2 ⟨rfl, rfl⟩
    go_wp2_with fail
    refine (divisors_nil _ _ _ (HG.out.fr HB2.out (fun _ _ k => k.elim)) h8).mono ?_
    rintro e w3 ⟨rfl, rfl⟩
    go_wp2_with fail
    have HXB : Aside (Nt w3 a c X) := ⟨HB2.out.nt HX.out (fun _ _ _ k => k)⟩
    have hset := Lib.hid (set_any (a := none) (zl := 0) (xa := a) (xc := c) (X := X) (Nat.le_trans HG.out.size HB2.out.size) (Reg.nil w3) HXB.out.words (by rw [HN.out]; omega))
    rw [HN.out] at hset
    refine hset.out.mono ?_
    clear hset
    rintro e w4 ⟨az, cz, rfl, hcz, hrz, hwz, hfz, hoz⟩
    have HZ : Aside (Nt w4 az cz X) := ⟨⟨hrz, by rw [HN.out]; exact hcz, by rw [HN.out]; exact hwz⟩⟩
    have HF4 : Aside (Fr (fun _ _ => False) w3 w4) := ⟨hfz.mono (fun b o _ k => foot_none _ _ _ k)⟩
    have HO : Aside (∀ b o, foot az cz b o → t < b) := ⟨by
      intro b o k
      rcases hoz with ⟨rfl, rfl⟩ | ⟨b', o', rfl, hn⟩
      · exact (foot_none _ _ _ k).elim
      · rw [foot_some] at k; have := HT.out.2; omega⟩
    clear hcz hrz hwz hfz hoz
    go_wp2_with fail
    have hcv := Lib.hid (convert_nil (sc := (k + 1)) (.pointer (some ⟨t, 0, none⟩)) (Nat.le_trans HG.out.size (HB2.out.trans HF4.out).size) HZ.out (by rw [HN.out]; omega) (HF4.out.ownB HB1.out (fun _ _ k => k)) (by omega) (fun o _ _ k => by have := HO.out _ _ k; have := HT.out.1; omega))
    rw [HN.out] at hcv
    refine hcv.out.mono ?_
    clear hcv
    rintro e w5 ⟨rfl, hd5, ho5, hf5⟩
    have HD5 := Aside.mk hd5
    have HO5 := Aside.mk ho5
    have HF5 := Aside.mk hf5
    clear hd5 ho5 hf5
    go_wp2_with fail
    obtain ⟨z, hz⟩ : ∃ z, (k + 1) - ndig X = z := ⟨_, rfl⟩
    have hzL : z < (k + 1) := by have := ndig_pos X; have := HK1.out; omega
    have hz1 : 0 ≤ z := by have := HK1.out; omega
    have HZ0 := Aside.mk hz
    clear hz
    go_loopw [7] (fun i wr => ∃ m : Nat, m ≤ z ∧ i = .int .i64 m ∧ Aside (wr = w5)) (fun i _ => z - (intOf i).toNat)
    case atStart => exact ⟨0, by omega, rfl, ⟨rfl⟩⟩
    case round =>
      obtain ⟨m, hm, rfl, HW⟩ := hrel
      have hc := HD5.out m (by omega) (by omega)
      rw [Nat.zero_add, ← HW.out] at hc
      by_cases hmz : m < z
      · rw [dg_high (X := X) (k := (k + 1) - 1 - m) (by have := HZ0.out; omega)] at hc
        go_wp2_with fail
        go_roundw
        case rel => exact ⟨m + 1, by omega, rfl, HW⟩
        case measure => simp [intOf]; omega
      · obtain rfl : m = z := by omega
        have hd := dg_top H0.out
        rw [show ndig X - 1 = (k + 1) - 1 - m from by have := HZ0.out; have := ndig_pos X; have := HK1.out; omega] at hd
        obtain ⟨D, hD⟩ : ∃ D, dg X ((k + 1) - 1 - m) = D := ⟨_, rfl⟩
        have hD10 := dg_lt X ((k + 1) - 1 - m)
        rw [hD] at hc hd hD10
        have hne : (((48 + D : Nat) : Int) == 48) = false := beq_eq_false_iff_ne.2 (by omega)
        clear hd hD
        go_wp2_with fail
        refine leaves_cons (f := 194) (args := #[.pointer (some ⟨t, 0, none⟩)]) (by simp) (by simp [go_sem]) ?_
        refine (free_d t 0 _ _ (by rw [HW.out]; exact itoa_stk HB3.out HT.out HF4.out HF5.out HO.out)).mono ?_
        rintro e u' w'' ⟨rfl, rfl, rfl⟩
        rw [HW.out]
        refine ⟨_, results_tmp rfl _ _ _, s, m, k + 1 - m, ?_, ?_, ?_, ?_, ?_⟩
        · rw [txt_false, natText_length, show ndig X = k + 1 - m from by have := HZ0.out; have := HK1.out; omega]; rfl
        · have := HD5.out.bytes (by have := HK1.out; omega)
          rwa [HZ0.out, Nat.zero_add, ← txt_false] at this
        · exact HO5.out.kind.lt
        · rw [HS.out]; exact Nat.le_refl _
        · exact itoa_fr HS.out HB2.out HT.out HF4.out HF5.out HO.out
  · go_enter_defers Tryz.func149, Tryz.ntmps149
    go_wp2_with (first | (go_at_call 146; refine Hbl.out.mono ?_; rintro e w' ⟨rfl, rfl⟩) | (go_at_call 191; refine (log2U _).mono ?_; rintro e w' ⟨rfl, rfl⟩))
    obtain ⟨wA, hwA⟩ : ∃ x, World.alloc w' (.cells (madeCells #[.int .u8 0] (k + 1 + 1)) 5) = x := ⟨_, rfl⟩
    have hA1 : OwnB wA w'.heap.size 0 (k + 1 + 1) := hwA ▸ OwnB_made _ _ _ HG.out.size
    have hA2 : Fr (fun _ _ => False) w' wA := hwA ▸ (Fr.refl _ _).alloc _
    rw [hwA]
    clear hwA
    obtain ⟨s, hs⟩ : ∃ s, w'.heap.size = s := ⟨_, rfl⟩
    rw [hs] at hA1 ⊢
    have HS := Aside.mk hs
    have HA1 := Aside.mk hA1
    have HA2 := Aside.mk hA2
    clear hs hA1 hA2
    refine (getStack_any _).mono ?_
    rintro e wB ⟨rfl, hwB⟩
    obtain ⟨t, ht⟩ : ∃ t, wA.heap.size = t := ⟨_, rfl⟩
    rw [ht]
    have HB1 : Aside (OwnB wB s 0 (k + 1 + 1)) := ⟨hwB ▸ (((Fr.refl (fun _ _ => False) wA).alloc _)).ownB HA1.out (fun _ _ k => k)⟩
    have HB2 : Aside (Fr (fun _ _ => False) w' wB) := ⟨hwB ▸ HA2.out.alloc _⟩
    have HB3 : Aside (wB.cell? ⟨t, 0, none⟩ = some (.pointer none)) := ⟨by rw [hwB, ← ht, World.cell?_alloc_new]; rfl⟩
    have HT : Aside (s < t ∧ wB.heap.size = t + 1) := ⟨⟨by rw [← ht]; exact HA1.out.kind.lt, by rw [hwB, ← ht]; simp⟩⟩
    clear hwB ht
    go_wp2_with fail
    refine (maxPow_ten _).mono ?_
    rintro e w2 ⟨rfl, rfl⟩
    go_wp2_with fail
    refine (divisors_nil _ _ _ (HG.out.fr HB2.out (fun _ _ k => k.elim)) h8).mono ?_
    rintro e w3 ⟨rfl, rfl⟩
    go_wp2_with fail
    have HXB : Aside (Nt w3 a c X) := ⟨HB2.out.nt HX.out (fun _ _ _ k => k)⟩
    have hset := Lib.hid (set_any (a := none) (zl := 0) (xa := a) (xc := c) (X := X) (Nat.le_trans HG.out.size HB2.out.size) (Reg.nil w3) HXB.out.words (by rw [HN.out]; omega))
    rw [HN.out] at hset
    refine hset.out.mono ?_
    clear hset
    rintro e w4 ⟨az, cz, rfl, hcz, hrz, hwz, hfz, hoz⟩
    have HZ : Aside (Nt w4 az cz X) := ⟨⟨hrz, by rw [HN.out]; exact hcz, by rw [HN.out]; exact hwz⟩⟩
    have HF4 : Aside (Fr (fun _ _ => False) w3 w4) := ⟨hfz.mono (fun b o _ k => foot_none _ _ _ k)⟩
    have HO : Aside (∀ b o, foot az cz b o → t < b) := ⟨by
      intro b o k
      rcases hoz with ⟨rfl, rfl⟩ | ⟨b', o', rfl, hn⟩
      · exact (foot_none _ _ _ k).elim
      · rw [foot_some] at k; have := HT.out.2; omega⟩
    clear hcz hrz hwz hfz hoz
    go_wp2_with fail
    have hcv := Lib.hid (convert_nil (sc := (k + 1 + 1)) (.pointer (some ⟨t, 0, none⟩)) (Nat.le_trans HG.out.size (HB2.out.trans HF4.out).size) HZ.out (by rw [HN.out]; omega) (HF4.out.ownB HB1.out (fun _ _ k => k)) (by omega) (fun o _ _ k => by have := HO.out _ _ k; have := HT.out.1; omega))
    rw [HN.out] at hcv
    refine hcv.out.mono ?_
    clear hcv
    rintro e w5 ⟨rfl, hd5, ho5, hf5⟩
    have HD5 := Aside.mk hd5
    have HO5 := Aside.mk ho5
    have HF5 := Aside.mk hf5
    clear hd5 ho5 hf5
    go_wp2_with fail
    obtain ⟨z, hz⟩ : ∃ z, (k + 1 + 1) - ndig X = z := ⟨_, rfl⟩
    have hzL : z < (k + 1 + 1) := by have := ndig_pos X; have := HK1.out; omega
    have hz1 : 1 ≤ z := by have := HK1.out; omega
    have HZ0 := Aside.mk hz
    clear hz
    go_loopw [7] (fun i wr => ∃ m : Nat, m ≤ z ∧ i = .int .i64 m ∧ Aside (wr = w5)) (fun i _ => z - (intOf i).toNat)
    case atStart => exact ⟨0, by omega, rfl, ⟨rfl⟩⟩
    case round =>
      obtain ⟨m, hm, rfl, HW⟩ := hrel
      have hc := HD5.out m (by omega) (by omega)
      rw [Nat.zero_add, ← HW.out] at hc
      by_cases hmz : m < z
      · rw [dg_high (X := X) (k := (k + 1 + 1) - 1 - m) (by have := HZ0.out; omega)] at hc
        go_wp2_with fail
        go_roundw
        case rel => exact ⟨m + 1, by omega, rfl, HW⟩
        case measure => simp [intOf]; omega
      · obtain rfl : m = z := by omega
        have hd := dg_top H0.out
        rw [show ndig X - 1 = (k + 1 + 1) - 1 - m from by have := HZ0.out; have := ndig_pos X; have := HK1.out; omega] at hd
        obtain ⟨D, hD⟩ : ∃ D, dg X ((k + 1 + 1) - 1 - m) = D := ⟨_, rfl⟩
        have hD10 := dg_lt X ((k + 1 + 1) - 1 - m)
        rw [hD] at hc hd hD10
        have hne : (((48 + D : Nat) : Int) == 48) = false := beq_eq_false_iff_ne.2 (by omega)
        clear hd hD
        obtain ⟨j, rfl⟩ : ∃ j, m = j + 1 := ⟨m - 1, by omega⟩
        obtain ⟨u, _, hu⟩ := HO5.out.cell j (by omega)
        have hfz : wr.frozen? ⟨s, j, none⟩ = false := by rw [HW.out]; exact HO5.out.kind.free _
        rw [Nat.zero_add, ← HW.out] at hu
        go_wp2_with fail
        refine leaves_cons (f := 194) (args := #[.pointer (some ⟨t, 0, none⟩)]) (by simp) (by simp [go_sem]) ?_
        refine (free_d t 0 _ _ (by rw [HW.out, World.cell?_setCell_other _ _ _ _ (by have := HT.out; simp only [ne_eq, Addr.mk.injEq, and_true]; omega)]; exact itoa_stk HB3.out HT.out HF4.out HF5.out HO.out)).mono ?_
        rintro e u' w'' ⟨rfl, rfl, rfl⟩
        rw [HW.out] at hu ⊢
        refine ⟨_, results_tmp rfl _ _ _, s, j, k + 1 + 1 - j, ?_, ?_, ?_, ?_, ?_⟩
        · rw [txt_true H0.out, List.length_cons, natText_length, show ndig X + 1 = k + 1 + 1 - j from by have := HZ0.out; have := HK1.out; omega]; rfl
        · rw [txt_true H0.out]
          refine Bs.cons (World.cell?_setCell_same _ _ _ hu) ?_
          have := HD5.out.bytes (by have := HK1.out; omega)
          rw [HZ0.out, Nat.zero_add] at this
          intro i hi
          rw [World.cell?_setCell_other _ _ _ _ (by simp only [ne_eq, Addr.mk.injEq, and_true]; omega)]
          exact this i hi
        · rw [World.size_setCell]; exact HO5.out.kind.lt
        · rw [HS.out]; exact Nat.le_refl _
        · exact (itoa_fr HS.out HB2.out HT.out HF4.out HF5.out HO.out).setCell _ _ _ (fun k => by have := HS.out; omega)
end Go.Proofs.YtgilnnipephfjaaGreatDoor
namespace Go.Proofs.YtgilnnipephfjaaGreatDoor
open Go.RowKit

/-- -1, 0 or 1. -/
def sg (x y : Nat) : Int := if x < y then -1 else if x = y then 0 else 1

theorem cmp_ne (a b : Option Addr) (m n c d : Nat) (w : World) (hm : m < 1000000) (hn : n < 1000000) (h : m ≠ n ∨ m = 0) :
    Calls Tryz.prog 183 #[.slice a m c, .slice b n d] w fun e w' => e = .returned (.int .i64 (sg m n)) ∧ w' = w := by
  have key : ∀ b : Bool, b = true → True := fun _ _ => trivial
  by_cases h1 : m < n
  · have h2 : ((m : Int) != n) = true := by simp; omega
    have hs : sg m n = -1 := by unfold sg; rw [if_pos h1]
    rw [hs]
    go_enter Tryz.func183, Tryz.ntmps183
    go_wp2_with fail
    go_ret
    exact ⟨rfl, rfl⟩
  · by_cases h3 : n < m
    · have h2 : ((m : Int) != n) = true := by simp; omega
      have hs : sg m n = 1 := by unfold sg; rw [if_neg h1, if_neg (by omega)]
      rw [hs]
      go_enter Tryz.func183, Tryz.ntmps183
      go_wp2_with fail
      go_ret
      exact ⟨rfl, rfl⟩
    · obtain rfl : m = 0 := by omega
      obtain rfl : n = 0 := by omega
      go_enter Tryz.func183, Tryz.ntmps183
      go_wp2_with fail
      go_ret
      exact ⟨rfl, rfl⟩

theorem cmp_top {x y k : Nat} (h : x / B ^ (k + 1) = y / B ^ (k + 1)) (hne : wd x k ≠ wd y k) : x < y ↔ wd x k < wd y k := by
  have e1 := Nat.mod_add_div x (B ^ (k + 1))
  have e2 := Nat.mod_add_div y (B ^ (k + 1))
  rw [mod_succ] at e1 e2
  rw [h] at e1
  have l1 : x % B ^ k < B ^ k := Nat.mod_lt _ (Bpow_pos k)
  have l2 : y % B ^ k < B ^ k := Nat.mod_lt _ (Bpow_pos k)
  generalize B ^ (k + 1) * (y / B ^ (k + 1)) = q at *
  generalize wd x k = p1 at *
  generalize wd y k = p2 at *
  generalize x % B ^ k = r1 at *
  generalize y % B ^ k = r2 at *
  generalize B ^ k = b at *
  constructor
  · intro hlt
    apply Nat.lt_of_not_le
    intro hge
    have : p2 + 1 ≤ p1 := by omega
    have := Nat.mul_le_mul_left b this
    rw [Nat.mul_succ] at this
    omega
  · intro hlt
    have := Nat.mul_le_mul_left b (show p1 + 1 ≤ p2 from hlt)
    rw [Nat.mul_succ] at this
    omega
theorem div_succ_eq {x y k : Nat} (h : x / B ^ (k + 1) = y / B ^ (k + 1)) (he : wd x k = wd y k) : x / B ^ k = y / B ^ k := by
  have e1 := Nat.mod_add_div (x / B ^ k) B
  have e2 := Nat.mod_add_div (y / B ^ k) B
  rw [Nat.div_div_eq_div_mul, ← Nat.pow_succ] at e1 e2
  unfold wd at he
  rw [← e1, ← e2, he, h]

set_option maxHeartbeats 1000000 in
theorem cmp_eq (xb xo xc yb yo yc n X Y : Nat) (w : World) (hn : n + 1 < 1000000) (hX : Words w xb xo (n + 1) X) (hY : Words w yb yo (n + 1) Y) :
    Calls Tryz.prog 183 #[.slice (some ⟨xb, xo, none⟩) (n + 1) xc, .slice (some ⟨yb, yo, none⟩) (n + 1) yc] w fun e w' => e = .returned (.int .i64 (sg X Y)) ∧ ∃ d, w' = w.drewN d := by
  have hc0 : ((n : Int) + 1 == 0) = false := by simp; omega
  go_enter Tryz.func183, Tryz.ntmps183
  go_wp2_with fail
  go_loopw [7] (fun i wr => ∃ k d : Nat, k ≤ n ∧ i = .int .i64 k ∧ Aside (X / B ^ (k + 1) = Y / B ^ (k + 1)) ∧ Aside (wr = w.drewN d)) (fun i _ => (intOf i).toNat)
  case atStart => exact ⟨n, 0, by omega, rfl, ⟨by rw [Nat.div_eq_of_lt hX.lt, Nat.div_eq_of_lt hY.lt]⟩, ⟨rfl⟩⟩
  case round =>
    obtain ⟨k, d, hk, rfl, hE, hW⟩ := hrel
    have hx : wr.cell? ⟨xb, xo + k, none⟩ = some (.int .u64 (wd X k : Nat)) := by rw [hW.out]; exact hX.cell k (by omega)
    have hy : wr.cell? ⟨yb, yo + k, none⟩ = some (.int .u64 (wd Y k : Nat)) := by rw [hW.out]; exact hY.cell k (by omega)
    by_cases h0 : 0 < k
    · have g0 : decide (0 < (k : Int)) = true := by simpa using h0
      have b1 : (k : Int) < (n : Int) + 1 := by omega
      by_cases he : wd X k = wd Y k
      · have he' : ((wd X k : Nat) : Int) == (wd Y k : Nat) := by simp [he]
        have HE := Aside.mk he
        clear he
        go_wp2_with fail
        go_quiet (fail)
        obtain ⟨k, rfl⟩ : ∃ m, k = m + 1 := ⟨k - 1, by omega⟩
        go_wp2_with fail
        go_roundw
        case rel => exact ⟨k, d + nq, by omega, rfl, ⟨div_succ_eq hE.out HE.out⟩, ⟨by rw [hW.out, World.drewN_drewN]⟩⟩
        case measure => simp [intOf]
      · have he' : (((wd X k : Nat) : Int) == (wd Y k : Nat)) = false := beq_eq_false_iff_ne.2 (by omega)
        have HE := Aside.mk he
        have hct := Aside.mk (cmp_top hE.out he)
        go_wp2_with fail
        go_quiet (fail)
        by_cases hl : wd X k < wd Y k
        · have g1 : decide (((wd X k : Nat) : Int) < (wd Y k : Nat)) = true := by simpa using hl
          go_wp2_with fail
          go_quiet (fail)
          go_wp2_with fail
          go_ret
          exact ⟨by unfold sg; rw [if_pos (hct.out.2 hl)]; rfl, by rw [hW.out]; simp only [World.drewN_drewN]; exact ⟨_, rfl⟩⟩
        · have g1 : decide (((wd X k : Nat) : Int) < (wd Y k : Nat)) = false := by simp; omega
          have g2 : decide (((wd Y k : Nat) : Int) < (wd X k : Nat)) = true := by simp; omega
          go_wp2_with fail
          go_quiet (fail)
          go_wp2_with fail
          go_quiet (fail)
          go_wp2_with fail
          go_ret
          have h1 : ¬ X < Y := fun k => hl (hct.out.1 k)
          have h2 : X ≠ Y := fun k => HE.out (by rw [k])
          exact ⟨by unfold sg; rw [if_neg h1, if_neg h2]; rfl, by rw [hW.out]; simp only [World.drewN_drewN]; exact ⟨_, rfl⟩⟩
    · obtain rfl : k = 0 := by omega
      rw [Nat.add_zero] at hx hy
      have hXY : wd X 0 = wd Y 0 → X = Y := fun he => by have := div_succ_eq hE.out he; simpa using this
      have hct : wd X 0 ≠ wd Y 0 → (X < Y ↔ wd X 0 < wd Y 0) := cmp_top hE.out
      have HXY := Aside.mk hXY
      have HCT := Aside.mk hct
      clear hXY hct
      go_wp2_with fail
      go_quiet (fail)
      go_wp2_with fail
      go_quiet (fail)
      by_cases hl : wd X 0 < wd Y 0
      · have g1 : decide (((wd X 0 : Nat) : Int) < (wd Y 0 : Nat)) = true := by simpa using hl
        go_wp2_with fail
        go_ret
        exact ⟨by unfold sg; rw [if_pos ((HCT.out (by omega)).2 hl)]; rfl, by rw [hW.out]; simp only [World.drewN_drewN]; exact ⟨_, rfl⟩⟩
      · have g1 : decide (((wd X 0 : Nat) : Int) < (wd Y 0 : Nat)) = false := by simp; omega
        by_cases hg : wd Y 0 < wd X 0
        · have g2 : decide (((wd Y 0 : Nat) : Int) < (wd X 0 : Nat)) = true := by simpa using hg
          go_wp2_with fail
          go_quiet (fail)
          go_wp2_with fail
          go_ret
          have h1 : ¬ X < Y := fun k => hl ((HCT.out (by omega)).1 k)
          have h2 : X ≠ Y := fun k => by rw [k] at hg; omega
          exact ⟨by unfold sg; rw [if_neg h1, if_neg h2]; rfl, by rw [hW.out]; simp only [World.drewN_drewN]; exact ⟨_, rfl⟩⟩
        · have g2 : decide (((wd Y 0 : Nat) : Int) < (wd X 0 : Nat)) = false := by simp; omega
          go_wp2_with fail
          go_quiet (fail)
          go_wp2_with fail
          go_ret
          have h2 : X = Y := HXY.out (by omega)
          exact ⟨by unfold sg; rw [if_neg (by omega), if_pos h2]; rfl, by rw [hW.out]; simp only [World.drewN_drewN]; exact ⟨_, rfl⟩⟩

theorem cmp_any {xa ya : Option Addr} {xc yc X Y : Nat} {w : World} (hX : Nt w xa xc X) (hY : Nt w ya yc Y) :
    Calls Tryz.prog 183 #[.slice xa (nlen X) xc, .slice ya (nlen Y) yc] w fun e w' => e = .returned (.int .i64 (sg X Y)) ∧ ∃ d, w' = w.drewN d := by
  have hxl := hX.len
  have hyl := hY.len
  have hx1 := hX.reg.1
  have hy1 := hY.reg.1
  by_cases h : nlen X ≠ nlen Y ∨ nlen X = 0
  · refine (cmp_ne xa ya (nlen X) (nlen Y) xc yc w (by omega) (by omega) h).mono ?_
    rintro e w' ⟨rfl, rfl⟩
    refine ⟨?_, 0, rfl⟩
    have : sg (nlen X) (nlen Y) = sg X Y := by
      unfold sg
      by_cases h1 : nlen X < nlen Y
      · have : X < Y := by apply Nat.lt_of_not_le; intro k; have := nlen_mono k; omega
        rw [if_pos h1, if_pos this]
      · by_cases h2 : nlen X = nlen Y
        · have h3 : nlen X = 0 := by omega
          have e1 := nlen_eq_zero.1 h3
          have e2 := nlen_eq_zero.1 (h2 ▸ h3)
          rw [if_neg h1, if_pos h2, if_neg (by omega), if_pos (by omega)]
        · have : Y < X := by apply Nat.lt_of_not_le; intro k; have := nlen_mono k; omega
          rw [if_neg h1, if_neg h2, if_neg (by omega), if_neg (by omega)]
    rw [this]
  · obtain ⟨h1, h2⟩ : nlen X = nlen Y ∧ nlen X ≠ 0 := by omega
    obtain ⟨xb, xo, rfl, _, hWX⟩ := hX.pos (fun k => h2 (by rw [k]; rfl))
    obtain ⟨yb, yo, rfl, _, hWY⟩ := hY.pos (fun k => h2 (by rw [h1, k]; rfl))
    obtain ⟨n, hn⟩ : ∃ n, nlen Y = n + 1 := ⟨nlen Y - 1, by omega⟩
    rw [h1, hn] at hWX ⊢
    rw [hn] at hWY
    exact cmp_eq xb xo xc yb yo yc n X Y w (by omega) hWX hWY
end Go.Proofs.YtgilnnipephfjaaGreatDoor
