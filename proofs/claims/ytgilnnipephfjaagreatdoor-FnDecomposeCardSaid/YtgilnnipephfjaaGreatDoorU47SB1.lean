/- spec.FromBig: the number of bytes, the highest one first. -/
import Derived.Test.YtgilnnipephfjaaGreatDoorT46SA2
import Derived.Test.YtgilnnipephfjaaGreatDoorT44SN7
import Derived.Test.YtgilnnipephfjaaGreatDoorT42Spec4
set_option linter.unusedSimpArgs false
set_option linter.unusedVariables false
namespace Go.Proofs.YtgilnnipephfjaaGreatDoor
open Go.RowKit

/-- The number of bytes, the highest one first. -/
def beN (l : List UInt8) : Nat := l.foldl (fun v x => v * 256 + x.toNat) 0
theorem beN_snoc (l : List UInt8) (x : UInt8) : beN (l ++ [x]) = beN l * 256 + x.toNat := by unfold beN; rw [List.foldl_append]; rfl
theorem beN_take {l : List UInt8} {i : Nat} (h : i < l.length) : beN (l.take (i + 1)) = beN (l.take i) * 256 + (l[i]).toNat := by
  rw [List.take_succ_eq_append_getElem h, beN_snoc]
theorem beN_lt (l : List UInt8) : beN l < 256 ^ l.length := by
  have key : ∀ k, k ≤ l.length → beN (l.take k) < 256 ^ k := by
    intro k
    induction k with
    | zero => intro _; simp [beN]
    | succ k ih =>
      intro hk
      have h1 := ih (by omega)
      rw [beN_take (show k < l.length from hk), Nat.pow_succ]
      have := UInt8.toNat_lt (l[k]'(by omega))
      omega
  have := key l.length (Nat.le_refl _)
  rwa [List.take_length] at this
theorem p256_le (k : Nat) : 256 ^ k ≤ 10 ^ (3 * k) := by
  rw [Nat.pow_mul]
  exact Nat.pow_le_pow_left (by decide) k
theorem beN_len {l : List UInt8} {i : Nat} (h : i ≤ l.length) : (dlow (beN (l.take i))).length ≤ 3 * i := by
  apply dlow_le
  have h1 := beN_lt (l.take i)
  rw [List.length_take, Nat.min_eq_left h] at h1
  exact Nat.lt_of_lt_of_le h1 (p256_le i)
theorem dlow_len3 {X : Nat} (h : X ≤ 256) : (dlow X).length ≤ 3 := dlow_le (by omega)
/-- The reference's Of of a number that is not below 0. -/
theorem of_nat {w : World} (n : Nat) (hG : NG ≤ w.heap.size) (h : n ≤ 256) :
    Calls Tryz.prog 35 #[.int .i64 (n : Nat)] w fun e1 w' => ∃ a m c, e1 = .returned (.agg #[.bool false, .slice a m c]) ∧ m ≤ 3 ∧ Bf w' a m c (dlow n) ∧ Fr (fun _ _ => False) w w' := by
  have HU := Lib.hid (fun w1 (f : Fr (fun _ _ => False) w w1) => ofUint_any (w := w1) n (Nat.le_trans hG f.size) (Nat.lt_of_le_of_lt h (by decide)))
  obtain ⟨w1, hw1⟩ : ∃ x, w.alloc (.cells #[.bool false, .slice none 0 0] 45) = x := ⟨_, rfl⟩
  have F1 := Aside.mk (show Fr (fun _ _ => False) w w1 by rw [← hw1]; exact (Fr.refl _ w).alloc _)
  have HW := Aside.mk hw1
  have g0 : ¬ (n : Int) < 0 := by omega
  have hw : IntKind.u64.wrap (n : Int) = (n : Int) := by rw [IntKind.wrap_u64]; omega
  have hl := Aside.mk (dlow_len3 h)
  clear hG h
  go_enter Tryz.func35, Tryz.ntmps35
  go_wp2_with fail
  refine (HU.out _ F1.out).mono ?_
  rintro e1 w2 ⟨a, m, c, rfl, k1, k2⟩
  obtain ⟨r0, r1, r2, r3, r4⟩ := res2' HW.out.symm k2 (fun o q => q)
  have K1 := Aside.mk k1
  have K2 := Aside.mk (F1.out.trans k2)
  clear k1 k2 HU hw1
  go_wp2_with fail
  refine bodyPost_ret (v := .agg #[.bool false, .slice a m c]) (by simp [results, Tryz.results35, go_sem, r0, r1]) rfl ⟨a, m, c, rfl, ?_, ?_, ?_⟩
  · have e := K1.out.len; have := hl.out; omega
  · exact K1.out.res (by intro z q; cases q) r0 r1 _ _
  · exact (K2.out.setCell w.heap.size 0 _ (fun q => by omega)).setCell w.heap.size 1 _ (fun q => by omega)
/-- Bytes in memory that are only read. -/
structure RdB (w : World) (a : Option Addr) (n c : Nat) (l : List UInt8) : Prop where
  len : l.length = n
  le : n ≤ c
  reg : n = 0 ∨ ∃ b o, a = some ⟨b, o, none⟩ ∧ b < w.heap.size ∧ Bs w b o l
theorem RdB.fr {w w' : World} {a : Option Addr} {n c : Nat} {l : List UInt8} (h : RdB w a n c l) (f : Fr (fun _ _ => False) w w') : RdB w' a n c l := by
  refine ⟨h.len, h.le, ?_⟩
  rcases h.reg with q | ⟨b, o, e, hb, hs⟩
  · exact .inl q
  · exact .inr ⟨b, o, e, Nat.lt_of_lt_of_le hb f.size, Bs.fr f hb hs (fun _ _ q => q)⟩
theorem RdB.pos {w : World} {a : Option Addr} {n c : Nat} {l : List UInt8} (h : RdB w a n c l) (hn : 0 < n) : ∃ b o, a = some ⟨b, o, none⟩ ∧ Bs w b o l ∧ b < w.heap.size := by
  rcases h.reg with q | ⟨b, o, e, hb, hs⟩
  · omega
  · exact ⟨b, o, e, hs, hb⟩
/-- The box under way. -/
structure XB (w1 wr : World) (px : Nat) (a : Option Addr) (m c V : Nat) : Prop where
  c0 : Cl wr px 0 (.bool false)
  c1 : Cl wr px 1 (.slice a m c)
  bf : Bf wr a m c (dlow V)
  fr : Fr (fun _ _ => False) w1 wr
  lo : w1.heap.size ≤ px
theorem XB.new {w1 wr w' : World} {px : Nat} {a : Option Addr} {m c V : Nat} (h : XB w1 wr px a m c V) (f : Fr (fun _ _ => False) wr w') : XB w1 w' px a m c V :=
  ⟨h.c0.fr f (fun q => q), h.c1.fr f (fun q => q), h.bf.fr f (fun _ _ _ q => q), h.fr.trans f, h.lo⟩
theorem XB.put {w1 wr : World} {px : Nat} {a a2 : Option Addr} {m c V m2 c2 V2 : Nat} (h : XB w1 wr px a m c V) (k : Bf wr a2 m2 c2 (dlow V2)) : XB w1 ((wr.setCell ⟨px, 0, none⟩ (.bool false)).setCell ⟨px, 1, none⟩ (.slice a2 m2 c2)) px a2 m2 c2 V2 :=
  ⟨(h.c0.set _).other px 1 _ (.inr (by omega)), (h.c1.other px 0 _ (.inr (by omega))).set _, k.res (by intro z q; cases q) h.c0.cell h.c1.cell _ _, (h.fr.setCell px 0 _ (fun q => by have := h.lo; omega)).setCell px 1 _ (fun q => by have := h.lo; omega), h.lo⟩
set_option maxRecDepth 100000 in
set_option maxHeartbeats 4000000 in
theorem fromBig_any {w : World} {a : Option Addr} {nb cb : Nat} {l : List UInt8} (hG : NG ≤ w.heap.size) (h : RdB w a nb cb l) (hn : nb ≤ 1000) :
    Calls Tryz.prog 16 #[.slice a nb cb] w fun e1 w' => ∃ a2 m c2, e1 = .returned (.agg #[.bool false, .slice a2 m c2]) ∧ m ≤ 3 * nb ∧ Bf w' a2 m c2 (dlow (beN l)) ∧ Fr (fun _ _ => False) w w' := by
  have hlen := h.len
  obtain ⟨w1, hw1⟩ : ∃ x, w.alloc (.cells #[.bool false, .slice none 0 0] 45) = x := ⟨_, rfl⟩
  have f1 : Fr (fun _ _ => False) w w1 := by rw [← hw1]; exact (Fr.refl _ w).alloc _
  have hs1 : w1.heap.size = w.heap.size + 1 := by rw [← hw1]; simp
  have H0 : Hid (Calls Tryz.prog 35 #[.int .i64 0] w1 fun e1 w' => ∃ a m c, e1 = .returned (.agg #[.bool false, .slice a m c]) ∧ m ≤ 3 ∧ Bf w' a m c (dlow 0) ∧ Fr (fun _ _ => False) w1 w') := Lib.hid (of_nat (w := w1) 0 (Nat.le_trans hG f1.size) (by omega))
  have HW := Aside.mk hw1
  have F1 := Aside.mk f1
  have HB := Aside.mk h
  have HG := Aside.mk hG
  have HS := Aside.mk hs1
  clear h f1 hG hs1
  go_enter Tryz.func16, Tryz.ntmps16
  go_wp2_with fail
  refine H0.out.mono ?_
  rintro e1 w2 ⟨a0, m0, c0, rfl, hm0, k1, k2⟩
  have K1 := Aside.mk k1
  have K2 := Aside.mk k2
  obtain ⟨px, hpx⟩ : ∃ p, w2.heap.size = p := ⟨_, rfl⟩
  have hp1 : w1.heap.size ≤ px := by rw [← hpx]; exact k2.size
  clear k1 k2 H0 hw1
  go_upto_region 2 with fail
  have A2 := (Fr.refl (fun _ _ => False) w2).alloc (.cells #[.bool false, .slice a0 m0 c0] 45)
  have X0 : Aside (XB w1 (w2.alloc (.cells #[.bool false, .slice a0 m0 c0] 45)) px a0 m0 c0 (beN (l.take 0))) := ⟨by
    have e0 : (w2.alloc (.cells #[.bool false, .slice a0 m0 c0] 45)).cell? ⟨w2.heap.size, 0, none⟩ = some (.bool false) := by rw [World.cell?_alloc_new]; rfl
    have e1 : (w2.alloc (.cells #[.bool false, .slice a0 m0 c0] 45)).cell? ⟨w2.heap.size, 1, none⟩ = some (.slice a0 m0 c0) := by rw [World.cell?_alloc_new]; rfl
    have ek := kind_alloc_new w2 #[.bool false, .slice a0 m0 c0] 45 (0, 0)
    rw [hpx] at e0 e1 ek
    exact ⟨⟨e0, free_of_kind ek 0⟩, ⟨e1, free_of_kind ek 1⟩, K1.out.fr A2 (fun _ _ _ q => q), K2.out.trans A2, hp1⟩⟩
  clear A2 hpx hp1 K1 K2
  go_wp2_with fail
  go_loopw [4] (fun iv wr => ∃ (i mX cX : Nat) (aX : Option Addr), i ≤ nb ∧ iv = .int .i64 (i : Nat) ∧ Aside (XB w1 wr px aX mX cX (beN (l.take i)))) (fun iv _ => ((nb : Int) - intOf iv).toNat)
  case atStart => exact ⟨0, m0, c0, a0, Nat.zero_le _, rfl, X0⟩
  case round =>
    obtain ⟨i, mX, cX, aX, hi, rfl, hX⟩ := hrel
    clear X0
    have hml : mX ≤ 3 * i := by
      have e := hX.out.bf.len
      rw [← e]
      exact beN_len (by omega)
    have x0 := hX.out.c0.cell
    have x1 := hX.out.c1.cell
    have FX := Aside.mk hX.out.fr
    by_cases hlt : i < nb
    · obtain ⟨bb, bo, rfl, hcb, _⟩ := (HB.out.fr (F1.out.trans hX.out.fr)).pos (by omega)
      have hil : i < l.length := by omega
      have cy := hcb i hil
      have hd8 := UInt8.toNat_lt l[i]
      have hst := beN_take hil
      obtain ⟨d, hd⟩ : ∃ d, (l[i]).toNat = d := ⟨_, rfl⟩
      rw [hd] at cy hd8 hst
      have hbl := World.block_lt_of_cell? wr _ cy
      have hpl := World.block_lt_of_cell? wr _ x0
      obtain ⟨V, hV⟩ : ∃ V, beN (l.take i) = V := ⟨_, rfl⟩
      have hX' := hX
      rw [hV] at hX' hst
      have hdl : (dlow (V * 256)).length ≤ 3 * i + 3 := by
        have h1 := beN_lt (l.take i)
        rw [List.length_take, Nat.min_eq_left (by omega), hV] at h1
        apply dlow_le
        have h2 := p256_le i
        rw [Nat.pow_add]
        have : (10 : Nat) ^ 3 = 1000 := rfl
        rw [this]
        omega
      have CF : ∀ wx, Fr (fun _ _ => False) wr wx → wx.cell? ⟨px, 0, none⟩ = some (.bool false) ∧ wx.cell? ⟨px, 1, none⟩ = some (.slice aX mX cX) ∧ wx.cell? ⟨bb, bo + i, none⟩ = some (.int .u8 (d : Nat)) := fun wx f =>
        ⟨(f.cell _ _ hpl (fun q => q)).trans x0, (f.cell _ _ hpl (fun q => q)).trans x1, (f.cell _ _ hbl (fun q => q)).trans cy⟩
      have H1 : Hid (∀ wx, Fr (fun _ _ => False) wr wx → Calls Tryz.prog 35 #[.int .i64 256] wx fun e1 w2 => ∃ a1 m1 c1, e1 = .returned (.agg #[.bool false, .slice a1 m1 c1]) ∧ (w2.cell? ⟨px, 0, none⟩ = some (.bool false) ∧ w2.cell? ⟨px, 1, none⟩ = some (.slice aX mX cX) ∧ w2.cell? ⟨bb, bo + i, none⟩ = some (.int .u8 (d : Nat))) ∧
          Hid (∀ wy, Fr (fun _ _ => False) w2 wy → Calls Tryz.prog 36 #[.agg #[.bool false, .slice aX mX cX], .agg #[.bool false, .slice a1 m1 c1]] wy fun e1 w4 => ∃ a2 m2 c2, e1 = .returned (.agg #[.bool false, .slice a2 m2 c2]) ∧ (w4.cell? ⟨px, 0, none⟩ = some (.bool false) ∧ w4.cell? ⟨px, 1, none⟩ = some (.slice aX mX cX) ∧ w4.cell? ⟨bb, bo + i, none⟩ = some (.int .u8 (d : Nat))) ∧
          Hid (∀ wz, Fr (fun _ _ => False) w4 wz → Calls Tryz.prog 35 #[.int .i64 (d : Nat)] wz fun e1 w6 => ∃ a3 m3 c3, e1 = .returned (.agg #[.bool false, .slice a3 m3 c3]) ∧ (w6.cell? ⟨px, 0, none⟩ = some (.bool false) ∧ w6.cell? ⟨px, 1, none⟩ = some (.slice aX mX cX) ∧ w6.cell? ⟨bb, bo + i, none⟩ = some (.int .u8 (d : Nat))) ∧
          Hid (∀ wu, Fr (fun _ _ => False) w6 wu → Calls Tryz.prog 45 #[.agg #[.bool false, .slice a2 m2 c2], .agg #[.bool false, .slice a3 m3 c3]] wu fun e1 w8 => ∃ a4 m4 c4, e1 = .returned (.agg #[.bool false, .slice a4 m4 c4]) ∧ (w8.cell? ⟨px, 0, none⟩ = some (.bool false) ∧ w8.cell? ⟨px, 1, none⟩ = some (.slice aX mX cX) ∧ w8.cell? ⟨bb, bo + i, none⟩ = some (.int .u8 (d : Nat))) ∧ (w8.frozen? ⟨px, 0, none⟩ = false ∧ w8.frozen? ⟨px, 1, none⟩ = false) ∧
            Aside (XB w1 w8 px aX mX cX V ∧ Bf w8 a4 m4 c4 (dlow (beN (l.take (i + 1))))))))) := Lib.hid (fun wx fx => by
        refine (of_nat 256 (Nat.le_trans (Nat.le_trans HG.out F1.out.size) (FX.out.trans fx).size) (by omega)).mono ?_
        rintro e1 w2 ⟨a1, m1, c1, rfl, hm1, k1, k2⟩
        have f2 := fx.trans k2
        refine ⟨a1, m1, c1, rfl, CF _ f2, Lib.hid (fun wy fy => ?_)⟩
        have M := mul_any' (w := wy) false false (Nat.le_trans (Nat.le_trans HG.out F1.out.size) (FX.out.trans (f2.trans fy)).size) (hX'.out.bf.fr (f2.trans fy) (fun _ _ _ q => q)) (k1.fr fy (fun _ _ _ q => q)) (by omega) (by omega)
        refine M.mono ?_
        rintro e1 w4 ⟨a2, m2, c2, rfl, hm2, k3, k4⟩
        have f4 := (f2.trans fy).trans k4
        refine ⟨a2, m2, c2, rfl, CF _ f4, Lib.hid (fun wz fz => ?_)⟩
        refine (of_nat d (Nat.le_trans (Nat.le_trans HG.out F1.out.size) (FX.out.trans (f4.trans fz)).size) (by omega)).mono ?_
        rintro e1 w6 ⟨a3, m3, c3, rfl, hm3, k5, k6⟩
        have f6 := (f4.trans fz).trans k6
        refine ⟨a3, m3, c3, rfl, CF _ f6, Lib.hid (fun wu fu => ?_)⟩
        have A := add_any (w := wu) false false (Nat.le_trans (Nat.le_trans HG.out F1.out.size) (FX.out.trans (f6.trans fu)).size) (k3.fr ((fz.trans k6).trans fu) (fun _ _ _ q => q)) (k5.fr fu (fun _ _ _ q => q)) (by have e := k3.len; omega) (by omega)
        have ea : addS false (V * 256) false d = (false, V * 256 + d) := by unfold addS; rw [if_pos rfl]; rfl
        rw [ea, ← hst] at A
        refine A.mono ?_
        rintro e1 w8 ⟨a4, m4, c4, rfl, hm4, k7, k8⟩
        have f8 := (f6.trans fu).trans k8
        have X8 := hX'.out.new f8
        exact ⟨a4, m4, c4, rfl, CF _ f8, ⟨X8.c0.free, X8.c1.free⟩, ⟨X8, k7⟩⟩)
      have hw : IntKind.i64.wrap (d : Int) = (d : Int) := by rw [IntKind.wrap_i64]; omega
      have hin : (i : Int) < (nb : Int) := by omega
      clear hcb hX hX' hV hst hd hml hdl hbl hpl CF
      go_wp2_with fail
      go_region_with (first
        | (go_at_call 35; first
          | (refine (H3.out _ (by repeat first | exact Fr.refl _ _ | refine Fr.drewN ?_ _ | refine Fr.drew ?_)).mono ?_; rintro e1 w6 ⟨a3, m3, c3, rfl, ⟨s0, s1, s2⟩, H4⟩)
          | (refine (H1.out _ (by repeat first | exact Fr.refl _ _ | refine Fr.drewN ?_ _ | refine Fr.drew ?_)).mono ?_; rintro e1 w2 ⟨a1, m1, c1, rfl, ⟨q0, q1, q2⟩, H2⟩))
        | (go_at_call 36; go_must (refine (H2.out _ (by repeat first | exact Fr.refl _ _ | refine Fr.drewN ?_ _ | refine Fr.drew ?_)).mono ?_; rintro e1 w4 ⟨a2, m2, c2, rfl, ⟨r0, r1, r2⟩, H3⟩))
        | (go_at_call 45; go_must (refine (H4.out _ (by repeat first | exact Fr.refl _ _ | refine Fr.drewN ?_ _ | refine Fr.drew ?_)).mono ?_; rintro e1 w8 ⟨a4, m4, c4, rfl, ⟨t0, t1, t2⟩, ⟨t3, t4⟩, hZ⟩)))
      all_goals
        clear H1 H2 H3 H4
        go_wp2_with fail
        go_roundw
        case rel => exact ⟨i + 1, m4, c4, a4, by omega, by go_num, ⟨hZ.out.1.put hZ.out.2⟩⟩
        case measure => simp [intOf]; omega
    · have hie : i = nb := by omega
      have hin : ¬ (i : Int) < (nb : Int) := by omega
      have hV : beN (l.take i) = beN l := by rw [List.take_of_length_le (by omega)]
      have hBF := hX.out.bf
      rw [hV] at hBF
      have HBF := Aside.mk hBF
      obtain ⟨r0, r1, r2, r3, r4⟩ := res2' HW.out.symm FX.out (fun o q => q)
      clear hBF hV hX hlt
      go_wp2_with fail
      refine bodyPost_ret (v := .agg #[.bool false, .slice aX mX cX]) (by simp [results, Tryz.results16, go_sem, r0, r1]) rfl ⟨aX, mX, cX, rfl, by omega, ?_, ?_⟩
      · exact HBF.out.res (by intro z q; cases q) r0 r1 _ _
      · exact ((F1.out.trans FX.out).setCell w.heap.size 0 _ (fun q => by omega)).setCell w.heap.size 1 _ (fun q => by omega)
end Go.Proofs.YtgilnnipephfjaaGreatDoor
