/- Bytes as words: beUint32, beUint64, bigEndianWord. nat.setBytes into a new number. -/
import Derived.Test.YtgilnnipephfjaaGreatDoorU47SB1
import Derived.Lib.EndianBits
import Derived.Deep.QuietTactic
set_option linter.unusedSimpArgs false
set_option linter.unusedVariables false
namespace Go.Proofs.YtgilnnipephfjaaGreatDoor
open Go.RowKit

theorem beN_acc (l : List UInt8) : ∀ v : Nat, l.foldl (fun v x => v * 256 + x.toNat) v = v * 256 ^ l.length + beN l := by
  induction l with
  | nil => intro v; simp [beN]
  | cons x r ih =>
    intro v
    have h1 := ih (v * 256 + x.toNat)
    have h2 := ih (0 * 256 + x.toNat)
    rw [List.foldl_cons, h1]
    unfold beN at h2 ⊢
    rw [List.foldl_cons, h2, List.length_cons, Nat.pow_succ]
    simp only [Nat.zero_mul, Nat.zero_add, Nat.add_mul]
    rw [show v * 256 * 256 ^ r.length = v * (256 ^ r.length * 256) from by ac_rfl]
    omega
theorem beN_app (l m : List UInt8) : beN (l ++ m) = beN l * 256 ^ m.length + beN m := by
  have := beN_acc m (beN l)
  rw [← this]
  unfold beN
  rw [List.foldl_append]
set_option maxRecDepth 100000 in
set_option maxHeartbeats 2000000 in
theorem be32_any {w : World} {b o n c x0 x1 x2 x3 : Nat} (hn : 4 ≤ n) (c0 : w.cell? ⟨b, o, none⟩ = some (.int .u8 (x0 : Nat))) (c1 : w.cell? ⟨b, o + 1, none⟩ = some (.int .u8 (x1 : Nat))) (c2 : w.cell? ⟨b, o + 2, none⟩ = some (.int .u8 (x2 : Nat))) (c3 : w.cell? ⟨b, o + 3, none⟩ = some (.int .u8 (x3 : Nat)))
    (h0 : x0 < 256) (h1 : x1 < 256) (h2 : x2 < 256) (h3 : x3 < 256) :
    Calls Tryz.prog 223 #[.slice (some ⟨b, o, none⟩) n c] w fun e1 w' => e1 = .returned (.int .u32 ((x3 + x2 * 256 + x1 * 65536 + x0 * 16777216 : Nat) : Int)) ∧ Fr (fun _ _ => False) w w' := by
  have q0 : 0 < n := by omega
  have q1 : (1 : Int) < (n : Int) := by omega
  have q2 : (2 : Int) < (n : Int) := by omega
  have q3 : (3 : Int) < (n : Int) := by omega
  have q4 : (0 : Int) < (n : Int) := by omega
  have hv : ((x3 + x2 * 256 + x1 * 65536 + x0 * 16777216 : Nat) : Int) = (x3 : Int) + (x2 : Int) * 256 + (x1 : Int) * 65536 + (x0 : Int) * 16777216 := by omega
  have HV := Aside.mk hv
  clear hv
  go_enter Tryz.func223, Tryz.ntmps223
  go_wp2_with fail
  go_quiet (fail)
  go_wp2_with fail
  go_ret
  refine ⟨?_, (Fr.refl _ w).drewN _⟩
  simp (disch := omega) only [u32_or8, u32_or16, u32_or24]
  rw [HV.out]
  rfl
set_option maxRecDepth 100000 in
set_option maxHeartbeats 2000000 in
theorem be64_any {w : World} {b o n c x0 x1 x2 x3 x4 x5 x6 x7 : Nat} (hn : 8 ≤ n) (hc : n ≤ c) (c0 : w.cell? ⟨b, o, none⟩ = some (.int .u8 (x0 : Nat))) (c1 : w.cell? ⟨b, o + 1, none⟩ = some (.int .u8 (x1 : Nat))) (c2 : w.cell? ⟨b, o + 2, none⟩ = some (.int .u8 (x2 : Nat))) (c3 : w.cell? ⟨b, o + 3, none⟩ = some (.int .u8 (x3 : Nat)))
    (c4 : w.cell? ⟨b, o + 4, none⟩ = some (.int .u8 (x4 : Nat))) (c5 : w.cell? ⟨b, o + 5, none⟩ = some (.int .u8 (x5 : Nat))) (c6 : w.cell? ⟨b, o + 6, none⟩ = some (.int .u8 (x6 : Nat))) (c7 : w.cell? ⟨b, o + 7, none⟩ = some (.int .u8 (x7 : Nat)))
    (h0 : x0 < 256) (h1 : x1 < 256) (h2 : x2 < 256) (h3 : x3 < 256) (h4 : x4 < 256) (h5 : x5 < 256) (h6 : x6 < 256) (h7 : x7 < 256) :
    Calls Tryz.prog 222 #[.slice (some ⟨b, o, none⟩) n c] w fun e1 w' => e1 = .returned (.int .u64 (((x3 + x2 * 256 + x1 * 65536 + x0 * 16777216) * 4294967296 + (x7 + x6 * 256 + x5 * 65536 + x4 * 16777216) : Nat) : Int)) ∧ Fr (fun _ _ => False) w w' := by
  have q7 : (7 : Int) < (n : Int) := by omega
  have q4 : (4 : Int) ≤ (n : Int) := by omega
  have hl (i x : Nat) (hx : w.cell? ⟨b, o + i, none⟩ = some (.int .u8 (x : Nat))) : b < w.heap.size := World.block_lt_of_cell? w _ hx
  have hb := hl 1 x1 c1
  obtain ⟨A, hA⟩ : ∃ v, x3 + x2 * 256 + x1 * 65536 + x0 * 16777216 = v := ⟨_, rfl⟩
  obtain ⟨D, hD⟩ : ∃ v, x7 + x6 * 256 + x5 * 65536 + x4 * 16777216 = v := ⟨_, rfl⟩
  rw [hA, hD]
  have HA : Hid (∀ w1, Fr (fun _ _ => False) w w1 → Calls Tryz.prog 223 #[.slice (some ⟨b, o, none⟩) n c] w1 fun e1 w2 => e1 = .returned (.int .u32 (A : Nat)) ∧ Hid (∀ w3, Fr (fun _ _ => False) w2 w3 → Calls Tryz.prog 223 #[.slice (some ⟨b, o + 4, none⟩) (n - 4) (c - 4)] w3 fun e1 w4 => e1 = .returned (.int .u32 (D : Nat)) ∧ Aside (Fr (fun _ _ => False) w w4))) := Lib.hid (fun w1 f => by
    have k (w9 : World) (g : Fr (fun _ _ => False) w w9) (i x : Nat) (hx : w.cell? ⟨b, i, none⟩ = some (.int .u8 (x : Nat))) : w9.cell? ⟨b, i, none⟩ = some (.int .u8 (x : Nat)) := (g.cell b i hb (fun q => q)).trans hx
    have T := be32_any (w := w1) (n := n) (c := c) (by omega) (k _ f _ _ c0) (k _ f _ _ c1) (k _ f _ _ c2) (k _ f _ _ c3) h0 h1 h2 h3
    rw [hA] at T
    refine T.mono ?_
    rintro e1 w2 ⟨rfl, k1⟩
    refine ⟨rfl, Lib.hid (fun w3 f3 => ?_)⟩
    have g := (f.trans k1).trans f3
    have T2 := be32_any (w := w3) (o := o + 4) (n := n - 4) (c := c - 4) (by omega) (k _ g _ _ c4) (k _ g _ _ c5) (k _ g _ _ c6) (k _ g _ _ c7) h4 h5 h6 h7
    rw [hD] at T2
    refine T2.mono ?_
    rintro e1 w4 ⟨rfl, k2⟩
    exact ⟨rfl, ⟨g.trans k2⟩⟩)
  have hA4 : A < 4294967296 := by omega
  have hD4 : D < 4294967296 := by omega
  have w1 : IntKind.u64.wrap (A : Int) = (A : Int) := by rw [IntKind.wrap_u64]; omega
  have w2 : IntKind.u64.wrap (D : Int) = (D : Int) := by rw [IntKind.wrap_u64]; omega
  have w3 : IntKind.u64.wrap ((A : Int) * 4294967296) = (A : Int) * 4294967296 := by rw [IntKind.wrap_u64]; omega
  have HO : Aside (bits .or .u64 ((A : Int) * 4294967296) (D : Int) = (A : Int) * 4294967296 + (D : Int)) := ⟨by
    have hj := bits_join .u64 64 (by decide) (fun m h0 h1 => by rw [IntKind.wrap_u64]; omega) 32 ((A : Int) * 4294967296) (D : Int) (by omega) (by omega) (by omega) (by omega) (by omega) (Int.lt_trans (show (D : Int) < 4294967296 by omega) (by decide))
    exact hj⟩
  have HE : Aside (Ending.returned (.int .u64 (bits .or .u64 ((A : Int) * 4294967296) (D : Int))) = Ending.returned (.int .u64 ((A * 4294967296 + D : Nat) : Int))) := ⟨by
    rw [HO.out]
    congr 2⟩
  clear hA hD c0 c1 c2 c3 c4 c5 c6 hl hA4 hD4 h0 h1 h2 h3 h4 h5 h6 h7 hb
  go_enter Tryz.func222, Tryz.ntmps222
  go_wp2_with fail
  go_region_with (go_at_call 223; first
    | (refine (H2.out _ (by repeat first | exact Fr.refl _ _ | refine Fr.drewN ?_ _ | refine Fr.drew ?_)).mono ?_; rintro e1 w5 ⟨rfl, hZ⟩)
    | (refine (HA.out _ (by repeat first | exact Fr.refl _ _ | refine Fr.drewN ?_ _ | refine Fr.drew ?_)).mono ?_; rintro e1 w4 ⟨rfl, H2⟩))
  all_goals
    clear HA H2
    go_wp2_with fail
    go_ret
    refine ⟨Eq.trans ?_ HE.out, hZ.out⟩
    rfl
set_option maxRecDepth 100000 in
theorem beWord_any {w : World} {b o n c : Nat} {V : Nat} (hc : Hid (∀ w1, Fr (fun _ _ => False) w w1 → Calls Tryz.prog 222 #[.slice (some ⟨b, o, none⟩) n c] w1 fun e1 w' => e1 = .returned (.int .u64 (V : Nat)) ∧ Fr (fun _ _ => False) w1 w')) :
    Calls Tryz.prog 189 #[.slice (some ⟨b, o, none⟩) n c] w fun e1 w' => e1 = .returned (.int .u64 (V : Nat)) ∧ Fr (fun _ _ => False) w w' := by
  go_enter Tryz.func189, Tryz.ntmps189
  go_wp2_with fail
  refine (hc.out _ (Fr.refl _ _)).mono ?_
  rintro e1 w2 ⟨rfl, k⟩
  have K := Aside.mk k
  clear k hc
  go_wp2_with fail
  go_ret
  exact ⟨rfl, K.out⟩
/-- The word of eight bytes of a buffer. -/
theorem beWord_at {w : World} {b o n c i : Nat} {l : List UInt8} (hb : Bs w b o l) (hl : l.length = n) (hi : 8 ≤ i) (hin : i ≤ n) (hc : i ≤ c) :
    Calls Tryz.prog 189 #[.slice (some ⟨b, o + (i - 8), none⟩) 8 (c - (i - 8))] w fun e1 w' => e1 = .returned (.int .u64 (beN ((l.drop (i - 8)).take 8) : Nat)) ∧ Fr (fun _ _ => False) w w' := by
  have hx (j : Nat) (hj : j < 8) : ∃ x : Nat, x < 256 ∧ w.cell? ⟨b, o + (i - 8) + j, none⟩ = some (.int .u8 (x : Nat)) ∧ (l[i - 8 + j]'(by omega)).toNat = x := ⟨_, UInt8.toNat_lt _, by rw [Nat.add_assoc]; exact hb (i - 8 + j) (by omega), rfl⟩
  obtain ⟨x0, h0, c0, e0⟩ := hx 0 (by omega)
  obtain ⟨x1, h1, c1, e1⟩ := hx 1 (by omega)
  obtain ⟨x2, h2, c2, e2⟩ := hx 2 (by omega)
  obtain ⟨x3, h3, c3, e3⟩ := hx 3 (by omega)
  obtain ⟨x4, h4, c4, e4⟩ := hx 4 (by omega)
  obtain ⟨x5, h5, c5, e5⟩ := hx 5 (by omega)
  obtain ⟨x6, h6, c6, e6⟩ := hx 6 (by omega)
  obtain ⟨x7, h7, c7, e7⟩ := hx 7 (by omega)
  rw [Nat.add_zero] at c0
  have hv : beN ((l.drop (i - 8)).take 8) = (x3 + x2 * 256 + x1 * 65536 + x0 * 16777216) * 4294967296 + (x7 + x6 * 256 + x5 * 65536 + x4 * 16777216) := by
    have el : (l.drop (i - 8)).take 8 = [l[i - 8 + 0]'(by omega), l[i - 8 + 1]'(by omega), l[i - 8 + 2]'(by omega), l[i - 8 + 3]'(by omega), l[i - 8 + 4]'(by omega), l[i - 8 + 5]'(by omega), l[i - 8 + 6]'(by omega), l[i - 8 + 7]'(by omega)] := by
      apply List.ext_getElem
      · simp; omega
      · intro k k1 k2
        simp only [List.length_cons, List.length_nil] at k2
        rw [List.getElem_take, List.getElem_drop]
        rcases k with _ | _ | _ | _ | _ | _ | _ | _ | k <;> first | rfl | omega
    rw [el]
    unfold beN
    simp only [List.foldl_cons, List.foldl_nil, e0, e1, e2, e3, e4, e5, e6, e7]
    omega
  rw [hv]
  refine beWord_any (Lib.hid (fun w1 f => ?_))
  have hbl : b < w.heap.size := World.block_lt_of_cell? w _ c1
  have k (i x : Nat) (hx : w.cell? ⟨b, i, none⟩ = some (.int .u8 (x : Nat))) : w1.cell? ⟨b, i, none⟩ = some (.int .u8 (x : Nat)) := (f.cell b i hbl (fun q => q)).trans hx
  exact be64_any (w := w1) (Nat.le_refl _) (by omega) (k _ _ c0) (k _ _ c1) (k _ _ c2) (k _ _ c3) (k _ _ c4) (k _ _ c5) (k _ _ c6) (k _ _ c7) h0 h1 h2 h3 h4 h5 h6 h7
end Go.Proofs.YtgilnnipephfjaaGreatDoor
namespace Go.Proofs.YtgilnnipephfjaaGreatDoor
open Go.RowKit

structure SBW (w wr : World) (b o c k V : Nat) : Prop where
  ow : Own wr b o c
  wd : Words wr b o k V
  fr : Fr (fun _ _ => False) w wr
  lo : w.heap.size ≤ b
theorem SBW.new {w wr w' : World} {b o c k V : Nat} (h : SBW w wr b o c k V) (f : Fr (fun _ _ => False) wr w') : SBW w w' b o c k V :=
  ⟨⟨fun i hi => by
      obtain ⟨x, hx, hc⟩ := h.ow.cell i hi
      exact ⟨x, hx, (f.cell _ _ h.ow.kind.lt (fun q => q)).trans hc⟩, f.blk h.ow.kind⟩, ⟨h.wd.lt, fun i hi => (f.cell _ _ h.ow.kind.lt (fun q => q)).trans (h.wd.cell i hi)⟩, h.fr.trans f, h.lo⟩
theorem SBW.push {w wr : World} {b o c k V z : Nat} (h : SBW w wr b o c k V) (hz : z < B) (hk : k < c) : SBW w (wr.setCell ⟨b, o + k, none⟩ (.int .u64 (z : Nat))) b o c (k + 1) (V + B ^ k * z) :=
  ⟨h.ow.set _ _ hz, h.wd.push (h.ow.le (by omega)) hz, h.fr.setCell _ _ _ (fun q => by have := h.lo; omega), h.lo⟩
theorem p256_B (k : Nat) : 256 ^ (8 * k) = B ^ k := by
  rw [Nat.pow_mul]
  congr 1
theorem beN_word {l : List UInt8} {i k : Nat} (h8 : 8 ≤ i) (hi : i ≤ l.length) (hk : l.length = i + 8 * k) : beN (l.drop (i - 8)) = beN (l.drop i) + B ^ k * beN ((l.drop (i - 8)).take 8) := by
  have e : l.drop (i - 8) = (l.drop (i - 8)).take 8 ++ l.drop i := by
    have := (List.take_append_drop 8 (l.drop (i - 8))).symm
    rw [List.drop_drop, show i - 8 + 8 = i from by omega] at this
    exact this
  conv => lhs; rw [e]
  rw [beN_app, List.length_drop, show l.length - i = 8 * k from by omega, p256_B, Nat.mul_comm (B ^ k), Nat.add_comm]
theorem beN_top {l : List UInt8} {i k : Nat} (hi : i ≤ l.length) (hk : l.length = i + 8 * k) : beN l = beN (l.drop i) + B ^ k * beN (l.take i) := by
  conv => lhs; rw [← List.take_append_drop i l]
  rw [beN_app, List.length_drop, show l.length - i = 8 * k from by omega, p256_B, Nat.mul_comm (B ^ k), Nat.add_comm]
theorem beN_low {l : List UInt8} {i : Nat} (hi : i < l.length) : beN (l.drop i) = beN (l.drop (i + 1)) + 256 ^ (l.length - (i + 1)) * (l[i]).toNat := by
  rw [List.drop_eq_getElem_cons hi]
  have := beN_app [l[i]] (l.drop (i + 1))
  rw [List.singleton_append] at this
  rw [this, List.length_drop]
  have e : beN [l[i]] = (l[i]).toNat := by simp [beN]
  rw [e, Nat.mul_comm, Nat.add_comm]
theorem beN8_lt (l : List UInt8) (h : l.length ≤ 8) : beN l < B := by
  have h1 := beN_lt l
  have h2 : 256 ^ l.length ≤ 256 ^ 8 := Nat.pow_le_pow_right (by omega) h
  have h3 : (256 : Nat) ^ 8 = B := by decide
  omega
set_option maxRecDepth 100000 in
set_option maxHeartbeats 1000000 in
theorem setBytes_any {w : World} {a : Option Addr} {nb cb : Nat} {l : List UInt8} (hG : NG ≤ w.heap.size) (h : Bf w a nb cb l) (hn : nb ≤ 100000) (h0 : 0 < nb) :
    Calls Tryz.prog 148 #[.slice none 0 0, .slice a nb cb] w fun e w' => ∃ a' c', e = .returned (.slice a' (nlen (beN l)) c') ∧ Nt w' a' c' (beN l) ∧ Fr (fun _ _ => False) w w' ∧ Out w none 0 a' c' := by
  have hlen := h.len
  have hcap := h.le
  obtain ⟨m, hm⟩ : ∃ m, (nb + 7) / 8 = m := ⟨_, rfl⟩
  have hm0 : 0 < m := by omega
  have HM := Lib.hid (make_any none 0 0 m w hG (Reg.nil w) hm0 (by omega))
  obtain ⟨ab, ao, rfl, hbs, habl⟩ := h.pos h0
  have HB := Aside.mk hbs
  have hw1 : IntKind.i64.wrap ((nb : Int) + 8) = (nb : Int) + 8 := by rw [IntKind.wrap_i64]; omega
  have hw2 : IntKind.i64.wrap ((nb : Int) + 8 - 1) = (nb : Int) + 7 := by rw [IntKind.wrap_i64]; omega
  have hw3 : ((nb : Int) + 7) / 8 = (m : Int) := by omega
  have hw4 : IntKind.i64.wrap (m : Int) = (m : Int) := by rw [IntKind.wrap_i64]; omega
  have hw5 : IntKind.i64.wrap (((nb : Int) + 7) / 8) = (m : Int) := by rw [hw3, hw4]
  have HLT := Aside.mk habl
  clear h hG hbs habl
  go_enter Tryz.func148, Tryz.ntmps148
  go_wp2_with fail
  refine HM.out.mono ?_
  rintro e1 w1 ⟨b, o, c, rfl, hmc, hc9, k1, k2, k3⟩
  have hnew : w.heap.size ≤ b := by
    rcases k3 with ⟨q, _⟩ | q
    · cases q
    · exact q
  have S0 : Aside (SBW w w1 b o c 0 (beN (l.drop nb))) := ⟨⟨k1, by
    rw [List.drop_of_length_le (by omega)]
    exact ⟨by simp [beN], fun i hi => by omega⟩, k2, hnew⟩⟩
  clear HM k1 k2 k3 hw1 hw2 hw3 hw4 hw5
  go_wp2_with fail
  go_loopw [5, 6] (fun iv kv wr => ∃ i k : Nat, iv = .int .i64 (i : Nat) ∧ kv = .int .i64 (k : Nat) ∧ i ≤ nb ∧ Aside (nb = i + 8 * k) ∧ Aside (SBW w wr b o c k (beN (l.drop i)))) (fun iv _ _ => (intOf iv).toNat)
  case atStart => exact ⟨nb, 0, rfl, rfl, Nat.le_refl _, ⟨by omega⟩, S0⟩
  case round =>
    obtain ⟨i, k, rfl, rfl, hin, HIK, hS⟩ := hrel
    have hik := HIK.out
    clear S0
    by_cases h8 : 8 ≤ i
    · have hkm : k < m := by omega
      have hkc : k < c := by omega
      have HW := Lib.hid (beWord_at (HB.out.fr hS.out.fr HLT.out (fun _ _ q => q)) hlen h8 (by omega) (c := cb) (by omega))
      obtain ⟨j, hj⟩ : ∃ j, i = j + 8 := ⟨i - 8, by omega⟩
      have hj2 : i - 8 = j := by omega
      rw [hj2] at HW
      obtain ⟨y, hy, hcy⟩ := hS.out.ow.cell k hkc
      have hfy := hS.out.ow.free k hkc
      have hji : (i : Int) = (j : Int) + 8 := by omega
      have hw1 : IntKind.i64.wrap ((j : Int) + 8 - 8) = (j : Int) := by rw [IntKind.wrap_i64]; omega
      have hb1 : (j : Int) + 8 ≤ (cb : Int) := by omega
      have hkm' : (k : Int) < (m : Int) := by omega
      rw [hji]
      clear hy hik
      go_wp2_with fail
      refine HW.out.mono ?_
      rintro e1 w2 ⟨rfl, kf⟩
      have hcy2 := (kf.cell b (o + k) hS.out.ow.kind.lt (fun q => q)).trans hcy
      have hfy2 := (kf.blk hS.out.ow.kind).free (o + k)
      have hS2 := hS.out.new kf
      have hlt8 : beN ((l.drop j).take 8) < B := beN8_lt _ (by rw [List.length_take]; omega)
      have hS3 := hS2.push hlt8 hkc
      have hik := HIK.out
      have hv := beN_word (l := l) (k := k) h8 (by omega) (by omega)
      rw [hj2] at hv
      rw [← hv] at hS3
      have HS3 := Aside.mk hS3
      have hjk : Aside (nb = j + 8 * (k + 1)) := ⟨by omega⟩
      have hjn : j ≤ nb := by omega
      clear hS hS2 hS3 hcy hfy HW kf hv hlt8 hw1 hj hik HIK
      go_wp2_with fail
      go_roundw
      case rel => exact ⟨j, k + 1, by go_num, by go_num, hjn, hjk, HS3⟩
      case measure => simp [intOf]; omega
    · have hi7 : i ≤ 7 := by omega
      have h8' : ¬ (8 : Int) ≤ (i : Int) := by omega
      by_cases hi0 : i = 0
      · subst hi0
        have hmk : m = k := by omega
        have hN := norm_some b o m c (beN l) wr (by omega) hmc (by have := hS.out.wd; rw [List.drop_zero] at this; rw [hmk]; exact this)
        have HN := Lib.hid hN
        have HMK := Aside.mk hmk
        clear hN h8 h8' hi7 hik hmk HIK
        go_wp2_with fail
        refine HN.out.mono ?_
        rintro e1 w2 ⟨rfl, rfl⟩
        clear HN
        go_wp2_with fail
        go_ret
        have hWd := hS.out.wd
        rw [List.drop_zero, ← HMK.out] at hWd
        exact ⟨some ⟨b, o, none⟩, c, rfl, Nt.mk' hc9 hmc hS.out.ow hWd, hS.out.fr, .inr ⟨b, o, rfl, hnew⟩⟩
      · have hipos : (0 : Int) < (i : Int) := by omega
        have HMK : Aside (m = k + 1) := ⟨by omega⟩
        clear h8 hik
        go_wp2_with fail
        go_loopw [5, 7, 8] (fun iv dv sv wx => ∃ i2 d sh : Nat, iv = .int .i64 (i2 : Nat) ∧ dv = .int .u64 (d : Nat) ∧ sv = .int .u64 (sh : Nat) ∧ i2 ≤ i ∧ Aside (sh = 8 * (i - i2)) ∧ sh ≤ 56 ∧ Aside (d = beN ((l.take i).drop i2)) ∧ d < 2 ^ sh ∧ Aside (wx = wr)) (fun iv _ _ _ => (intOf iv).toNat)
        case atStart => exact ⟨i, 0, 0, rfl, rfl, rfl, Nat.le_refl _, ⟨by omega⟩, by omega, ⟨by rw [List.drop_of_length_le (by rw [List.length_take]; omega)]; rfl⟩, by decide, ⟨rfl⟩⟩
        case round =>
          obtain ⟨i2, d, sh, rfl, rfl, rfl, hle, hsh, hsh56, hd, hdl, hwx⟩ := hrel
          obtain rfl := hwx.out
          cases i2 with
          | zero =>
            have hik := HIK.out
            have hdt : d = beN (l.take i) := by rw [hd.out, List.drop_zero]
            have hmk := HMK.out
            have hkc : k < c := by omega
            obtain ⟨y, hy, hcy⟩ := hS.out.ow.cell k hkc
            have hfy := hS.out.ow.free k hkc
            have hdB : d < B := by rw [hdt]; exact beN8_lt _ (by rw [List.length_take]; omega)
            have hS3 := hS.out.push hdB hkc
            have htop := beN_top (l := l) (i := i) (k := k) (by omega) (by omega)
            rw [hdt, ← htop, ← hmk] at hS3
            rw [← hdt] at hS3
            have HN := Lib.hid (norm_some b o m c (beN l) _ (by omega) hmc hS3.wd)
            have HS3 := Aside.mk hS3
            have hwm : IntKind.i64.wrap ((m : Int) - 1) = (k : Int) := by rw [IntKind.wrap_i64]; omega
            have hkm : (k : Int) < (m : Int) := by omega
            clear hik hdt hmk hy hdB hS3 htop hd hdl hsh HIK HMK hS
            go_wp2_with fail
            refine HN.out.mono ?_
            rintro e1 w2 ⟨rfl, rfl⟩
            clear HN hcy hfy
            go_wp2_with fail
            go_ret
            exact ⟨some ⟨b, o, none⟩, c, rfl, Nt.mk' hc9 hmc HS3.out.ow HS3.out.wd, HS3.out.fr, .inr ⟨b, o, rfl, hnew⟩⟩
          | succ p =>
            have hpl : p < l.length := by omega
            have hx : wr.cell? ⟨ab, ao + p, none⟩ = some (.int .u8 (((l[p]).toNat : Nat) : Int)) := HB.out.fr hS.out.fr HLT.out (fun _ _ q => q) p hpl
            have hx8 := UInt8.toNat_lt l[p]
            have hlow : beN ((l.take i).drop p) = beN ((l.take i).drop (p + 1)) + 256 ^ (i - (p + 1)) * (l[p]).toNat := by
              have q := beN_low (l := l.take i) (i := p) (by rw [List.length_take]; omega)
              have e1 : (l.take i).length = i := by rw [List.length_take]; omega
              rw [List.getElem_take] at q
              rw [q]
              simp only [e1]
            rw [← hd.out] at hlow
            obtain ⟨x, hxe⟩ : ∃ x, (l[p]).toNat = x := ⟨_, rfl⟩
            rw [hxe] at hx hx8 hlow
            have hpw : (256 : Nat) ^ (i - (p + 1)) = 2 ^ sh := by
              rw [hsh.out, Nat.pow_mul]
            rw [hpw, Nat.mul_comm] at hlow
            obtain ⟨y, hy⟩ : ∃ y, x * 2 ^ sh = y := ⟨_, rfl⟩
            rw [hy] at hlow
            have hsh48 : sh ≤ 48 := by have := hsh.out; omega
            have hy0 : y ≤ 255 * 2 ^ sh := by rw [← hy]; exact Nat.mul_le_mul_right _ (by omega)
            have hp8 : (2 : Nat) ^ (sh + 8) = 2 ^ sh * 256 := by rw [Nat.pow_add]
            have hp56 : (2 : Nat) ^ sh ≤ 281474976710656 := Nat.le_trans (Nat.pow_le_pow_right (by omega) hsh48) (by decide)
            have hyb : y < 18446744073709551616 := by omega
            have hym : y % 2 ^ sh = 0 := by rw [← hy]; exact Nat.mul_mod_left _ _
            have hci : ((2 ^ sh : Nat) : Int) = (2 : Int) ^ sh := by simp
            have hw1 : IntKind.u64.wrap ((x : Int) * 2 ^ sh) = (y : Int) := by
              rw [← hci, ← Int.natCast_mul, hy, IntKind.wrap_u64]
              omega
            have hor : bits .or .u64 (d : Int) (y : Int) = ((d + y : Nat) : Int) := by
              have := bits_join_low .u64 64 (by decide) (fun n h0 h1 => by rw [IntKind.wrap_u64]; omega) sh (d : Int) (y : Int) (by omega) (by rw [← hci]; omega) (Int.lt_trans (show (d : Int) < 281474976710656 by omega) (by decide)) (by omega) (by rw [← hci]; omega) (Int.lt_of_lt_of_le (show (y : Int) < 18446744073709551616 by omega) (by decide))
              rw [this]; omega
            obtain ⟨d2, hd2⟩ : ∃ d2, d + y = d2 := ⟨_, rfl⟩
            rw [hd2] at hor hlow
            have HD2 : Aside (d2 = beN ((l.take i).drop p)) := ⟨hlow.symm⟩
            have hd2l : d2 < 2 ^ (sh + 8) := by omega
            have HD3 := Aside.mk hd2l
            have hw2 : IntKind.u64.wrap ((sh : Int) + 8) = ((sh + 8 : Nat) : Int) := by rw [IntKind.wrap_u64]; omega
            have hsh2 : Aside (sh + 8 = 8 * (i - p)) := ⟨by have := hsh.out; omega⟩
            have hpn : (p : Int) < (nb : Int) := by omega
            have hsh64 : (sh : Int) < 64 := by omega
            clear hlow hxe hpw hy hy0 hp8 hp56 hyb hym hci hd2 hd2l hd hdl hsh
            go_wp2_with fail
            go_roundw
            case rel => exact ⟨p, d2, sh + 8, by go_num, rfl, by first | rfl | rw [hw2], by omega, hsh2, by omega, HD2, HD3.out, ⟨by first | rfl | trivial⟩⟩
            case measure => simp [intOf]
theorem setBytes_nil {w : World} {a : Option Addr} {cb : Nat} :
    Calls Tryz.prog 148 #[.slice none 0 0, .slice a 0 cb] w fun e w' => e = .returned (.slice none 0 0) ∧ w' = w := by
  have HM := Lib.hid (make_zero none 0 0 w (by omega))
  have HN := Lib.hid (norm_nil 0 none w)
  go_enter Tryz.func148, Tryz.ntmps148
  go_wp2_with fail
  refine HM.out.mono ?_
  rintro e1 w1 ⟨rfl, rfl⟩
  clear HM
  go_wp2_with fail
  go_loop [5, 6] (fun iv kv => iv = .int .i64 0 ∧ kv = .int .i64 0) (fun _ _ => 0)
  case atStart => exact ⟨rfl, rfl⟩
  case round =>
    obtain ⟨rfl, rfl⟩ := hrel
    go_wp2_with fail
    refine HN.out.mono ?_
    rintro e1 w2 ⟨rfl, rfl⟩
    clear HN
    go_wp2_with fail
    go_ret
    exact ⟨rfl, rfl⟩
theorem setBytes_all {w : World} {a : Option Addr} {nb cb : Nat} {l : List UInt8} (hG : NG ≤ w.heap.size) (h : Bf w a nb cb l) (hn : nb ≤ 100000) :
    Calls Tryz.prog 148 #[.slice none 0 0, .slice a nb cb] w fun e w' => ∃ a' c', e = .returned (.slice a' (nlen (beN l)) c') ∧ Nt w' a' c' (beN l) ∧ Fr (fun _ _ => False) w w' ∧ Out w none 0 a' c' := by
  by_cases h0 : 0 < nb
  · exact setBytes_any hG h hn h0
  · obtain rfl : nb = 0 := by omega
    have e : l = [] := List.eq_nil_of_length_eq_zero h.len
    subst e
    refine setBytes_nil.mono ?_
    rintro e w' ⟨rfl, rfl⟩
    exact ⟨none, 0, rfl, Nt.zero (Reg.nil _), Fr.refl _ _, .inl ⟨rfl, rfl⟩⟩
end Go.Proofs.YtgilnnipephfjaaGreatDoor
