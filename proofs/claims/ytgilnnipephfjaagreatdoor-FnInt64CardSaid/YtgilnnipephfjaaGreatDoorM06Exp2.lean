/- Contracts of nat.go: expNN without a modulus, with an exponent of one word. expNN where no stack is given: one is made, and given up. -/
import Derived.Test.YtgilnnipephfjaaGreatDoorM05Mul3
set_option linter.unusedSimpArgs false
set_option linter.unusedVariables false
namespace Go.Proofs.YtgilnnipephfjaaGreatDoor
open Go.RowKit

theorem nlz_any (x : Nat) (w : World) (hx : x < B) :
    Calls Tryz.prog 253 #[.int .u64 x] w fun e w' => e = .returned (.int .u64 (64 - bl x : Nat)) ∧ w' = w := by
  have hb := bl_le hx
  have HL := Lib.hid (bitLen_bl hx)
  have hB : (x : Int) ≤ 18446744073709551615 := by unfold B at hx; omega
  have hw : IntKind.u64.wrap (64 - (bl x : Int)) = ((64 - bl x : Nat) : Int) := by rw [IntWalk.u64_in _ (by omega)]; omega
  go_enter Tryz.func253, Tryz.ntmps253
  go_wp2_with fail
  refine (Tryz.bits_LeadingZeros (x : Int) _ (by omega) hB).mono ?_
  rintro e w' ⟨rfl, rfl⟩
  rw [Int.toNat_natCast, HL.out]
  go_wp2
  go_ret
  exact ⟨rfl, rfl⟩

theorem shl1 (Y t : Nat) (ht : t + 1 ≤ 64) (hY : 2 ^ t ≤ Y) (hY2 : Y < 2 ^ (t + 1)) : Y * 2 ^ (64 - t) % B = (Y % 2 ^ t) * 2 ^ (64 - t) := by
  have e : Y = 2 ^ t + Y % 2 ^ t := by
    have h1 := Nat.mod_add_div Y (2 ^ t)
    have h2 : Y / 2 ^ t = 1 := by
      have := Nat.div_lt_of_lt_mul (show Y < 2 ^ t * 2 by rwa [Nat.pow_succ] at hY2)
      have h3 : 0 < Y / 2 ^ t := Nat.div_pos hY (Nat.pow_pos (by omega))
      omega
    rw [h2] at h1; omega
  have hB : B = 2 ^ t * 2 ^ (64 - t) := by rw [← Nat.pow_add, B_two]; congr 1; omega
  have hlt : (Y % 2 ^ t) * 2 ^ (64 - t) < B := by
    rw [hB]; exact Nat.mul_lt_mul_of_pos_right (Nat.mod_lt _ (Nat.pow_pos (by omega))) (Nat.pow_pos (by omega))
  conv => lhs; rw [e, Nat.add_mul, ← hB]
  rw [Nat.add_mod_left, Nat.mod_eq_of_lt hlt]
theorem pow_half (X Y t : Nat) : X ^ (Y / 2 ^ t) = X ^ (Y / 2 ^ (t + 1)) * X ^ (Y / 2 ^ (t + 1)) * (if Y / 2 ^ t % 2 = 1 then X else 1) := by
  have h1 : Y / 2 ^ (t + 1) = Y / 2 ^ t / 2 := by rw [Nat.pow_succ, Nat.div_div_eq_div_mul]
  rw [h1]
  generalize Y / 2 ^ t = m
  have := Nat.mod_add_div m 2
  rw [← Nat.pow_add]
  split
  · rw [← Nat.pow_succ]; congr 1; omega
  · rw [Nat.mul_one]; congr 1; omega
theorem and_bit (x i : Nat) : (x &&& 2 ^ i ≠ 0) ↔ x.testBit i = true := by
  constructor
  · intro h
    apply Classical.byContradiction
    intro k
    apply h
    apply Nat.eq_of_testBit_eq
    intro j
    rw [Nat.testBit_and, Nat.testBit_two_pow, Nat.zero_testBit]
    by_cases e : i = j
    · subst e; rw [Bool.not_eq_true] at k; simp [k]
    · simp [e]
  · intro h e
    have : (x &&& 2 ^ i).testBit i = true := by rw [Nat.testBit_and, Nat.testBit_two_pow_self, h]; rfl
    rw [e, Nat.zero_testBit] at this
    cases this
theorem top_bit (Y t : Nat) (ht : t + 1 ≤ 64) : ((Y % 2 ^ (t + 1)) * 2 ^ (64 - (t + 1)) &&& 2 ^ 63 ≠ 0) ↔ Y / 2 ^ t % 2 = 1 := by
  have h2 : ((Y % 2 ^ (t + 1)) * 2 ^ (64 - (t + 1))).testBit 63 = Y.testBit t := by
    rw [Nat.testBit_mul_two_pow, Nat.testBit_mod_two_pow]
    have : 63 - (64 - (t + 1)) = t := by omega
    rw [this]
    simp only [Nat.lt_succ_self, decide_true, Bool.true_and, Bool.and_eq_right_iff_imp, decide_eq_true_eq]
    omega
  rw [and_bit, h2, Nat.testBit_eq_decide_div_mod_eq]
  simp
theorem next_bits (Y t : Nat) (ht : t + 1 ≤ 64) : (Y % 2 ^ (t + 1)) * 2 ^ (64 - (t + 1)) * 2 % B = (Y % 2 ^ t) * 2 ^ (64 - t) := by
  have e1 : 2 ^ (64 - t) = 2 ^ (64 - (t + 1)) * 2 := by rw [← Nat.pow_succ]; congr 1; omega
  rw [Nat.mul_assoc, ← e1]
  have hB : B = 2 ^ t * 2 ^ (64 - t) := by rw [← Nat.pow_add, B_two]; congr 1; omega
  rw [hB, Nat.mul_mod_mul_right, Nat.pow_succ, Nat.mod_mul_right_mod]

def Disj (a : Option Addr) (c : Nat) (a' : Option Addr) (c' : Nat) : Prop := ∀ b o, foot a c b o → ¬ foot a' c' b o
theorem Disj.symm {a a' : Option Addr} {c c' : Nat} (h : Disj a c a' c') : Disj a' c' a c := fun b o h1 h2 => h b o h2 h1
theorem foot_none (c x y : Nat) : ¬ foot none c x y := by rintro ⟨b, o, e, _⟩; cases e
/-- Where a number of this call lies: in the given place, in a new one, or nowhere. -/
def OutN (w : World) (a : Option Addr) (c : Nat) (a' : Option Addr) (c' : Nat) : Prop := Out w a c a' c' ∨ (a' = none ∧ c' = 0)
theorem OutN.foot {w : World} {a a' : Option Addr} {c c' : Nat} (h : OutN w a c a' c') (b o : Nat) (hb : b < w.heap.size) (hf : foot a' c' b o) : foot a c b o := by
  rcases h with (⟨rfl, rfl⟩ | ⟨b', o', rfl, hn⟩) | ⟨rfl, rfl⟩
  · exact hf
  · rw [foot_some] at hf; omega
  · exact (foot_zero _ _ _ hf).elim
theorem OutN.step {w wr : World} {a azz a' : Option Addr} {c czz c' : Nat} (h : OutN w a c azz czz) (hs : w.heap.size ≤ wr.heap.size) (ho : Out wr azz czz a' c') : OutN w a c a' c' := by
  rcases ho with ⟨rfl, rfl⟩ | ⟨b', o', rfl, hn⟩
  · exact h
  · exact .inl (.inr ⟨b', o', rfl, by omega⟩)
theorem OutN.out {w : World} {a : Option Addr} {c b o c' : Nat} (h : OutN w a c (some ⟨b, o, none⟩) c') : Out w a c (some ⟨b, o, none⟩) c' := by
  rcases h with h | ⟨k, _⟩
  · exact h
  · cases k

/-- Two numbers of this call, and one beside them. -/
structure Two (w wr : World) (a : Option Addr) (zc : Nat) (x : Option Addr) (xc X : Nat) (az : Option Addr) (cz V : Nat) (azz : Option Addr) (zzl czz : Nat) : Prop where
  gl : Gl wr
  nt : Nt wr az cz V
  reg : Reg wr azz czz
  le : zzl ≤ czz
  nx : Nt wr x xc X
  fr : Fr (foot a zc) w wr
  d1 : Disj az cz azz czz
  d2 : Disj az cz x xc
  d3 : Disj azz czz x xc
  o1 : OutN w a zc az cz
  o2 : OutN w a zc azz czz
theorem Two.step {w wr w2 : World} {a x az azz a' : Option Addr} {zc xc X cz V zzl czz c' V' : Nat} (h : Two w wr a zc x xc X az cz V azz zzl czz)
    (hn : Nt w2 a' c' V') (hf : Fr (foot azz czz) wr w2) (ho : Out wr azz czz a' c') : Two w w2 a zc x xc X a' c' V' az (nlen V) cz where
  gl := h.gl.fr hf h.reg.lo
  nt := hn
  reg := hf.reg h.nt.reg h.d1
  le := h.nt.len
  nx := hf.nt h.nx h.d3.symm
  fr := h.fr.trans' hf (fun _ _ _ k => k) (fun b o hb k => h.o2.foot b o hb k)
  d1 := ho.apart h.nt.reg.lt h.d1.symm
  d2 := ho.apart h.nx.reg.lt h.d3
  d3 := h.d2
  o1 := h.o2.step h.fr.size ho
  o2 := h.o1
theorem Two.drewN {w wr : World} {a x az azz : Option Addr} {zc xc X cz V zzl czz : Nat} (h : Two w wr a zc x xc X az cz V azz zzl czz) (d : Nat) : Two w (wr.drewN d) a zc x xc X az cz V azz zzl czz where
  gl := h.gl.drewN d
  nt := h.nt.drewN d
  reg := h.reg.drewN d
  le := h.le
  nx := h.nx.drewN d
  fr := h.fr.drewN d
  d1 := h.d1
  d2 := h.d2
  d3 := h.d3
  o1 := h.o1
  o2 := h.o2

theorem and_top (v : Nat) (h : v < B) : bits .and .u64 (v : Int) 9223372036854775808 = ((v &&& 9223372036854775808 : Nat) : Int) := by
  have := u64_and_nat v 9223372036854775808 h (by omega)
  exact this
theorem two63 : (9223372036854775808 : Nat) = 2 ^ 63 := by decide
theorem bit_on {v Y r : Nat} (hv : v = (Y % 2 ^ (r + 1)) * 2 ^ (64 - (r + 1))) (hr : r + 1 ≤ 64) (hlt : v < B) (hb : Y / 2 ^ r % 2 = 1) : (bits .and .u64 (v : Int) 9223372036854775808 != 0) = true := by
  rw [and_top v hlt, two63, hv]
  have := (top_bit Y r hr).2 hb
  simpa using this
theorem bit_off {v Y r : Nat} (hv : v = (Y % 2 ^ (r + 1)) * 2 ^ (64 - (r + 1))) (hr : r + 1 ≤ 64) (hlt : v < B) (hb : ¬ Y / 2 ^ r % 2 = 1) : (bits .and .u64 (v : Int) 9223372036854775808 != 0) = false := by
  rw [and_top v hlt, two63, hv]
  have : (Y % 2 ^ (r + 1)) * 2 ^ (64 - (r + 1)) &&& 2 ^ 63 = 0 := by apply Classical.byContradiction; intro k; exact hb ((top_bit Y r hr).1 k)
  rw [this]; rfl
theorem shl_next {v Y r : Nat} (hv : v = (Y % 2 ^ (r + 1)) * 2 ^ (64 - (r + 1))) (hr : r + 1 ≤ 64) : IntKind.u64.wrap ((v : Int) * 2) = (((Y % 2 ^ r) * 2 ^ (64 - r) : Nat) : Int) := by
  rw [← next_bits Y r hr, ← hv, IntKind.wrap_u64]
  simp [B]
theorem nlen_mul (x y : Nat) : nlen (x * y) ≤ nlen x + nlen y := by
  apply nlen_le
  rw [Nat.pow_add]
  exact Nat.mul_lt_mul'' (nlen_lt x) (nlen_lt y)
theorem pow_step (X Y r : Nat) (V : Nat) (hV : V = X ^ (Y / 2 ^ (r + 1))) : V * V * (if Y / 2 ^ r % 2 = 1 then X else 1) = X ^ (Y / 2 ^ r) := by rw [hV]; exact (pow_half X Y r).symm
theorem nlen_part {X Y r : Nat} (hX : 1 < X) (h12 : nlen (X ^ (Y / 2)) < 12) : nlen (X ^ (Y / 2 ^ (r + 1))) < 12 := by
  refine Nat.lt_of_le_of_lt (nlen_mono (Nat.pow_le_pow_right (by omega) ?_)) h12
  rw [Nat.pow_succ, Nat.mul_comm, ← Nat.div_div_eq_div_mul]
  exact Nat.div_le_self _ _
theorem v_lt (Y r : Nat) (h : r ≤ 64) : (Y % 2 ^ r) * 2 ^ (64 - r) < B := by
  have hB : B = 2 ^ r * 2 ^ (64 - r) := by rw [← Nat.pow_add, B_two]; congr 1; omega
  rw [hB]; exact Nat.mul_lt_mul_of_pos_right (Nat.mod_lt _ (Nat.pow_pos (by omega))) (Nat.pow_pos (by omega))

set_option maxRecDepth 1000000 in
set_option maxHeartbeats 4000000 in
theorem expNN_stk {a xa ya : Option Addr} {zl zc xc yc X Y : Nat} {w : World} (sb so : Nat) (g : Gl w) (hz : Reg w a zc) (hzl : zl ≤ zc) (hX : Nt w xa xc X) (hY : Nt w ya yc Y) (slow : Bool)
    (hX1 : 1 < X) (hXB : X < B) (hY1 : 1 < Y) (hYB : Y < B) (h12 : nlen (X ^ (Y / 2)) < 12) (hax : ∀ b o, foot a zc b o → ¬ foot xa xc b o) (hay : ∀ b o, foot a zc b o → ¬ foot ya yc b o)
    (hnx : aliasB a zc xa xc = false) (hny : aliasB a zc ya yc = false) :
    Calls Tryz.prog 268 #[.slice a zl zc, .pointer (some ⟨sb, so, none⟩), .slice xa (nlen X) xc, .slice ya (nlen Y) yc, .slice none 0 0, .bool slow] w fun e w' => ∃ a' c', e = .returned (.slice a' (nlen (X ^ Y)) c') ∧ Nt w' a' c' (X ^ Y) ∧
      Fr (foot a zc) w w' ∧ Out w a zc a' c' := by
  obtain ⟨xb, xo, rfl, hxo, hWX⟩ := hX.pos (by omega)
  obtain ⟨yb, yo, rfl, hyo, hWY⟩ := hY.pos (by omega)
  have hy1 : nlen Y = 1 := nlen_word (by omega) hYB
  have hx1 : nlen X = 1 := nlen_word (by omega) hXB
  have hxl := hX.len
  have hyl := hY.len
  have hcy := hWY.cell 0 (by omega)
  rw [wd_word hYB, Nat.add_zero] at hcy
  have hcx := hWX.cell 0 (by omega)
  rw [wd_word hXB, Nat.add_zero] at hcx
  have HWX := Aside.mk hWX
  rw [hx1] at hxl ⊢
  rw [hy1] at hyl ⊢
  have q1 : ((X : Int) == 1) = false := by simp; omega
  have q2 : ((Y : Int) == 1) = false := by simp; omega
  have HX := Aside.mk hX
  have HY := Aside.mk hY
  have HZ := Aside.mk hz
  have HX1 := Aside.mk hx1
  have Hset := Lib.hid (fun d => set_any (a := a) (zl := zl) (xc := xc) (w := w.drewN d) (g.drewN d).size (hz.drewN d) (hX.drewN d).words (by omega))
  have HG := Aside.mk g
  have HAX := Aside.mk hax
  have HAY := Aside.mk hay
  clear hX hY hz hy1 hWY hx1 hWX g hax hay
  obtain ⟨t0, ht0⟩ : ∃ t, bl Y = t + 1 := ⟨bl Y - 1, by have := bl_pos (show Y ≠ 0 by omega); omega⟩
  have hT := bl_le hYB
  have hT1 : 1 ≤ t0 := by
    apply Nat.le_of_not_lt; intro k
    have := (lt_two_iff Y 1).2 (by omega)
    omega
  have hYt : 2 ^ t0 ≤ Y ∧ Y < 2 ^ (t0 + 1) := ⟨by apply Nat.le_of_not_lt; intro k; have := (lt_two_iff Y t0).1 k; omega, (lt_two_iff Y _).2 (by omega)⟩
  have HYt := Aside.mk hYt
  clear hYt
  rw [ht0] at hT
  have HT := Aside.mk ht0
  clear ht0
  go_enter Tryz.func268, Tryz.ntmps268
  go_wp2_with fail
  refine (alias_any hzl hxl HZ.out HX.out.reg).mono ?_
  rw [hnx]
  rintro e w' ⟨rfl, d, rfl⟩
  go_wp2_with fail
  refine (alias_any hzl hyl (HZ.out.drewN d) (HY.out.reg.drewN d)).mono ?_
  rw [hny]
  rintro e w' ⟨rfl, d2, rfl⟩
  rw [World.drewN_drewN]
  go_wp2_with fail
  have K := Lib.hid (Hset.out (d + d2))
  rw [HX1.out] at K
  refine K.out.mono ?_
  clear K Hset
  rintro e w1 ⟨az, cz, rfl, hcz, hrz, hwz, hfz, hoz⟩
  have hcy1 : w1.cell? ⟨yb, yo, none⟩ = some (.int .u64 (Y : Nat)) := by
    refine (hfz.cell yb yo hyo.kind.lt (fun k => HAY.out _ _ k ?_)).trans hcy
    rw [foot_some]; exact ⟨rfl, by omega, by omega⟩
  go_wp2_with fail
  refine (nlz_any Y _ hYB).mono ?_
  rintro e w' ⟨rfl, rfl⟩
  obtain ⟨s, hs⟩ : ∃ s, 64 - (t0 + 1) = s := ⟨_, rfl⟩
  rw [HT.out, hs]
  have hs2 : s + t0 = 63 := by omega
  have HS := Aside.mk hs2
  have hs63 : s < 63 := by omega
  have hv0 : IntKind.u64.wrap ((Y : Int) * 2 ^ (s + 1)) = (((Y % 2 ^ t0) * 2 ^ (64 - t0) : Nat) : Int) := by
    rw [← shl1 Y t0 hT HYt.out.1 HYt.out.2, show s + 1 = 64 - t0 from by omega]
    rw [IntKind.wrap_u64]
    simp [B]
  have hw0 : (64 : Int) - ((s : Int) + 1) = t0 := by omega
  clear hs hs2
  generalize hv0' : (Y % 2 ^ t0) * 2 ^ (64 - t0) = v0 at hv0
  have HV0 := Aside.mk hv0'
  clear hv0'
  go_wp2_with fail
  have T0 : Two w w' a zc (some ⟨xb, xo, none⟩) xc X az cz X none 0 0 := by
    have hfz' : Fr (foot a zc) w w' := ((Fr.refl _ w).drewN _).trans hfz
    exact {
      gl := HG.out.fr hfz' HZ.out.lo
      nt := ⟨hrz, by rw [HX1.out]; exact hcz, by rw [HX1.out]; exact hwz⟩
      reg := Reg.nil _
      le := Nat.le_refl _
      nx := hfz'.nt HX.out (fun b o k q => HAX.out b o q k)
      fr := hfz'
      d1 := fun _ _ _ => foot_none _ _ _
      d2 := Out.apart hoz HX.out.reg.lt HAX.out
      d3 := fun _ _ k => (foot_none _ _ _ k).elim
      o1 := .inl hoz
      o2 := .inr ⟨rfl, rfl⟩ }
  go_loopw [0, 15, 19, 21] (fun z v zz j wr => ∃ (k r : Nat) (az : Option Addr) (cz v1 : Nat) (azz : Option Addr) (zzl czz V n : Nat), k + r = t0 ∧ j = .int .i64 k ∧ z = .slice az n cz ∧ v = .int .u64 v1 ∧ zz = .slice azz zzl czz ∧
      Aside (V = X ^ (Y / 2 ^ r)) ∧ Aside (n = nlen V) ∧ Aside (v1 = (Y % 2 ^ r) * 2 ^ (64 - r)) ∧ Aside (Two w wr a zc (some ⟨xb, xo, none⟩) xc X az cz V azz zzl czz)) (fun _ _ _ j _ => t0 - (intOf j).toNat)
  case atStart =>
    refine ⟨0, t0, az, cz, v0, none, 0, 0, X, 1, by omega, rfl, rfl, rfl, rfl, ⟨?_⟩, ⟨HX1.out.symm⟩, ⟨HV0.out.symm⟩, ⟨T0⟩⟩
    have := HYt.out
    rw [show Y / 2 ^ t0 = 1 from by
      have h1 := Nat.div_lt_of_lt_mul (show Y < 2 ^ t0 * 2 by rw [← Nat.pow_succ]; exact this.2)
      have h2 := Nat.div_pos this.1 (Nat.pow_pos (by omega) : 0 < 2 ^ t0)
      omega, Nat.pow_one]
  case round =>
    obtain ⟨k, r, az, cz, v1, azz, zzl, czz, V, n, hkr, rfl, rfl, rfl, rfl, hV, hn, hv1, hI⟩ := hrel
    by_cases hlt : k < t0
    · obtain ⟨r, rfl⟩ : ∃ m, r = m + 1 := ⟨r - 1, by omega⟩
      have hn12 : nlen V < 12 := by rw [hV.out]; exact nlen_part hX1 h12
      have hsq := Lib.hid (sqr_any (.pointer (some ⟨sb, so, none⟩)) hI.out.gl hI.out.reg hI.out.le hI.out.nt hn12 (.inr hI.out.d1.symm))
      rw [← hn.out] at hsq
      have hvlt : v1 < B := by rw [hv1.out]; exact v_lt _ _ (by omega)
      have hshl := shl_next hv1.out (by omega)
      obtain ⟨v2, hv2⟩ : ∃ v2, (Y % 2 ^ r) * 2 ^ (64 - r) = v2 := ⟨_, rfl⟩
      rw [hv2] at hshl
      have HV2 := Aside.mk hv2
      clear hv2
      by_cases hb : Y / 2 ^ r % 2 = 1
      · have hne := bit_on hv1.out (by omega) hvlt hb
        have hb' := Aside.mk hb
        clear hb
        go_wp2_with fail
        refine hsq.out.mono ?_
        clear hsq
        rintro e w2 ⟨a', c', rfl, s1, s2, s3⟩
        have hI2 := Aside.mk (hI.out.step s1 s2 s3)
        have hvv : nlen (V * V) < 1000 := by have := nlen_mul V V; omega
        have hmu := Lib.hid (mul_any (.pointer (some ⟨sb, so, none⟩)) hI2.out.gl hI2.out.reg hI2.out.le hI2.out.nt hI2.out.nx hvv (by rw [HX1.out]; omega) (.inr (by rw [HX1.out]; omega)) (.inr hI2.out.d1.symm) (.inr hI2.out.d3))
        rw [← hn.out, HX1.out] at hmu
        clear s1 s2 s3
        go_wp2_with fail
        refine hmu.out.mono ?_
        clear hmu
        rintro e w3 ⟨a2, c2, rfl, m1, m2, m3⟩
        have hI3 := Aside.mk (hI2.out.step m1 m2 m3)
        have hV3 : Aside (V * V * X = X ^ (Y / 2 ^ r)) := ⟨by have := pow_step X Y r V hV.out; rwa [if_pos hb'.out] at this⟩
        clear m1 m2 m3 hI2
        go_wp2_with fail
        go_roundw
        case rel => exact ⟨k + 1, r, a2, c2, v2, a', nlen (V * V), c', V * V * X, _, by omega, by go_num, rfl, rfl, rfl, hV3, ⟨rfl⟩, ⟨HV2.out.symm⟩, hI3⟩
        case measure => simp [intOf]; omega
      · have hne := bit_off hv1.out (by omega) hvlt hb
        have hb' := Aside.mk hb
        clear hb
        go_wp2_with fail
        refine hsq.out.mono ?_
        clear hsq
        rintro e w2 ⟨a', c', rfl, s1, s2, s3⟩
        have hI2 := Aside.mk (hI.out.step s1 s2 s3)
        have hV3 : Aside (V * V = X ^ (Y / 2 ^ r)) := ⟨by have := pow_step X Y r V hV.out; rwa [if_neg hb'.out, Nat.mul_one] at this⟩
        clear s1 s2 s3
        go_wp2_with fail
        go_roundw
        case rel => exact ⟨k + 1, r, a', c', v2, az, n, cz, V * V, _, by omega, by go_num, rfl, rfl, rfl, hV3, ⟨rfl⟩, ⟨HV2.out.symm⟩, by rw [hn.out]; exact hI2⟩
        case measure => simp [intOf]; omega
    · obtain rfl : r = 0 := by omega
      obtain rfl : k = t0 := by omega
      have hV1 : V = X ^ Y := by have := hV.out; rwa [Nat.pow_zero, Nat.div_one] at this
      have hVpos : V ≠ 0 := by rw [hV1]; have := Nat.pow_pos (n := Y) (show 0 < X by omega); omega
      obtain ⟨b, o, e, hb, hw⟩ := hI.out.nt.pos hVpos
      subst e
      go_wp2_with fail
      refine wp_loop_once ?_
      go_wp2_with fail
      have hn1000 : nlen V < 1000000 := by have := hI.out.nt.len; have := hI.out.nt.reg.1; omega
      have Hnorm := Lib.hid (norm_some b o (nlen V) cz V wr hn1000 hI.out.nt.len hw)
      rw [← hn.out] at Hnorm
      refine Hnorm.out.mono ?_
      rintro e w' ⟨rfl, rfl⟩
      go_wp2_with fail
      go_ret
      exact ⟨some ⟨b, o, none⟩, cz, by rw [← hV1, ← hn.out]; rfl, by rw [← hV1]; exact hI.out.nt, hI.out.fr, hI.out.o1.out⟩
end Go.Proofs.YtgilnnipephfjaaGreatDoor
namespace Go.Proofs.YtgilnnipephfjaaGreatDoor
open Go.RowKit

theorem getStack_any (w : World) :
    Calls Tryz.prog 193 #[] w fun e w' => e = .returned (.pointer (some ⟨w.heap.size, 0, none⟩)) ∧ w' = w.alloc (.cells #[.pointer none] 258) := by
  go_enter Tryz.func193, Tryz.ntmps193
  go_wp2_with fail
  go_ret
  exact ⟨rfl, rfl⟩

/-- The stack given up, as a deferred call, where nothing was laid on it. -/
theorem free_d (sb so : Nat) (u : FrameMode) (w : World) (hc : w.cell? ⟨sb, so, none⟩ = some (.pointer none)) :
    CallsD Tryz.prog 194 #[.pointer (some ⟨sb, so, none⟩)] u w fun e u' w' => u' = u ∧ e = .returned (.tuple #[]) ∧ w' = w := by
  go_enter_d Tryz.func194, Tryz.ntmps194
  go_wp2_with fail
  go_end0
  exact ⟨rfl, rfl⟩

set_option maxRecDepth 1000000 in
set_option maxHeartbeats 4000000 in
theorem expNN_nil {a xa ya : Option Addr} {zl zc xc yc X Y : Nat} {w : World} (g : Gl w) (hz : Reg w a zc) (hzl : zl ≤ zc) (hX : Nt w xa xc X) (hY : Nt w ya yc Y) (slow : Bool)
    (hX1 : 1 < X) (hXB : X < B) (hY1 : 1 < Y) (hYB : Y < B) (h12 : nlen (X ^ (Y / 2)) < 12) (hax : ∀ b o, foot a zc b o → ¬ foot xa xc b o) (hay : ∀ b o, foot a zc b o → ¬ foot ya yc b o)
    (hnx : aliasB a zc xa xc = false) (hny : aliasB a zc ya yc = false) :
    Calls Tryz.prog 268 #[.slice a zl zc, .pointer none, .slice xa (nlen X) xc, .slice ya (nlen Y) yc, .slice none 0 0, .bool slow] w fun e w' => ∃ a' c', e = .returned (.slice a' (nlen (X ^ Y)) c') ∧ Nt w' a' c' (X ^ Y) ∧
      Fr (foot a zc) w w' ∧ Out w a zc a' c' := by
  obtain ⟨xb, xo, rfl, hxo, hWX⟩ := hX.pos (by omega)
  obtain ⟨yb, yo, rfl, hyo, hWY⟩ := hY.pos (by omega)
  have hy1 : nlen Y = 1 := nlen_word (by omega) hYB
  have hx1 : nlen X = 1 := nlen_word (by omega) hXB
  have hxl := hX.len
  have hyl := hY.len
  have hcy := hWY.cell 0 (by omega)
  rw [wd_word hYB, Nat.add_zero] at hcy
  have hcx := hWX.cell 0 (by omega)
  rw [wd_word hXB, Nat.add_zero] at hcx
  have HWX := Aside.mk hWX
  rw [hx1] at hxl ⊢
  rw [hy1] at hyl ⊢
  have q1 : ((X : Int) == 1) = false := by simp; omega
  have q2 : ((Y : Int) == 1) = false := by simp; omega
  have HX := Aside.mk hX
  have HY := Aside.mk hY
  have HZ := Aside.mk hz
  have HX1 := Aside.mk hx1
  have Hset := Lib.hid (fun d => by
    have f := (Fr.refl (fun _ _ => False) (w.drewN d)).alloc (.cells #[.pointer none] 258)
    exact set_any (a := a) (zl := zl) (xc := xc) (w := (w.drewN d).alloc (.cells #[.pointer none] 258)) (Nat.le_trans g.size f.size) (f.reg (hz.drewN d) (fun _ _ _ k => k)) (f.nt (hX.drewN d) (fun _ _ _ k => k)).words (by omega))
  obtain ⟨sb, hsb⟩ : ∃ n, w.heap.size = n := ⟨_, rfl⟩
  have HSB := Aside.mk hsb
  clear hsb
  have HG := Aside.mk g
  have HAX := Aside.mk hax
  have HAY := Aside.mk hay
  clear hX hY hz hy1 hWY hx1 hWX g hax hay
  obtain ⟨t0, ht0⟩ : ∃ t, bl Y = t + 1 := ⟨bl Y - 1, by have := bl_pos (show Y ≠ 0 by omega); omega⟩
  have hT := bl_le hYB
  have hT1 : 1 ≤ t0 := by
    apply Nat.le_of_not_lt; intro k
    have := (lt_two_iff Y 1).2 (by omega)
    omega
  have hYt : 2 ^ t0 ≤ Y ∧ Y < 2 ^ (t0 + 1) := ⟨by apply Nat.le_of_not_lt; intro k; have := (lt_two_iff Y t0).1 k; omega, (lt_two_iff Y _).2 (by omega)⟩
  have HYt := Aside.mk hYt
  clear hYt
  rw [ht0] at hT
  have HT := Aside.mk ht0
  clear ht0
  have hya : ∀ d, ((w.drewN d).alloc (.cells #[.pointer none] 258)).cell? ⟨yb, yo, none⟩ = some (.int .u64 (Y : Nat)) := fun d => (World.cell?_alloc_lt _ _ _ (show yb < _ from hyo.kind.lt)).trans hcy
  go_enter_defers Tryz.func268, Tryz.ntmps268
  go_wp2_with fail
  refine (alias_any hzl hxl HZ.out HX.out.reg).mono ?_
  rw [hnx]
  rintro e w' ⟨rfl, d, rfl⟩
  go_wp2_with fail
  refine (alias_any hzl hyl (HZ.out.drewN d) (HY.out.reg.drewN d)).mono ?_
  rw [hny]
  rintro e w' ⟨rfl, d2, rfl⟩
  rw [World.drewN_drewN]
  go_wp2_with (go_at_call 193; refine (getStack_any _).mono ?_; rintro e w' ⟨rfl, rfl⟩)
  have hdd : (w.drewN (d + d2)).heap.size = sb := HSB.out
  try simp only [hdd]
  try simp only [HSB.out]
  have K := Lib.hid (Hset.out (d + d2))
  rw [HX1.out] at K
  refine K.out.mono ?_
  clear K Hset
  rintro e w1 ⟨az, cz, rfl, hcz, hrz, hwz, hfz, hoz⟩
  have hcy1 : w1.cell? ⟨yb, yo, none⟩ = some (.int .u64 (Y : Nat)) := by
    refine ((hfz.cell yb yo (by have := hyo.kind.lt; simp; omega) (fun k => HAY.out _ _ k ?_)).trans (World.cell?_alloc_lt _ _ _ (show yb < _ from hyo.kind.lt))).trans hcy
    rw [foot_some]; exact ⟨rfl, by omega, by omega⟩
  go_wp2_with fail
  refine (nlz_any Y _ hYB).mono ?_
  rintro e w' ⟨rfl, rfl⟩
  obtain ⟨s, hs⟩ : ∃ s, 64 - (t0 + 1) = s := ⟨_, rfl⟩
  rw [HT.out, hs]
  have hs2 : s + t0 = 63 := by omega
  have HS := Aside.mk hs2
  have hs63 : s < 63 := by omega
  have hv0 : IntKind.u64.wrap ((Y : Int) * 2 ^ (s + 1)) = (((Y % 2 ^ t0) * 2 ^ (64 - t0) : Nat) : Int) := by
    rw [← shl1 Y t0 hT HYt.out.1 HYt.out.2, show s + 1 = 64 - t0 from by omega]
    rw [IntKind.wrap_u64]
    simp [B]
  have hw0 : (64 : Int) - ((s : Int) + 1) = t0 := by omega
  clear hs hs2
  generalize hv0' : (Y % 2 ^ t0) * 2 ^ (64 - t0) = v0 at hv0
  have HV0 := Aside.mk hv0'
  clear hv0'
  go_wp2_with fail
  obtain ⟨ws, hws⟩ : ∃ x, (w.drewN (d + d2)).alloc (.cells #[.pointer none] 258) = x := ⟨_, rfl⟩
  rw [hws] at hfz hoz
  have hfs : Fr (foot a zc) w ws := by rw [← hws]; exact ((Fr.refl _ w).drewN _).alloc _
  have hstk : ws.cell? ⟨sb, 0, none⟩ = some (.pointer none) := by rw [← hws, ← HSB.out]; exact World.cell?_alloc_new (w.drewN (d + d2)) _ _ _
  clear hws
  have HSTK := Aside.mk hstk
  clear hstk
  have T0 : Two ws w' a zc (some ⟨xb, xo, none⟩) xc X az cz X none 0 0 := by
    have hfz' : Fr (foot a zc) w w' := hfs.trans hfz
    exact {
      gl := HG.out.fr hfz' HZ.out.lo
      nt := ⟨hrz, by rw [HX1.out]; exact hcz, by rw [HX1.out]; exact hwz⟩
      reg := Reg.nil _
      le := Nat.le_refl _
      nx := hfz'.nt HX.out (fun b o k q => HAX.out b o q k)
      fr := hfz
      d1 := fun _ _ _ => foot_none _ _ _
      d2 := Out.apart hoz (fun b o k => Nat.lt_of_lt_of_le (HX.out.reg.lt b o k) hfs.size) HAX.out
      d3 := fun _ _ k => (foot_none _ _ _ k).elim
      o1 := .inl hoz
      o2 := .inr ⟨rfl, rfl⟩ }
  go_loopw [0, 15, 19, 21] (fun z v zz j wr => ∃ (k r : Nat) (az : Option Addr) (cz v1 : Nat) (azz : Option Addr) (zzl czz V n : Nat), k + r = t0 ∧ j = .int .i64 k ∧ z = .slice az n cz ∧ v = .int .u64 v1 ∧ zz = .slice azz zzl czz ∧
      Aside (V = X ^ (Y / 2 ^ r)) ∧ Aside (n = nlen V) ∧ Aside (v1 = (Y % 2 ^ r) * 2 ^ (64 - r)) ∧ Aside (Two ws wr a zc (some ⟨xb, xo, none⟩) xc X az cz V azz zzl czz)) (fun _ _ _ j _ => t0 - (intOf j).toNat)
  case atStart =>
    refine ⟨0, t0, az, cz, v0, none, 0, 0, X, 1, by omega, rfl, rfl, rfl, rfl, ⟨?_⟩, ⟨HX1.out.symm⟩, ⟨HV0.out.symm⟩, ⟨T0⟩⟩
    have := HYt.out
    rw [show Y / 2 ^ t0 = 1 from by
      have h1 := Nat.div_lt_of_lt_mul (show Y < 2 ^ t0 * 2 by rw [← Nat.pow_succ]; exact this.2)
      have h2 := Nat.div_pos this.1 (Nat.pow_pos (by omega) : 0 < 2 ^ t0)
      omega, Nat.pow_one]
  case round =>
    obtain ⟨k, r, az, cz, v1, azz, zzl, czz, V, n, hkr, rfl, rfl, rfl, rfl, hV, hn, hv1, hI⟩ := hrel
    by_cases hlt : k < t0
    · obtain ⟨r, rfl⟩ : ∃ m, r = m + 1 := ⟨r - 1, by omega⟩
      have hn12 : nlen V < 12 := by rw [hV.out]; exact nlen_part hX1 h12
      have hsq := Lib.hid (sqr_any (.pointer (some ⟨sb, 0, none⟩)) hI.out.gl hI.out.reg hI.out.le hI.out.nt hn12 (.inr hI.out.d1.symm))
      rw [← hn.out] at hsq
      have hvlt : v1 < B := by rw [hv1.out]; exact v_lt _ _ (by omega)
      have hshl := shl_next hv1.out (by omega)
      obtain ⟨v2, hv2⟩ : ∃ v2, (Y % 2 ^ r) * 2 ^ (64 - r) = v2 := ⟨_, rfl⟩
      rw [hv2] at hshl
      have HV2 := Aside.mk hv2
      clear hv2
      by_cases hb : Y / 2 ^ r % 2 = 1
      · have hne := bit_on hv1.out (by omega) hvlt hb
        have hb' := Aside.mk hb
        clear hb
        go_wp2_with fail
        refine hsq.out.mono ?_
        clear hsq
        rintro e w2 ⟨a', c', rfl, s1, s2, s3⟩
        have hI2 := Aside.mk (hI.out.step s1 s2 s3)
        have hvv : nlen (V * V) < 1000 := by have := nlen_mul V V; omega
        have hmu := Lib.hid (mul_any (.pointer (some ⟨sb, 0, none⟩)) hI2.out.gl hI2.out.reg hI2.out.le hI2.out.nt hI2.out.nx hvv (by rw [HX1.out]; omega) (.inr (by rw [HX1.out]; omega)) (.inr hI2.out.d1.symm) (.inr hI2.out.d3))
        rw [← hn.out, HX1.out] at hmu
        clear s1 s2 s3
        go_wp2_with fail
        refine hmu.out.mono ?_
        clear hmu
        rintro e w3 ⟨a2, c2, rfl, m1, m2, m3⟩
        have hI3 := Aside.mk (hI2.out.step m1 m2 m3)
        have hV3 : Aside (V * V * X = X ^ (Y / 2 ^ r)) := ⟨by have := pow_step X Y r V hV.out; rwa [if_pos hb'.out] at this⟩
        clear m1 m2 m3 hI2
        go_wp2_with fail
        go_roundw
        case rel => exact ⟨k + 1, r, a2, c2, v2, a', nlen (V * V), c', V * V * X, _, by omega, by go_num, rfl, rfl, rfl, hV3, ⟨rfl⟩, ⟨HV2.out.symm⟩, hI3⟩
        case measure => simp [intOf]; omega
      · have hne := bit_off hv1.out (by omega) hvlt hb
        have hb' := Aside.mk hb
        clear hb
        go_wp2_with fail
        refine hsq.out.mono ?_
        clear hsq
        rintro e w2 ⟨a', c', rfl, s1, s2, s3⟩
        have hI2 := Aside.mk (hI.out.step s1 s2 s3)
        have hV3 : Aside (V * V = X ^ (Y / 2 ^ r)) := ⟨by have := pow_step X Y r V hV.out; rwa [if_neg hb'.out, Nat.mul_one] at this⟩
        clear s1 s2 s3
        go_wp2_with fail
        go_roundw
        case rel => exact ⟨k + 1, r, a', c', v2, az, n, cz, V * V, _, by omega, by go_num, rfl, rfl, rfl, hV3, ⟨rfl⟩, ⟨HV2.out.symm⟩, by rw [hn.out]; exact hI2⟩
        case measure => simp [intOf]; omega
    · obtain rfl : r = 0 := by omega
      obtain rfl : k = t0 := by omega
      have hV1 : V = X ^ Y := by have := hV.out; rwa [Nat.pow_zero, Nat.div_one] at this
      have hVpos : V ≠ 0 := by rw [hV1]; have := Nat.pow_pos (n := Y) (show 0 < X by omega); omega
      obtain ⟨b, o, e, hb, hw⟩ := hI.out.nt.pos hVpos
      subst e
      go_wp2_with fail
      refine wp_loop_once ?_
      go_wp2_with fail
      have hn1000 : nlen V < 1000000 := by have := hI.out.nt.len; have := hI.out.nt.reg.1; omega
      have Hnorm := Lib.hid (norm_some b o (nlen V) cz V wr hn1000 hI.out.nt.len hw)
      rw [← hn.out] at Hnorm
      refine Hnorm.out.mono ?_
      rintro e w' ⟨rfl, rfl⟩
      go_wp2_with fail
      refine leaves_cons (f := 194) (args := #[.pointer (some ⟨sb, 0, none⟩)]) (by simp) (by simp [go_sem]) ?_
      have hst2 : w'.cell? ⟨sb, 0, none⟩ = some (.pointer none) :=
        (hI.out.fr.cell sb 0 (World.block_lt_of_cell? ws _ HSTK.out) (fun k => by have := HZ.out.lt _ _ k; rw [HSB.out] at this; omega)).trans HSTK.out
      refine (free_d sb 0 _ _ hst2).mono ?_
      rintro e u' w'' ⟨rfl, rfl, rfl⟩
      refine ⟨_, results_tmp rfl _ _ _, some ⟨b, o, none⟩, cz, by rw [← hV1, ← hn.out]; rfl, by rw [← hV1]; exact hI.out.nt, hfs.trans hI.out.fr, ?_⟩
      rcases hI.out.o1.out with k | ⟨b', o', k1, k2⟩
      · exact .inl k
      · exact .inr ⟨b', o', k1, Nat.le_trans hfs.size k2⟩
end Go.Proofs.YtgilnnipephfjaaGreatDoor
