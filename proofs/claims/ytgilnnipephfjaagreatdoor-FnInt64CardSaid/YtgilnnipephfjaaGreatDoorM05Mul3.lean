/- Contracts of natmul.go: mul and sqr in all cases below the thresholds. -/
import Derived.Test.YtgilnnipephfjaaGreatDoorM04Mul2
set_option linter.unusedSimpArgs false
set_option linter.unusedVariables false
namespace Go.Proofs.YtgilnnipephfjaaGreatDoor
open Go.RowKit

set_option maxRecDepth 100000 in
theorem mul_zero {a xa ya : Option Addr} {zl zc xc yc m n : Nat} {w : World} (stk : Value) (hz : Reg w a zc) (hmn : n ≤ m) (h0 : n = 0) :
    Calls Tryz.prog 219 #[.slice a zl zc, stk, .slice xa m xc, .slice ya n yc] w fun e w' => e = .returned (.slice a 0 zc) ∧ w' = w := by
  subst h0
  have hz1 := hz.1
  by_cases hm : m = 0
  · subst hm
    go_enter Tryz.func219, Tryz.ntmps219
    go_wp2_with fail
    go_ret
    exact ⟨rfl, rfl⟩
  · have q1 : ((m : Int) == 0) = false := by simp; omega
    go_enter Tryz.func219, Tryz.ntmps219
    go_wp2_with fail
    go_ret
    exact ⟨rfl, rfl⟩

set_option maxRecDepth 100000 in
theorem mul_one {a xa ya : Option Addr} {zl zc xc yc X Y : Nat} {w : World} (stk : Value) (hG : NG ≤ w.heap.size) (hz : Reg w a zc) (hX : Nt w xa xc X) (hY : Nt w ya yc Y) (hm : nlen X < 1000) (h1 : nlen Y = 1) (hX0 : X ≠ 0)
    (hax : Ap a zc xa xc) :
    Calls Tryz.prog 219 #[.slice a zl zc, stk, .slice xa (nlen X) xc, .slice ya (nlen Y) yc] w fun e w' => ∃ a' c', e = .returned (.slice a' (nlen (X * Y)) c') ∧ Nt w' a' c' (X * Y) ∧
      Fr (foot a zc) w w' ∧ Out w a zc a' c' := by
  have hY0 : Y ≠ 0 := by intro e; rw [e, nlen_zero] at h1; omega
  obtain ⟨yb, yo, rfl, hyo, hWY⟩ := hY.pos hY0
  have hyB : Y < B := by have := nlen_lt Y; rw [h1] at this; simpa using this
  have hc := hWY.cell 0 (by omega)
  rw [wd_word hyB, Nat.add_zero] at hc
  have hnx := nlen_pos hX0
  have hxl := Lib.hid hX.len
  have HX := Aside.mk hX
  have HZ := Aside.mk hz
  have Hm := Aside.mk (mulAddWW_any (zl := zl) hG hz hX (by omega) hyB hY0 B_pos hax)
  rw [Nat.add_zero] at Hm
  rw [h1]
  have h1' := Aside.mk h1
  clear h1 hX hY hz hWY
  have q1 : ((nlen X : Int) == 0) = false := by simp; omega
  go_enter Tryz.func219, Tryz.ntmps219
  go_wp2_with fail
  refine Hm.out.mono ?_
  rintro e w1 ⟨a', c', rfl, r1, r2, r3⟩
  go_wp2_with fail
  go_ret
  exact ⟨a', c', rfl, r1, r2, r3⟩

/-- z.mul(x, y), y no longer than x. -/
theorem mul_ge {a xa ya : Option Addr} {zl zc xc yc X Y : Nat} {w : World} (stk : Value) (g : Gl w) (hz : Reg w a zc) (hzl : zl ≤ zc) (hX : Nt w xa xc X) (hY : Nt w ya yc Y) (hm : nlen X < 1000) (hn : nlen Y < 40) (hmn : nlen Y ≤ nlen X)
    (hax : Ap a zc xa xc) (hay : Ap a zc ya yc) :
    Calls Tryz.prog 219 #[.slice a zl zc, stk, .slice xa (nlen X) xc, .slice ya (nlen Y) yc] w fun e w' => ∃ a' c', e = .returned (.slice a' (nlen (X * Y)) c') ∧ Nt w' a' c' (X * Y) ∧
      Fr (foot a zc) w w' ∧ Out w a zc a' c' := by
  by_cases h0 : nlen Y = 0
  · have hY0 : Y = 0 := nlen_eq_zero.1 h0
    refine (mul_zero stk hz hmn h0).mono ?_
    rintro e w' ⟨rfl, rfl⟩
    refine ⟨a, zc, by rw [hY0, Nat.mul_zero, nlen_zero], by rw [hY0, Nat.mul_zero]; exact Nt.zero hz, Fr.refl _ _, .inl ⟨rfl, rfl⟩⟩
  · by_cases h1 : nlen Y = 1
    · exact mul_one stk g.size hz hX hY hm h1 (by intro e; rw [e, nlen_zero] at hmn; omega) hax
    · exact mul_big stk g hz hzl hX hY hm hn hmn (by omega) hax hay

set_option maxRecDepth 100000 in
/-- z.mul(x, y). -/
theorem mul_any {a xa ya : Option Addr} {zl zc xc yc X Y : Nat} {w : World} (stk : Value) (g : Gl w) (hz : Reg w a zc) (hzl : zl ≤ zc) (hX : Nt w xa xc X) (hY : Nt w ya yc Y) (hm : nlen X < 1000) (hn : nlen Y < 1000) (h40 : nlen X < 40 ∨ nlen Y < 40)
    (hax : Ap a zc xa xc) (hay : Ap a zc ya yc) :
    Calls Tryz.prog 219 #[.slice a zl zc, stk, .slice xa (nlen X) xc, .slice ya (nlen Y) yc] w fun e w' => ∃ a' c', e = .returned (.slice a' (nlen (X * Y)) c') ∧ Nt w' a' c' (X * Y) ∧
      Fr (foot a zc) w w' ∧ Out w a zc a' c' := by
  by_cases hmn : nlen Y ≤ nlen X
  · exact mul_ge stk g hz hzl hX hY hm (by omega) hmn hax hay
  · have H := Lib.hid (mul_ge stk g hz hzl hY hX hn (by omega) (by omega) hay hax)
    have hlt : nlen X < nlen Y := by omega
    clear hmn h40 hX hY hz hzl g
    rw [Nat.mul_comm Y X] at H
    go_enter Tryz.func219, Tryz.ntmps219
    go_wp2_with fail
    refine H.out.mono ?_
    rintro e w1 ⟨a', c', rfl, r1, r2, r3⟩
    go_wp2_with fail
    go_ret
    exact ⟨a', c', rfl, r1, r2, r3⟩

theorem mulWW_any (x y : Nat) (w : World) (hx : x < B) (hy : y < B) :
    Calls Tryz.prog 260 #[.int .u64 x, .int .u64 y] w fun e w' => e = .returned (.tuple #[.int .u64 (prodHi x y), .int .u64 (prodLo x y)]) ∧ w' = w := by
  go_enter Tryz.func260, Tryz.ntmps260
  go_wp2_with (go_at_call 294; refine (bitsMul_any x y _ hx hy).mono ?_; rintro e w' ⟨rfl, rfl⟩)
  go_ret2
  exact ⟨rfl, rfl⟩

set_option maxRecDepth 100000 in
/-- A square of one word. -/
theorem sqr_one {a xa : Option Addr} {zl zc xc X : Nat} {w : World} (stk : Value) (hG : NG ≤ w.heap.size) (hz : Reg w a zc) (hX : Nt w xa xc X) (h1 : nlen X = 1) :
    Calls Tryz.prog 218 #[.slice a zl zc, stk, .slice xa (nlen X) xc] w fun e w' => ∃ a' c', e = .returned (.slice a' (nlen (X * X)) c') ∧ Nt w' a' c' (X * X) ∧
      Fr (foot a zc) w w' ∧ Out w a zc a' c' := by
  have hX0 : X ≠ 0 := by intro e; rw [e, nlen_zero] at h1; omega
  obtain ⟨xb, xo, rfl, hxo, hWX⟩ := hX.pos hX0
  have hXB : X < B := by have := nlen_lt X; rw [h1] at this; simpa using this
  have hc := hWX.cell 0 (by omega)
  rw [wd_word hXB, Nat.add_zero] at hc
  have hlo : prodLo X X < B := Nat.mod_lt _ B_pos
  have hhi : prodHi X X < B := Nat.div_lt_of_lt_mul (Nat.mul_lt_mul'' hXB hXB)
  have hsp : prodLo X X + B * prodHi X X = X * X := Nat.mod_add_div _ _
  have Hsp := Lib.hid hsp
  have h1' := Aside.mk h1
  rw [h1]
  clear h1 hsp hX hWX
  have H := Lib.hid (make_any a zl zc 2 w hG hz (by omega) (by omega))
  clear hz
  go_enter Tryz.func218, Tryz.ntmps218
  go_wp2_with fail
  refine H.out.mono ?_
  rintro e w1 ⟨b, o, c, rfl, hnc, hcc, hown, hfr, hout⟩
  obtain ⟨u0, _, hu0⟩ := hown.cell 0 (by omega)
  obtain ⟨u1, _, hu1⟩ := hown.cell 1 (by omega)
  have f0 := hown.free 0 (by omega)
  have f1 := hown.free 1 (by omega)
  rw [Nat.add_zero] at hu0 f0
  go_wp2_with (go_at_call 260; refine (mulWW_any X X _ hXB hXB).mono ?_; rintro e w' ⟨rfl, rfl⟩)
  have hW2 := Words.two (hown.le hnc) hlo hhi
  rw [Hsp.out] at hW2
  have hown2 := (hown.set b (o + 1) hhi).set b o hlo
  refine (norm_some b o 2 c (X * X) _ (by omega) hnc hW2).mono ?_
  rintro e w' ⟨rfl, rfl⟩
  go_wp2_with fail
  go_ret
  have hout' : Out w a zc (some ⟨b, o, none⟩) c := by
    rcases hout with ⟨rfl, rfl⟩ | h
    · exact .inl ⟨rfl, rfl⟩
    · exact .inr ⟨b, o, rfl, h⟩
  refine ⟨some ⟨b, o, none⟩, c, rfl, Nt.mk' hcc hnc hown2 hW2, ?_, hout'⟩
  have key : ∀ i, i < 2 → b < w.heap.size → foot a zc b (o + i) := by
    intro i hi hb
    rcases hout with ⟨rfl, rfl⟩ | h
    · exact ⟨b, o, rfl, rfl, by omega, by omega⟩
    · omega
  exact ((hfr.mono (fun _ _ _ k => k.elim)).setCell b (o + 1) _ (key 1 (by omega))).setCell b o _ (key 0 (by omega))

set_option maxRecDepth 100000 in
set_option maxHeartbeats 1000000 in
/-- A square of 2 to 11 words. -/
theorem sqr_big {a xa : Option Addr} {zl zc xc X : Nat} {w : World} (stk : Value) (g : Gl w) (hz : Reg w a zc) (hzl : zl ≤ zc) (hX : Nt w xa xc X) (h2 : 2 ≤ nlen X) (h12 : nlen X < 12) (hax : Ap a zc xa xc) :
    Calls Tryz.prog 218 #[.slice a zl zc, stk, .slice xa (nlen X) xc] w fun e w' => ∃ a' c', e = .returned (.slice a' (nlen (X * X)) c') ∧ Nt w' a' c' (X * X) ∧
      Fr (foot a zc) w w' ∧ Out w a zc a' c' := by
  obtain ⟨n, hn'⟩ : ∃ n, nlen X = n := ⟨_, rfl⟩
  have hX0 : X ≠ 0 := by intro e; rw [e, nlen_zero] at h2; omega
  obtain ⟨xb, xo, rfl, hxo, hWX⟩ := hX.pos hX0
  have hxl := hX.len
  rw [hn'] at hWX h2 h12 hxl ⊢
  clear hn'
  have q1 : ((n : Int) == 0) = false := by simp; omega
  have q2 : ((n : Int) == 1) = false := by simp; omega
  have HX := Aside.mk hX
  have HZ := Aside.mk hz
  clear hX hz
  have key : ∀ (a1 : Option Addr) (zl1 zc1 d1 : Nat), Reg w a1 zc1 → (∀ b o, foot a1 zc1 b o → ¬ foot (some ⟨xb, xo, none⟩) xc b o) →
      ((a1 = a ∧ zc1 = zc) ∨ (a1 = none ∧ zc1 = 0)) → Aside (Calls Tryz.prog 188 #[.slice a1 zl1 zc1, .int .i64 (2 * (n : Int))] (w.drewN d1) fun e w' => ∃ b o c, e = .returned (.slice (some ⟨b, o, none⟩) (n + n) c) ∧ n + n ≤ c ∧ c < 1000000 ∧ Own w' b o c ∧ Gl w' ∧
        Fr (fun _ _ => False) w w' ∧ Out w a zc (some ⟨b, o, none⟩) c ∧ (∀ x y, foot (some ⟨b, o, none⟩) c x y → ¬ foot (some ⟨xb, xo, none⟩) xc x y)) := by
    intro a1 zl1 zc1 d1 r1 dx ho
    refine ⟨?_⟩
    rw [show 2 * (n : Int) = ((n + n : Nat) : Int) from by omega]
    refine (make_any a1 zl1 zc1 (n + n) _ (g.drewN d1).size (r1.drewN d1) (by omega) (by omega)).mono ?_
    rintro e w2 ⟨b, o, c, rfl, h1, h2, h3, h4, h5⟩
    have h4' : Fr (fun _ _ => False) w w2 := ((Fr.refl _ w).drewN d1).trans h4
    have o1 : Out w a1 zc1 (some ⟨b, o, none⟩) c := by
      rcases h5 with ⟨rfl, rfl⟩ | h5
      · exact .inl ⟨rfl, rfl⟩
      · exact .inr ⟨b, o, rfl, h5⟩
    refine ⟨b, o, c, rfl, h1, h2, h3, g.fr h4' (fun _ _ k => k.elim), h4', ?_, o1.apart HX.out.reg.lt dx⟩
    rcases ho with ⟨rfl, rfl⟩ | ⟨rfl, rfl⟩
    · exact o1
    · rcases o1 with ⟨k, _⟩ | k
      · cases k
      · exact .inr k
  have kn := fun d => key none 0 0 d (Reg.nil w) (fun b o h => (foot_zero _ _ _ h).elim) (.inr ⟨rfl, rfl⟩)
  have ks := fun d h1 => key a zl zc d HZ.out (hax.apart HZ.out h1) (.inl ⟨rfl, rfl⟩)
  have Kn := Lib.hid kn
  have Ks := Lib.hid ks
  clear kn ks key
  go_enter Tryz.func218, Tryz.ntmps218
  go_wp2_with fail
  refine (alias_any hzl hxl HZ.out HX.out.reg).mono ?_
  rintro e w' ⟨rfl, d, rfl⟩
  cases hb : aliasB a zc (some ⟨xb, xo, none⟩) xc
  · have K := Lib.hid (Ks.out d hb)
    go_wp2_with fail
    refine K.out.out.mono ?_
    clear K Kn Ks
    rintro e w2 ⟨b, o, c, rfl, hc1, hc2, ho, hG, hfr, hout, hdx⟩
    have HG := Lib.hid hG
    clear hG
    have hmul := Lib.hid (basicMul_any b o (n + n) c xb xo xc n xb xo xc n X X w2 (by omega) (by omega) (by omega) (hfr.words hWX fun _ _ => id) (hfr.words hWX fun _ _ => id) (Nat.le_refl _) hc1 (ho.le hc1) (by have := apart_of hdx (by omega) (by omega); omega) (by have := apart_of hdx (by omega) (by omega); omega))
    have hbsq := HG.out.bsq
    have hksq := HG.out.ksq
    go_wp2_with fail
    refine hmul.out.mono ?_
    rintro e w3 ⟨rfl, hw3, hf3⟩
    go_wp2_with fail
    refine (norm_some b o (n + n) c (X * X) _ (by omega) hc1 hw3).mono ?_
    rintro e w' ⟨rfl, rfl⟩
    go_wp2_with fail
    go_ret
    exact ⟨some ⟨b, o, none⟩, c, rfl, Nt.mk' hc2 hc1 (Fin.out ho hw3 hf3) hw3, Fin.fr hfr hf3 hout hc1, hout⟩
  · have K := Lib.hid (Kn.out d)
    go_wp2_with fail
    refine K.out.out.mono ?_
    clear K Kn Ks
    rintro e w2 ⟨b, o, c, rfl, hc1, hc2, ho, hG, hfr, hout, hdx⟩
    have HG := Lib.hid hG
    clear hG
    have hmul := Lib.hid (basicMul_any b o (n + n) c xb xo xc n xb xo xc n X X w2 (by omega) (by omega) (by omega) (hfr.words hWX fun _ _ => id) (hfr.words hWX fun _ _ => id) (Nat.le_refl _) hc1 (ho.le hc1) (by have := apart_of hdx (by omega) (by omega); omega) (by have := apart_of hdx (by omega) (by omega); omega))
    have hbsq := HG.out.bsq
    have hksq := HG.out.ksq
    go_wp2_with fail
    refine hmul.out.mono ?_
    rintro e w3 ⟨rfl, hw3, hf3⟩
    go_wp2_with fail
    refine (norm_some b o (n + n) c (X * X) _ (by omega) hc1 hw3).mono ?_
    rintro e w' ⟨rfl, rfl⟩
    go_wp2_with fail
    go_ret
    exact ⟨some ⟨b, o, none⟩, c, rfl, Nt.mk' hc2 hc1 (Fin.out ho hw3 hf3) hw3, Fin.fr hfr hf3 hout hc1, hout⟩

set_option maxRecDepth 100000 in
/-- z.sqr(x) of at most 11 words. -/
theorem sqr_any {a xa : Option Addr} {zl zc xc X : Nat} {w : World} (stk : Value) (g : Gl w) (hz : Reg w a zc) (hzl : zl ≤ zc) (hX : Nt w xa xc X) (h12 : nlen X < 12) (hax : Ap a zc xa xc) :
    Calls Tryz.prog 218 #[.slice a zl zc, stk, .slice xa (nlen X) xc] w fun e w' => ∃ a' c', e = .returned (.slice a' (nlen (X * X)) c') ∧ Nt w' a' c' (X * X) ∧
      Fr (foot a zc) w w' ∧ Out w a zc a' c' := by
  by_cases h0 : nlen X = 0
  · have hX0 : X = 0 := nlen_eq_zero.1 h0
    subst hX0
    have hz1 := hz.1
    simp only [nlen_zero, Nat.mul_zero]
    go_enter Tryz.func218, Tryz.ntmps218
    go_wp2_with fail
    go_ret
    exact ⟨a, zc, rfl, Nt.zero hz, Fr.refl _ _, .inl ⟨rfl, rfl⟩⟩
  · by_cases h1 : nlen X = 1
    · exact sqr_one stk g.size hz hX h1
    · exact sqr_big stk g hz hzl hX (by omega) h12 hax
end Go.Proofs.YtgilnnipephfjaaGreatDoor
