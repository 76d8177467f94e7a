/- Contract of nat.go: alias. Contracts of natmul.go: mul, sqr, below the thresholds. -/
import Derived.Test.YtgilnnipephfjaaGreatDoorM03Mul
import Derived.LaidEqlPtr
set_option linter.unusedSimpArgs false
set_option linter.unusedVariables false
namespace Go.Proofs.YtgilnnipephfjaaGreatDoor
open Go.RowKit

/-- Whether two slices end at one cell. -/
def aliasB (a : Option Addr) (c : Nat) (a' : Option Addr) (c' : Nat) : Bool :=
  match a, a' with
  | some x, some y => decide (0 < c) && (decide (0 < c') && decide (x.block = y.block ∧ x.off + c = y.off + c'))
  | _, _ => false

theorem run_eqlW {a x : Addr} {w : World} (hk : ∃ t, kind? w a.block = some (t, (0, 0))) (hk' : ∃ t, kind? w x.block = some (t, (0, 0))) :
    (binOp .eql 311 (.pointer (some a)) (.pointer (some x))).run Tryz.prog w = .ok (.bool (decide (a = x))) w := by
  obtain ⟨i, hi, hzz⟩ := Option.map_eq_some_iff.1 infoW
  simp only [Prod.mk.injEq] at hzz
  by_cases e : a = x
  · subst e
    rw [run_eql_ptr_same w a Tryz.underlying311 hi]; simp
  · obtain ⟨t, h1⟩ := hk
    obtain ⟨t', h2⟩ := hk'
    obtain ⟨c1, b1⟩ := block_of_kind h1
    obtain ⟨c2, b2⟩ := block_of_kind h2
    rw [run_eql_ptr_other w Tryz.underlying311 hi (by rw [hzz.2.1]; simp) e b1 b2]; simp [e]

theorem alias_some (b o c n b' o' c' n' : Nat) (w : World) (hn : n ≤ c) (hn' : n' ≤ c') (h1 : c < 1000000) (h2 : c' < 1000000) (hk : ∃ t, kind? w b = some (t, (0, 0))) (hk' : ∃ t, kind? w b' = some (t, (0, 0))) :
    Calls Tryz.prog 256 #[.slice (some ⟨b, o, none⟩) n c, .slice (some ⟨b', o', none⟩) n' c'] w fun e w' => e = .returned (.bool (aliasB (some ⟨b, o, none⟩) c (some ⟨b', o', none⟩) c')) ∧ ∃ d, w' = w.drewN d := by
  by_cases h0 : 0 < c
  · have g0 : decide (0 < (c : Int)) = true := by simpa using h0
    by_cases h0' : 0 < c'
    · have g0' : decide (0 < (c' : Int)) = true := by simpa using h0'
      have q1 : IntKind.i64.wrap ((c : Int) - 1) = (c : Int) - 1 := IntWalk.i64_in _ (by omega)
      have q2 : IntKind.i64.wrap ((c' : Int) - 1) = (c' : Int) - 1 := IntWalk.i64_in _ (by omega)
      have q3 : 1 ≤ (c : Int) := by omega
      have q4 : 1 ≤ (c' : Int) := by omega
      have q5 : ((c : Int) - 1).toNat = c - 1 := by omega
      have q6 : ((c' : Int) - 1).toNat = c' - 1 := by omega
      have q7 : (c : Int) - 1 < c := by omega
      have q8 : (c' : Int) - 1 < c' := by omega
      have q9 : 0 ≤ (c : Int) - 1 := by omega
      have q0 : 0 ≤ (c' : Int) - 1 := by omega
      have heq := fun d => run_eqlW (a := ⟨b, o + (c - 1), none⟩) (x := ⟨b', o' + (c' - 1), none⟩) (w := w.drewN d) hk hk'
      go_enter Tryz.func256, Tryz.ntmps256
      go_wp2_with fail
      go_quiet (fail)
      clear q1 q2 q5 q6
      go_wp2_with fail
      go_ret
      refine ⟨?_, nq, rfl⟩
      show Ending.returned (.bool _) = .returned (.bool _)
      congr 2
      rw [Bool.eq_iff_iff]
      simp [aliasB]
      omega
    · obtain rfl : c' = 0 := by omega
      go_enter Tryz.func256, Tryz.ntmps256
      go_wp2_with fail
      go_quiet (fail)
      go_wp2_with fail
      go_ret
      exact ⟨by simp [aliasB], nq, rfl⟩
  · obtain rfl : c = 0 := by omega
    go_enter Tryz.func256, Tryz.ntmps256
    go_wp2_with fail
    go_quiet (fail)
    go_wp2_with fail
    go_ret
    exact ⟨by simp [aliasB], nq, rfl⟩

theorem alias_nil_l (n c : Nat) (x : Option Addr) (n' c' : Nat) (w : World) :
    Calls Tryz.prog 256 #[.slice none n 0, .slice x n' c'] w fun e w' => e = .returned (.bool false) ∧ ∃ d, w' = w.drewN d := by
  go_enter Tryz.func256, Tryz.ntmps256
  go_wp2_with fail
  go_quiet (fail)
  go_wp2_with fail
  go_ret
  exact ⟨rfl, nq, rfl⟩
theorem alias_nil_r (a : Option Addr) (n c n' : Nat) (w : World) :
    Calls Tryz.prog 256 #[.slice a n c, .slice none n' 0] w fun e w' => e = .returned (.bool false) ∧ ∃ d, w' = w.drewN d := by
  by_cases h0 : 0 < c
  · have g0 : decide (0 < (c : Int)) = true := by simpa using h0
    go_enter Tryz.func256, Tryz.ntmps256
    go_wp2_with fail
    go_quiet (fail)
    go_wp2_with fail
    go_ret
    exact ⟨rfl, nq, rfl⟩
  · obtain rfl : c = 0 := by omega
    go_enter Tryz.func256, Tryz.ntmps256
    go_wp2_with fail
    go_quiet (fail)
    go_wp2_with fail
    go_ret
    exact ⟨rfl, nq, rfl⟩
theorem alias_any {a x : Option Addr} {n c n' c' : Nat} {w : World} (hn : n ≤ c) (hn' : n' ≤ c') (ha : Reg w a c) (hx : Reg w x c') :
    Calls Tryz.prog 256 #[.slice a n c, .slice x n' c'] w fun e w' => e = .returned (.bool (aliasB a c x c')) ∧ ∃ d, w' = w.drewN d := by
  obtain ⟨hc, ha⟩ := ha
  obtain ⟨hc', hx⟩ := hx
  rcases ha with ⟨rfl, rfl⟩ | ⟨b, o, rfl, ho⟩
  · exact alias_nil_l n 0 x n' c' w
  · rcases hx with ⟨rfl, rfl⟩ | ⟨b', o', rfl, ho'⟩
    · exact alias_nil_r _ n c n' w
    · exact alias_some b o c n b' o' c' n' w hn hn' hc hc' ho.kind.2 ho'.kind.2
end Go.Proofs.YtgilnnipephfjaaGreatDoor
namespace Go.Proofs.YtgilnnipephfjaaGreatDoor
open Go.RowKit

/-- What the package-level variables of the package hold. -/
structure Gl (w : World) : Prop where
  size : NG ≤ w.heap.size
  leaf : w.cell? ⟨7, 0, none⟩ = some (.int .i64 8)
  bsq : w.cell? ⟨13, 0, none⟩ = some (.int .i64 12)
  ksq : w.cell? ⟨14, 0, none⟩ = some (.int .i64 80)
  kar : w.cell? ⟨15, 0, none⟩ = some (.int .i64 40)
  drec : w.cell? ⟨12, 0, none⟩ = some (.int .i64 40)
theorem Gl.fr {S : Nat → Nat → Prop} {w w' : World} (g : Gl w) (h : Fr S w w') (hs : ∀ b o, S b o → NG ≤ b) : Gl w' := by
  have key : ∀ b u, b < NG → w.cell? ⟨b, 0, none⟩ = some u → w'.cell? ⟨b, 0, none⟩ = some u := fun b u hb hc =>
    (h.cell b 0 (Nat.lt_of_lt_of_le hb g.size) (fun q => by have := hs _ _ q; omega)).trans hc
  exact ⟨Nat.le_trans g.size h.size, key _ _ (by decide) g.leaf, key _ _ (by decide) g.bsq, key _ _ (by decide) g.ksq, key _ _ (by decide) g.kar, key _ _ (by decide) g.drec⟩
theorem Reg.lo {w : World} {a : Option Addr} {c : Nat} (h : Reg w a c) : ∀ b o, foot a c b o → NG ≤ b := by
  rintro b o ⟨b', o', rfl, rfl, _, _⟩
  rcases h.2 with ⟨k, _⟩ | ⟨b'', o'', e, ho⟩
  · cases k
  · cases e; exact ho.kind.1
theorem Reg.lt {w : World} {a : Option Addr} {c : Nat} (h : Reg w a c) : ∀ b o, foot a c b o → b < w.heap.size := by
  rintro b o ⟨b', o', rfl, rfl, _, _⟩
  rcases h.2 with ⟨k, _⟩ | ⟨b'', o'', e, ho⟩
  · cases k
  · cases e; exact ho.kind.lt

/-- Two slices are one, or have no cell in common. -/
def Ap (a : Option Addr) (c : Nat) (a' : Option Addr) (c' : Nat) : Prop := (a = a' ∧ c = c') ∨ ∀ b o, foot a c b o → ¬ foot a' c' b o
theorem foot_some (b o c : Nat) (x y : Nat) : foot (some ⟨b, o, none⟩) c x y ↔ x = b ∧ o ≤ y ∧ y < o + c := by
  constructor
  · rintro ⟨b', o', e, h1, h2, h3⟩; cases e; exact ⟨h1, h2, h3⟩
  · rintro ⟨h1, h2, h3⟩; exact ⟨b, o, rfl, h1, h2, h3⟩
theorem foot_zero (a : Option Addr) (x y : Nat) : ¬ foot a 0 x y := by rintro ⟨b, o, _, _, h1, h2⟩; omega
theorem apart_of {b o c b' o' c' : Nat} (h : ∀ x y, foot (some ⟨b, o, none⟩) c x y → ¬ foot (some ⟨b', o', none⟩) c' x y) (hc : 0 < c) (hc' : 0 < c') : b ≠ b' ∨ o + c ≤ o' ∨ o' + c' ≤ o := by
  by_cases hb : b = b'
  · subst hb
    right
    by_cases ho : o ≤ o'
    · left
      apply Nat.le_of_not_lt
      intro k
      exact h b o' ((foot_some _ _ _ _ _).2 ⟨rfl, ho, k⟩) ((foot_some _ _ _ _ _).2 ⟨rfl, by omega, by omega⟩)
    · right
      apply Nat.le_of_not_lt
      intro k
      exact h b o ((foot_some _ _ _ _ _).2 ⟨rfl, by omega, by omega⟩) ((foot_some _ _ _ _ _).2 ⟨rfl, by omega, k⟩)
  · exact .inl hb
/-- Slices that are not found to be one have no cell in common. -/
theorem Ap.apart {a a' : Option Addr} {c c' : Nat} {w : World} (h : Ap a c a' c') (ha : Reg w a c) (h0 : aliasB a c a' c' = false) : ∀ b o, foot a c b o → ¬ foot a' c' b o := by
  rcases h with ⟨rfl, rfl⟩ | h
  · intro b o hf _
    rcases ha.2 with ⟨rfl, rfl⟩ | ⟨b', o', rfl, _⟩
    · exact foot_zero _ _ _ hf
    · rw [foot_some] at hf
      simp [aliasB] at h0
      omega
  · exact h
theorem Out.apart {w : World} {a a' x : Option Addr} {c c' cx : Nat} (h : Out w a c a' c') (hx : ∀ b o, foot x cx b o → b < w.heap.size) (hap : ∀ b o, foot a c b o → ¬ foot x cx b o) : ∀ b o, foot a' c' b o → ¬ foot x cx b o := by
  rcases h with ⟨rfl, rfl⟩ | ⟨b', o', rfl, hn⟩
  · exact hap
  · intro b o hf hg
    rw [foot_some] at hf
    have := hx b o hg
    omega
theorem Nt.drewN {w : World} {a : Option Addr} {c X : Nat} (h : Nt w a c X) (d : Nat) : Nt (w.drewN d) a c X :=
  ⟨⟨h.reg.1, h.reg.2.imp id fun ⟨b, o, e, ho⟩ => ⟨b, o, e, ho.cell, ho.kind⟩⟩, h.len, h.words.1, h.words.2.imp id fun ⟨b, o, e, hw⟩ => ⟨b, o, e, hw.lt, hw.cell⟩⟩
theorem Reg.drewN {w : World} {a : Option Addr} {c : Nat} (h : Reg w a c) (d : Nat) : Reg (w.drewN d) a c :=
  ⟨h.1, h.2.imp id fun ⟨b, o, e, ho⟩ => ⟨b, o, e, ho.cell, ho.kind⟩⟩
theorem Gl.drewN {w : World} (g : Gl w) (d : Nat) : Gl (w.drewN d) := ⟨g.size, g.leaf, g.bsq, g.ksq, g.kar, g.drec⟩

theorem Reg.nil (w : World) : Reg w none 0 := ⟨by omega, .inl ⟨rfl, rfl⟩⟩

theorem Fin.out {w2 w3 : World} {b o c n v : Nat} (ho : Own w2 b o c) (hw : Words w3 b o n v) (hf : Fr (fun b' o' => b' = b ∧ o ≤ o' ∧ o' < o + n) w2 w3) : Own w3 b o c :=
  ⟨fun i hi => by
    by_cases h : i < n
    · exact ⟨_, wd_lt v i, hw.cell i h⟩
    · obtain ⟨x, hx, hc⟩ := ho.cell i hi
      exact ⟨x, hx, (hf.cell b (o + i) ho.kind.lt (by omega)).trans hc⟩, hf.blk ho.kind⟩
theorem Fin.fr {w w2 w3 : World} {a : Option Addr} {zc b o c n : Nat} (hfr : Fr (fun _ _ => False) w w2) (hf : Fr (fun b' o' => b' = b ∧ o ≤ o' ∧ o' < o + n) w2 w3) (ho : Out w a zc (some ⟨b, o, none⟩) c) (hn : n ≤ c) : Fr (foot a zc) w w3 := by
  refine hfr.trans' hf (fun _ _ _ k => k.elim) ?_
  rintro x y hx ⟨rfl, h1, h2⟩
  rcases ho with ⟨rfl, rfl⟩ | ⟨b', o', e, hn'⟩
  · rw [foot_some]; exact ⟨rfl, h1, by omega⟩
  · cases e; omega

set_option maxRecDepth 100000 in
set_option maxHeartbeats 1000000 in
/-- The case that both numbers take two words at least and that the place is apart from them. -/
theorem mul_big {a xa ya : Option Addr} {zl zc xc yc X Y : Nat} {w : World} (stk : Value) (g : Gl w) (hz : Reg w a zc) (hzl : zl ≤ zc) (hX : Nt w xa xc X) (hY : Nt w ya yc Y) (hm : nlen X < 1000) (hn : nlen Y < 40) (hmn : nlen Y ≤ nlen X) (h2 : 2 ≤ nlen Y)
    (hax : Ap a zc xa xc) (hay : Ap a zc ya yc) :
    Calls Tryz.prog 219 #[.slice a zl zc, stk, .slice xa (nlen X) xc, .slice ya (nlen Y) yc] w fun e w' => ∃ a' c', e = .returned (.slice a' (nlen (X * Y)) c') ∧ Nt w' a' c' (X * Y) ∧
      Fr (foot a zc) w w' ∧ Out w a zc a' c' := by
  obtain ⟨m, hm'⟩ : ∃ m, nlen X = m := ⟨_, rfl⟩
  obtain ⟨n, hn'⟩ : ∃ n, nlen Y = n := ⟨_, rfl⟩
  have hX0 : X ≠ 0 := by intro e; rw [e, nlen_zero] at hmn; omega
  have hY0 : Y ≠ 0 := by intro e; rw [e, nlen_zero] at h2; omega
  obtain ⟨xb, xo, rfl, hxo, hWX⟩ := hX.pos hX0
  obtain ⟨yb, yo, rfl, hyo, hWY⟩ := hY.pos hY0
  have hxl := hX.len
  have hyl := hY.len
  rw [hm'] at hWX hm hmn hxl ⊢
  rw [hn'] at hWY hn hmn h2 hyl ⊢
  clear hm' hn'
  have q1 : ((m : Int) == 0) = false := by simp; omega
  have q2 : ((n : Int) == 0) = false := by simp; omega
  have q3 : ((n : Int) == 1) = false := by simp; omega
  have HX := Aside.mk hX
  have HY := Aside.mk hY
  have HZ := Aside.mk hz
  clear hX hY hz
  go_enter Tryz.func219, Tryz.ntmps219
  go_wp2_with fail
  refine (alias_any hzl hxl HZ.out HX.out.reg).mono ?_
  rintro e w' ⟨rfl, d, rfl⟩
  have key : ∀ (a1 : Option Addr) (zl1 zc1 d1 : Nat), Reg w a1 zc1 → (∀ b o, foot a1 zc1 b o → ¬ foot (some ⟨xb, xo, none⟩) xc b o) → (∀ b o, foot a1 zc1 b o → ¬ foot (some ⟨yb, yo, none⟩) yc b o) →
      ((a1 = a ∧ zc1 = zc) ∨ (a1 = none ∧ zc1 = 0)) → Aside (Calls Tryz.prog 188 #[.slice a1 zl1 zc1, .int .i64 ((m : Int) + n)] (w.drewN d1) fun e w' => ∃ b o c, e = .returned (.slice (some ⟨b, o, none⟩) (m + n) c) ∧ m + n ≤ c ∧ c < 1000000 ∧ Own w' b o c ∧ Gl w' ∧
        Fr (fun _ _ => False) w w' ∧ Out w a zc (some ⟨b, o, none⟩) c ∧ (∀ x y, foot (some ⟨b, o, none⟩) c x y → ¬ foot (some ⟨xb, xo, none⟩) xc x y) ∧ (∀ x y, foot (some ⟨b, o, none⟩) c x y → ¬ foot (some ⟨yb, yo, none⟩) yc x y)) := by
    intro a1 zl1 zc1 d1 r1 dx dy ho
    refine ⟨?_⟩
    rw [show (m : Int) + n = ((m + n : Nat) : Int) from rfl]
    refine (make_any a1 zl1 zc1 (m + n) _ (g.drewN d1).size (r1.drewN d1) (by omega) (by omega)).mono ?_
    rintro e w2 ⟨b, o, c, rfl, h1, h2, h3, h4, h5⟩
    have h4' : Fr (fun _ _ => False) w w2 := ((Fr.refl _ w).drewN d1).trans h4
    have o1 : Out w a1 zc1 (some ⟨b, o, none⟩) c := by
      rcases h5 with ⟨rfl, rfl⟩ | h5
      · exact .inl ⟨rfl, rfl⟩
      · exact .inr ⟨b, o, rfl, h5⟩
    refine ⟨b, o, c, rfl, h1, h2, h3, g.fr h4' (fun _ _ k => k.elim), h4', ?_, o1.apart HX.out.reg.lt dx, o1.apart HY.out.reg.lt dy⟩
    rcases ho with ⟨rfl, rfl⟩ | ⟨rfl, rfl⟩
    · exact o1
    · rcases o1 with ⟨k, _⟩ | k
      · cases k
      · exact .inr k
  have kn := fun d => key none 0 0 d (Reg.nil w) (fun b o h => (foot_zero _ _ _ h).elim) (fun b o h => (foot_zero _ _ _ h).elim) (.inr ⟨rfl, rfl⟩)
  have ks := fun d h1 h2 => key a zl zc d HZ.out (hax.apart HZ.out h1) (hay.apart HZ.out h2) (.inl ⟨rfl, rfl⟩)
  have Kn := Lib.hid kn
  have Ks := Lib.hid ks
  clear kn ks key
  cases hb : aliasB a zc (some ⟨xb, xo, none⟩) xc
  · go_wp2_with fail
    refine (alias_any hzl hyl (HZ.out.drewN d) (HY.out.reg.drewN d)).mono ?_
    rintro e w' ⟨rfl, d2, rfl⟩
    rw [World.drewN_drewN]
    cases hb2 : aliasB a zc (some ⟨yb, yo, none⟩) yc
    · have K := Lib.hid (Ks.out (d + d2) hb hb2)
      go_wp2_with fail
      refine K.out.out.mono ?_
      clear K Kn Ks
      rintro e w2 ⟨b, o, c, rfl, hc1, hc2, ho, hG, hfr, hout, hdx, hdy⟩
      have HG := Lib.hid hG
      clear hG
      have hmul := Lib.hid (basicMul_any b o (m + n) c xb xo xc m yb yo yc n X Y w2 (by omega) (by omega) (by omega) (hfr.words hWX fun _ _ => id) (hfr.words hWY fun _ _ => id) (Nat.le_refl _) hc1 (ho.le hc1) (by have := apart_of hdx (by omega) (by omega); omega) (by have := apart_of hdy (by omega) (by omega); omega))
      have hkar := HG.out.kar
      go_wp2_with fail
      refine hmul.out.mono ?_
      rintro e w3 ⟨rfl, hw3, hf3⟩
      go_wp2_with fail
      refine (norm_some b o (m + n) c (X * Y) _ (by omega) hc1 hw3).mono ?_
      rintro e w' ⟨rfl, rfl⟩
      go_wp2_with fail
      go_ret
      refine ⟨some ⟨b, o, none⟩, c, rfl, Nt.mk' hc2 hc1 ?_ hw3, ?_, hout⟩
      · exact Fin.out ho hw3 hf3
      · exact Fin.fr hfr hf3 hout hc1
    · have K := Lib.hid (Kn.out (d + d2))
      go_wp2_with fail
      refine K.out.out.mono ?_
      clear K Kn Ks
      rintro e w2 ⟨b, o, c, rfl, hc1, hc2, ho, hG, hfr, hout, hdx, hdy⟩
      have HG := Lib.hid hG
      clear hG
      have hmul := Lib.hid (basicMul_any b o (m + n) c xb xo xc m yb yo yc n X Y w2 (by omega) (by omega) (by omega) (hfr.words hWX fun _ _ => id) (hfr.words hWY fun _ _ => id) (Nat.le_refl _) hc1 (ho.le hc1) (by have := apart_of hdx (by omega) (by omega); omega) (by have := apart_of hdy (by omega) (by omega); omega))
      have hkar := HG.out.kar
      go_wp2_with fail
      refine hmul.out.mono ?_
      rintro e w3 ⟨rfl, hw3, hf3⟩
      go_wp2_with fail
      refine (norm_some b o (m + n) c (X * Y) _ (by omega) hc1 hw3).mono ?_
      rintro e w' ⟨rfl, rfl⟩
      go_wp2_with fail
      go_ret
      refine ⟨some ⟨b, o, none⟩, c, rfl, Nt.mk' hc2 hc1 ?_ hw3, ?_, hout⟩
      · exact Fin.out ho hw3 hf3
      · exact Fin.fr hfr hf3 hout hc1
  · have K := Lib.hid (Kn.out d)
    go_wp2_with fail
    refine K.out.out.mono ?_
    clear K Kn Ks
    rintro e w2 ⟨b, o, c, rfl, hc1, hc2, ho, hG, hfr, hout, hdx, hdy⟩
    have HG := Lib.hid hG
    clear hG
    have hmul := Lib.hid (basicMul_any b o (m + n) c xb xo xc m yb yo yc n X Y w2 (by omega) (by omega) (by omega) (hfr.words hWX fun _ _ => id) (hfr.words hWY fun _ _ => id) (Nat.le_refl _) hc1 (ho.le hc1) (by have := apart_of hdx (by omega) (by omega); omega) (by have := apart_of hdy (by omega) (by omega); omega))
    have hkar := HG.out.kar
    go_wp2_with fail
    refine hmul.out.mono ?_
    rintro e w3 ⟨rfl, hw3, hf3⟩
    go_wp2_with fail
    refine (norm_some b o (m + n) c (X * Y) _ (by omega) hc1 hw3).mono ?_
    rintro e w' ⟨rfl, rfl⟩
    go_wp2_with fail
    go_ret
    refine ⟨some ⟨b, o, none⟩, c, rfl, Nt.mk' hc2 hc1 ?_ hw3, ?_, hout⟩
    · exact Fin.out ho hw3 hf3
    · exact Fin.fr hfr hf3 hout hc1
end Go.Proofs.YtgilnnipephfjaaGreatDoor
