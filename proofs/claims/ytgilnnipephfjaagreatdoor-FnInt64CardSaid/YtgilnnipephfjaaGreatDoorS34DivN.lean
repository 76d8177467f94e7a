/- Contract of natdiv.go: div where no stack is given, whatever the numbers. -/
import Derived.Test.YtgilnnipephfjaaGreatDoorM22Divs2
set_option linter.unusedSimpArgs false
set_option linter.unusedVariables false
namespace Go.Proofs.YtgilnnipephfjaaGreatDoor
open Go.RowKit

/-- What a division leaves. -/
structure DivOut (w w' : World) (za : Option Addr) (zc : Nat) (ua : Option Addr) (uc0 : Nat) (qa : Option Addr) (qc : Nat) (ra : Option Addr) (rc Q R : Nat) : Prop where
  q : Nt w' qa qc Q
  r : Nt w' ra rc R
  fr : Fr (fun x y => foot za zc x y ∨ foot ua uc0 x y) w w'
  qo : Out w za zc qa qc
  ro : Out w ua uc0 ra rc
  dj : Disj qa qc ra rc
/-- A new stack may write nothing that was there. -/
theorem sfree_new {w : World} (t : TypeId) (x y : Nat) (h : sfree (w.alloc (.cells #[.pointer none] t)) w.heap.size 0 0 x y) : x = w.heap.size := by
  rcases h with ⟨rfl, _⟩ | ⟨ib, h1, _⟩
  · rfl
  · rw [World.cell?_alloc_new] at h1
    simp at h1
set_option maxRecDepth 100000 in
set_option maxHeartbeats 4000000 in
theorem divBig_nil {za ua xa ya : Option Addr} {zl zc ul uc0 xc yc X Y : Nat} {w : World} (g : Gl w) (hz : Reg w za zc) (hzl : zl ≤ zc) (hu : Reg w ua uc0) (hul : ul ≤ uc0) (hX : Nt w xa xc X) (hY : Nt w ya yc Y)
    (h2 : 2 ≤ nlen Y) (h40 : nlen Y < 40) (hle : Y ≤ X) (hxl : nlen X < 1000) (hzu : Disj za zc ua uc0) (hux : Ap ua uc0 xa xc) :
    Calls Tryz.prog 182 #[.slice za zl zc, .pointer none, .slice ua ul uc0, .slice xa (nlen X) xc, .slice ya (nlen Y) yc] w fun e w' => ∃ qa qc ra rc,
      e = .returned (.tuple #[.slice qa (nlen (X / Y)) qc, .slice ra (nlen (X % Y)) rc]) ∧ DivOut w w' za zc ua uc0 qa qc ra rc (X / Y) (X % Y) := by
  have HC := Lib.hid (cmp_any hX hY)
  have HL : Hid (∀ d, Calls Tryz.prog 217 #[.slice za zl zc, .pointer (some ⟨w.heap.size, 0, none⟩), .slice ua ul uc0, .slice xa (nlen X) xc, .slice ya (nlen Y) yc] ((w.drewN d).alloc (.cells #[.pointer none] 258)) fun e w' => ∃ qb qo qc ub uo uc,
      e = .returned (.tuple #[.slice (some ⟨qb, qo, none⟩) (nlen (X / Y)) qc, .slice (some ⟨ub, uo, none⟩) (nlen (X % Y)) uc]) ∧ Aside (Stk w' w.heap.size 0 0 ∧ ∀ w'', Fr (sfree w' w.heap.size 0 0) w' w'' → DivOut w w'' za zc ua uc0 (some ⟨qb, qo, none⟩) qc (some ⟨ub, uo, none⟩) uc (X / Y) (X % Y))) := Lib.hid (fun d => by
    have hG := g.size
    have f0 := ((Fr.refl (fun _ _ => False) w).drewN d).alloc (.cells #[.pointer none] 258)
    have hsz : (w.drewN d).heap.size = w.heap.size := rfl
    have hS : Stk ((w.drewN d).alloc (.cells #[.pointer none] 258)) w.heap.size 0 0 := by rw [← hsz]; exact Stk.new (by rw [hsz]; exact hG) _
    have hf : ∀ x y, sfree ((w.drewN d).alloc (.cells #[.pointer none] 258)) w.heap.size 0 0 x y → x = w.heap.size := fun x y k => by rw [← hsz] at k ⊢; exact sfree_new _ x y k
    have old : ∀ {a : Option Addr} {c : Nat}, Reg w a c → ∀ x y, foot a c x y → ¬ sfree ((w.drewN d).alloc (.cells #[.pointer none] 258)) w.heap.size 0 0 x y := fun {a c} hr x y k1 k2 => by
      have h1 := hr.lt x y k1
      have h2 := hf x y k2
      omega
    refine (divLarge_any (g.fr f0 (fun _ _ k => k.elim)) hS (by omega) (f0.reg hz (fun _ _ _ k => k)) hzl (f0.reg hu (fun _ _ _ k => k)) hul (f0.nt hX (fun _ _ _ k => k)) (f0.nt hY (fun _ _ _ k => k)) h2 h40 (nlen_mono hle) hxl hzu hux (old hz) (old hu) (old hX.reg) (old hY.reg)).mono ?_
    rintro e w' ⟨qb, qo, qc, ub, uo, uc, rfl, r1, r2, r3, r4, r5, r6, r7, r8, r9, r10⟩
    refine ⟨qb, qo, qc, ub, uo, uc, rfl, ⟨r3, fun w'' k => ?_⟩⟩
    have nf : ∀ {b o c : Nat}, NF w' w.heap.size 0 0 b o c → ∀ x y, foot (some ⟨b, o, none⟩) c x y → ¬ sfree w' w.heap.size 0 0 x y := fun {b o c} hn x y k1 k2 => by
      rw [foot_some] at k1
      obtain ⟨rfl, h1, h2⟩ := k1
      have := hn (y - o) (by omega)
      rw [show o + (y - o) = y from by omega] at this
      exact this k2
    have le1 : w.heap.size ≤ ((w.drewN d).alloc (.cells #[.pointer none] 258)).heap.size := by simp
    have outw : ∀ {a a' : Option Addr} {c c' : Nat}, Out ((w.drewN d).alloc (.cells #[.pointer none] 258)) a c a' c' → Out w a c a' c' := fun {a a' c c'} h => h.imp (fun q => q) (fun ⟨b, o, e1, h1⟩ => ⟨b, o, e1, Nat.le_trans le1 h1⟩)
    refine ⟨k.nt r1 (nf r9), k.nt r2 (nf r10), ?_, outw r6, outw r7, r8⟩
    have f1 : Fr (fun x y => foot za zc x y ∨ foot ua uc0 x y) w w' := f0.trans' r5 (fun _ _ _ q => q.elim) (fun x y hx q => by
      rcases q with q | q | q
      · exact .inl q
      · exact .inr q
      · have := hf x y q; omega)
    refine f1.trans' k (fun _ _ _ q => q) (fun x y hx q => ?_)
    rcases r4 0 x y (Nat.le_refl _) q with q | q
    · have := hf x y q; omega
    · omega)
  have q0 : ((nlen Y : Int) == 0) = false := by simp; omega
  have q1 : ((nlen Y : Int) == 1) = false := by simp; omega
  have q2 := sg_nn (show ¬ X < Y by omega)
  obtain ⟨n, hn⟩ : ∃ z, nlen Y = z := ⟨_, rfl⟩
  obtain ⟨lx, hlx⟩ : ∃ z, nlen X = z := ⟨_, rfl⟩
  obtain ⟨sv, hsv⟩ : ∃ z, sg X Y = z := ⟨_, rfl⟩
  obtain ⟨nq, hnq⟩ : ∃ z, nlen (X / Y) = z := ⟨_, rfl⟩
  obtain ⟨nr, hnr⟩ : ∃ z, nlen (X % Y) = z := ⟨_, rfl⟩
  obtain ⟨Q, hQ⟩ : ∃ Q, X / Y = Q := ⟨_, rfl⟩
  obtain ⟨R, hR⟩ : ∃ R, X % Y = R := ⟨_, rfl⟩
  rw [hn, hlx] at HC HL ⊢
  rw [hsv] at HC q2
  rw [hnq, hnr] at HL ⊢
  rw [hn] at q0 q1
  rw [hQ, hR] at HL ⊢
  obtain ⟨sb, hsb⟩ : ∃ sb, w.heap.size = sb := ⟨_, rfl⟩
  rw [hsb] at HL
  have HSB := Aside.mk hsb
  clear g hz hu hX hY h2 h40 hle hxl hzu hux hn hlx hsv hnq hnr hQ hR
  go_enter_defers Tryz.func182, Tryz.ntmps182
  go_wp2_with fail
  refine HC.out.mono ?_
  rintro e w1 ⟨rfl, d, rfl⟩
  have hsd : (w.drewN d).heap.size = sb := hsb
  go_wp2_with fail
  refine (getStack_any _).mono ?_
  rintro e w2 ⟨rfl, hw2⟩
  rw [hsd]
  have HD := Lib.hid (HL.out d)
  rw [← hw2] at HD
  clear hw2 HL HC hsd hsb
  go_wp2_with fail
  refine HD.out.mono ?_
  rintro e w3 ⟨qb, qo, qc, ub, uo, uc, rfl, hA⟩
  go_wp2_with fail
  refine leaves_cons (f := 194) (args := #[.pointer (some ⟨sb, 0, none⟩)]) (by simp) (by simp [go_sem]) ?_
  refine (free_ds (n := 0) _ hA.out.1 (by omega)).mono ?_
  rintro e u' w'' ⟨rfl, rfl, hfe⟩
  exact ⟨_, results_tmp2 rfl _ _ _, _, _, _, _, rfl, hA.out.2 _ hfe⟩
set_option maxRecDepth 100000 in
theorem divW_one {a xa : Option Addr} {zl zc xc X : Nat} {w : World} (hG : NG ≤ w.heap.size) (hz : Reg w a zc) (hX : Nt w xa xc X) (hn : nlen X < 800000) :
    Calls Tryz.prog 216 #[.slice a zl zc, .slice xa (nlen X) xc, .int .u64 1] w fun e w' => ∃ a' c', e = .returned (.tuple #[.slice a' (nlen X) c', .int .u64 0]) ∧ Nt w' a' c' X ∧
      Fr (foot a zc) w w' ∧ Out w a zc a' c' := by
  have H := Lib.hid (set_any (zl := zl) (xc := xc) hG hz hX.words (by omega))
  obtain ⟨n, hn'⟩ : ∃ n, nlen X = n := ⟨_, rfl⟩
  have HN := Aside.mk hn'
  rw [hn'] at H ⊢
  clear hz hX hn hn'
  go_enter Tryz.func216, Tryz.ntmps216
  go_wp2_with fail
  refine H.out.mono ?_
  rintro e w1 ⟨a', c', rfl, h1, h2, h3, h4, h5⟩
  have K := Aside.mk (And.intro h1 (And.intro h2 (And.intro h3 (And.intro h4 h5))))
  clear h1 h2 h3 h4 h5 H
  go_wp2_with fail
  go_ret2
  obtain ⟨h1, h2, h3, h4, h5⟩ := K.out
  exact ⟨a', c', rfl, ⟨h2, by rw [HN.out]; exact h1, by rw [HN.out]; exact h3⟩, h4, h5⟩
set_option maxRecDepth 100000 in
set_option maxHeartbeats 1000000 in
theorem divOne_any {za ua xa ya : Option Addr} {zl zc ul uc0 xc yc X Y : Nat} {w : World} (stk : Value) (g : Gl w) (hz : Reg w za zc) (hu : Reg w ua uc0) (hX : Nt w xa xc X) (hY : Nt w ya yc Y)
    (hY0 : 0 < Y) (hYB : Y < B) (hxl : nlen X < 1000) (hzu : Disj za zc ua uc0) (hzx : Ap za zc xa xc) :
    Calls Tryz.prog 182 #[.slice za zl zc, stk, .slice ua ul uc0, .slice xa (nlen X) xc, .slice ya (nlen Y) yc] w fun e w' => ∃ qa qc ra rc,
      e = .returned (.tuple #[.slice qa (nlen (X / Y)) qc, .slice ra (nlen (X % Y)) rc]) ∧ DivOut w w' za zc ua uc0 qa qc ra rc (X / Y) (X % Y) := by
  obtain ⟨yb, yo, rfl, hyo, hWY⟩ := hY.pos (by omega)
  have hy1 : nlen Y = 1 := nlen_word (by omega) hYB
  have hcy := hWY.cell 0 (by omega)
  rw [wd_word hYB, Nat.add_zero] at hcy
  have hyl := hY.len
  rw [hy1] at hyl ⊢
  have HD : Hid (Calls Tryz.prog 216 #[.slice za zl zc, .slice xa (nlen X) xc, .int .u64 (Y : Nat)] w fun e w' => ∃ a' c', e = .returned (.tuple #[.slice a' (nlen (X / Y)) c', .int .u64 (X % Y : Nat)]) ∧ Aside (Nt w' a' c' (X / Y) ∧ Fr (foot za zc) w w' ∧ Out w za zc a' c')) := Lib.hid (by
    by_cases h1 : Y = 1
    · subst h1
      refine (divW_one g.size hz hX (by omega)).mono ?_
      rintro e w' ⟨a', c', rfl, k⟩
      rw [Nat.div_one, Nat.mod_one]
      exact ⟨a', c', rfl, ⟨k⟩⟩
    · refine (divW_any g.size hz hX (by omega) hYB (by omega) hzx).mono ?_
      rintro e w' ⟨a', c', rfl, k⟩
      exact ⟨a', c', rfl, ⟨k⟩⟩)
  have HS : Hid (∀ w1, Fr (foot za zc) w w1 → Calls Tryz.prog 204 #[.slice ua ul uc0, .int .u64 (X % Y : Nat)] w1 fun e w' => ∃ a' c', e = .returned (.slice a' (nlen (X % Y)) c') ∧ Aside (Nt w' a' c' (X % Y) ∧ Fr (foot ua uc0) w1 w' ∧ Out w1 ua uc0 a' c')) := Lib.hid (fun w1 f => by
    refine (setWord_any ua ul uc0 (X % Y) w1 (Nat.le_trans g.size f.size) (f.reg hu (fun b o k1 k2 => hzu b o k2 k1)) (Nat.lt_trans (Nat.mod_lt _ hY0) hYB)).mono ?_
    rintro e w' ⟨a', c', rfl, k⟩
    exact ⟨a', c', rfl, ⟨k⟩⟩)
  have HZ := Aside.mk hz
  have HU := Aside.mk hu
  obtain ⟨lx, hlx⟩ : ∃ z, nlen X = z := ⟨_, rfl⟩
  obtain ⟨nq, hnq⟩ : ∃ z, nlen (X / Y) = z := ⟨_, rfl⟩
  obtain ⟨nr, hnr⟩ : ∃ z, nlen (X % Y) = z := ⟨_, rfl⟩
  obtain ⟨Q, hQ⟩ : ∃ Q, X / Y = Q := ⟨_, rfl⟩
  obtain ⟨R, hR⟩ : ∃ R, X % Y = R := ⟨_, rfl⟩
  rw [hlx, hnq] at HD
  rw [hnr] at HS
  rw [hlx, hnq, hnr]
  rw [hQ, hR] at HD ⊢
  rw [hR] at HS
  clear g hz hu hX hY hxl hzx hy1 hWY hlx hnq hnr hQ hR hY0 hYB
  go_enter_defers Tryz.func182, Tryz.ntmps182
  go_wp2_with fail
  refine HD.out.mono ?_
  rintro e w1 ⟨qa, qc, rfl, k1⟩
  go_wp2_with fail
  refine (HS.out w1 k1.out.2.1).mono ?_
  rintro e w2 ⟨ra, rc, rfl, k2⟩
  go_wp2_with fail
  obtain ⟨h1, h2, h3⟩ := k1.out
  obtain ⟨h4, h5, h6⟩ := k2.out
  have hq : ∀ x y, foot qa qc x y → ¬ foot ua uc0 x y := fun x y j1 j2 => by
    rcases h3 with ⟨rfl, rfl⟩ | ⟨b, o, rfl, h7⟩
    · exact hzu x y j1 j2
    · rw [foot_some] at j1
      have := HU.out.lt x y j2
      omega
  refine ⟨_, results_tmp2 rfl _ _ _, qa, qc, ra, rc, rfl, h5.nt h1 hq, h4, h2.trans' h5 (fun _ _ _ q => .inl q) (fun _ _ _ q => .inr q), h3, ?_, ?_⟩
  · exact h6.imp (fun q => q) (fun ⟨b, o, e1, h7⟩ => ⟨b, o, e1, Nat.le_trans h2.size h7⟩)
  · intro x y j1 j2
    rcases h6 with ⟨rfl, rfl⟩ | ⟨b, o, rfl, h7⟩
    · exact hq x y j1 j2
    · rw [foot_some] at j2
      have := h1.reg.lt x y j1
      omega
set_option maxRecDepth 100000 in
set_option maxHeartbeats 1000000 in
theorem div_less {za ua xa ya : Option Addr} {zl zc ul uc0 xc yc X Y : Nat} {w : World} (stk : Value) (g : Gl w) (hz : Reg w za zc) (hzl : zl ≤ zc) (hu : Reg w ua uc0) (hX : Nt w xa xc X) (hY : Nt w ya yc Y)
    (h2 : 2 ≤ nlen Y) (hlt : X < Y) (hxl : nlen X < 1000) (hyl : nlen Y < 1000) (hzu : Disj za zc ua uc0) :
    Calls Tryz.prog 182 #[.slice za zl zc, stk, .slice ua ul uc0, .slice xa (nlen X) xc, .slice ya (nlen Y) yc] w fun e w' => ∃ qa qc ra rc,
      e = .returned (.tuple #[.slice qa (nlen (X / Y)) qc, .slice ra (nlen (X % Y)) rc]) ∧ DivOut w w' za zc ua uc0 qa qc ra rc (X / Y) (X % Y) := by
  rw [Nat.div_eq_of_lt hlt, Nat.mod_eq_of_lt hlt, nlen_zero]
  have HC := Lib.hid (cmp_any hX hY)
  have HS : Hid (∀ d, Calls Tryz.prog 184 #[.slice ua ul uc0, .slice xa (nlen X) xc] (w.drewN d) fun e w' => ∃ a' c', e = .returned (.slice a' (nlen X) c') ∧ Aside (Nt w' a' c' X ∧ Fr (foot ua uc0) w w' ∧ Out w ua uc0 a' c')) := Lib.hid (fun d => by
    refine (set_any (zl := ul) (xc := xc) (w := w.drewN d) g.size (hu.drewN d) (hX.drewN d).words (by omega)).mono ?_
    rintro e w' ⟨a', c', rfl, k1, k2, k3, k4, k5⟩
    exact ⟨a', c', rfl, ⟨⟨k2, k1, k3⟩, ((Fr.refl _ w).drewN d).trans k4, k5⟩⟩)
  have HZ := Aside.mk hz
  have HU := Aside.mk hu
  have q0 : ((nlen Y : Int) == 0) = false := by simp; omega
  have q1 : ((nlen Y : Int) == 1) = false := by simp; omega
  have q2 := sg_neg hlt
  have hz1 := hz.1
  obtain ⟨n, hn⟩ : ∃ z, nlen Y = z := ⟨_, rfl⟩
  obtain ⟨lx, hlx⟩ : ∃ z, nlen X = z := ⟨_, rfl⟩
  obtain ⟨sv, hsv⟩ : ∃ z, sg X Y = z := ⟨_, rfl⟩
  rw [hn, hlx] at HC
  rw [hlx] at HS
  rw [hn, hlx]
  rw [hsv] at HC q2
  rw [hn] at q0 q1
  clear g hz hu hX hY h2 hlt hxl hyl hn hlx hsv
  go_enter_defers Tryz.func182, Tryz.ntmps182
  go_wp2_with fail
  refine HC.out.mono ?_
  rintro e w1 ⟨rfl, d, rfl⟩
  go_wp2_with fail
  refine (HS.out d).mono ?_
  rintro e w2 ⟨ra, rc, rfl, k2⟩
  go_wp2_with fail
  obtain ⟨h4, h5, h6⟩ := k2.out
  refine ⟨_, results_tmp2 rfl _ _ _, za, zc, ra, rc, rfl, Nt.zero (h5.reg HZ.out (fun x y j1 j2 => hzu x y j1 j2)), h4, h5.mono (fun _ _ _ q => .inr q), .inl ⟨rfl, rfl⟩, h6, ?_⟩
  intro x y j1 j2
  rcases h6 with ⟨rfl, rfl⟩ | ⟨b, o, rfl, h7⟩
  · exact hzu x y j1 j2
  · rw [foot_some] at j2
    have := HZ.out.lt x y j1
    omega
/-- Division, whatever the numbers. -/
theorem div_nil {za ua xa ya : Option Addr} {zl zc ul uc0 xc yc X Y : Nat} {w : World} (g : Gl w) (hz : Reg w za zc) (hzl : zl ≤ zc) (hu : Reg w ua uc0) (hul : ul ≤ uc0) (hX : Nt w xa xc X) (hY : Nt w ya yc Y)
    (hY0 : 0 < Y) (h40 : nlen Y < 40) (hxl : nlen X < 1000) (hzu : Disj za zc ua uc0) (hzx : Ap za zc xa xc) (hux : Ap ua uc0 xa xc) :
    Calls Tryz.prog 182 #[.slice za zl zc, .pointer none, .slice ua ul uc0, .slice xa (nlen X) xc, .slice ya (nlen Y) yc] w fun e w' => ∃ qa qc ra rc,
      e = .returned (.tuple #[.slice qa (nlen (X / Y)) qc, .slice ra (nlen (X % Y)) rc]) ∧ DivOut w w' za zc ua uc0 qa qc ra rc (X / Y) (X % Y) := by
  by_cases h1 : Y < B
  · exact divOne_any (.pointer none) g hz hu hX hY hY0 h1 hxl hzu hzx
  · have h2 : 2 ≤ nlen Y := by
      apply Nat.le_of_not_lt; intro k
      have h3 : Y < B ^ 1 := (lt_Bpow_iff Y 1).2 (by omega)
      rw [Nat.pow_one] at h3
      exact h1 h3
    by_cases hlt : X < Y
    · exact div_less (.pointer none) g hz hzl hu hX hY h2 hlt hxl (by omega) hzu
    · exact divBig_nil g hz hzl hu hul hX hY h2 h40 (by omega) hxl hzu hux
end Go.Proofs.YtgilnnipephfjaaGreatDoor
