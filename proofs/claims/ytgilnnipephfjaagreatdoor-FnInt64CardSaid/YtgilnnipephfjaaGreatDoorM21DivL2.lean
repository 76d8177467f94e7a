/- Contract of natdiv.go: divLarge, below the threshold. -/
import Derived.Test.YtgilnnipephfjaaGreatDoorM20DivL
set_option linter.unusedSimpArgs false
set_option linter.unusedVariables false
namespace Go.Proofs.YtgilnnipephfjaaGreatDoor
open Go.RowKit

theorem Stk.fr0 {w w' : World} {sb so n : Nat} (h : Stk w sb so n) (f : Fr (fun _ _ => False) w w') : Stk w' sb so n ∧ ∀ k x y, sfree w' sb so k x y ↔ sfree w sb so k x y := h.fr f (fun _ _ k => k.elim)
/-- The state once dividend and divisor are moved up. -/
structure DL (w0 w3 : World) (sb so k k1 vb vo ub uo uc lx n N V : Nat) (ua : Option Addr) (uc0 : Nat) : Prop where
  v : Words w3 vb vo n V
  u : Words w3 ub uo (lx + 1) N
  own : Own w3 ub uo uc
  stk : Stk w3 sb so k1
  sub : SSub w0 w3 sb so k
  fr : Fr (fun x y => foot ua uc0 x y ∨ sfree w0 sb so k x y) w0 w3
  nv : NF w3 sb so k1 vb vo n
  nu : NF w3 sb so k ub uo uc
  duv : dis ub uo (lx + 1) vb vo n
  vlt : vb < w3.heap.size
  vsrc : ∀ i, i < n → sfree w0 sb so k vb (vo + i) ∨ w0.heap.size ≤ vb

theorem Words.push {w : World} {b o n v z : Nat} (h : Words w b o n v) (ho : Own w b o (n + 1)) (hz : z < B) : Words (w.setCell ⟨b, o + n, none⟩ (.int .u64 (z : Nat))) b o (n + 1) (v + B ^ n * z) := by
  refine ⟨snoc_lt h.lt hz, fun i hi => ?_⟩
  by_cases e : i = n
  · subst e
    obtain ⟨u, _, hu⟩ := ho.cell i hi
    rw [wd_hi v z h.lt hz]
    exact World.cell?_setCell_same _ _ _ hu
  · rw [World.cell?_setCell_other _ _ _ _ (by simp only [ne_eq, Addr.mk.injEq, and_true]; omega), wd_lo _ _ (by omega)]
    exact h.cell i (by omega)
theorem Own.keep {T : Nat → Nat → Prop} {w w' : World} {b o n : Nat} (h : Own w b o n) (f : Fr T w w') (ht : ∀ x y, T x y → x < w.heap.size → WC w' x y) : Own w' b o n :=
  ⟨fun i hi => by
    by_cases k : T b (o + i)
    · exact ht _ _ k h.kind.lt
    · obtain ⟨x, hx, hc⟩ := h.cell i hi
      exact ⟨x, hx, (f.cell b (o + i) h.kind.lt k).trans hc⟩, f.blk h.kind⟩
theorem dl_dis {w0 w1 : World} {sb so k k1 vb vo ub uo uc l n : Nat} {ua : Option Addr} {uc0 : Nat} (no : NatOut w0 w1 sb so k n vb vo k1) (hu : Reg w0 ua uc0) (fu : ∀ x y, foot ua uc0 x y → ¬ sfree w0 sb so k x y) (loc : Loc w1 ua uc0 ub uo uc) (hlc : l ≤ uc) (hl : 0 < l) (hn : 0 < n) : dis ub uo l vb vo n := by
  have hvlt : vb < w1.heap.size := no.own.kind.lt
  refine dis_of hl hn fun i hi j hj e1 e2 => ?_
  rcases loc with ⟨q1, q2⟩ | q
  · have hf : foot ua uc0 ub (uo + i) := by rw [q1, foot_some]; exact ⟨rfl, by omega, by omega⟩
    rcases no.src j hj with q3 | q3
    · exact fu _ _ hf (by rw [e1, e2]; exact q3)
    · have := hu.lt _ _ hf; omega
  · omega
theorem mkDL {w0 w1 w2 w3 : World} {sb so k k1 vb vo ub uo uc lx n N V : Nat} {ua : Option Addr} {uc0 : Nat} (hs0 : Stk w0 sb so k) (no : NatOut w0 w1 sb so k n vb vo k1) (hu : Reg w0 ua uc0) (fu : ∀ x y, foot ua uc0 x y → ¬ sfree w0 sb so k x y) (loc : Loc w1 ua uc0 ub uo uc)
    (own2 : Own w2 ub uo uc) (f2 : Fr (fun _ _ => False) w1 w2) (f3 : Fr (fun x y => (x = vb ∧ vo ≤ y ∧ y < vo + n) ∨ (x = ub ∧ uo ≤ y ∧ y < uo + (lx + 1))) w2 w3) (hv : Words w3 vb vo n V) (hw : Words w3 ub uo (lx + 1) N) (hlc : lx + 1 ≤ uc) (hn : 0 < n) :
    DL w0 w3 sb so k k1 vb vo ub uo uc lx n N V ua uc0 := by
  have ov2 : Own w2 vb vo n := f2.own no.own (fun _ _ q => q)
  have ov3 : Own w3 vb vo n := hv.own (f3.blk ov2.kind)
  have ou3 : Own w3 ub uo (lx + 1) := hw.own (f3.blk own2.kind)
  have wc2 : ∀ x y, ((x = vb ∧ vo ≤ y ∧ y < vo + n) ∨ (x = ub ∧ uo ≤ y ∧ y < uo + (lx + 1))) → x < w2.heap.size → WC w2 x y ∧ WC w3 x y := by
    rintro x y (q | q) _
    · exact ⟨ov2.wc q, ov3.wc q⟩
    · exact ⟨own2.wc ⟨q.1, q.2.1, by omega⟩, ou3.wc q⟩
  obtain ⟨s2, i2⟩ := no.stk.fr0 f2
  obtain ⟨s3, i3⟩ := s2.fr f3 wc2
  have i13 : ∀ j x y, sfree w3 sb so j x y ↔ sfree w1 sb so j x y := fun j x y => (i3 j x y).trans (i2 j x y)
  have hvlt : vb < w1.heap.size := no.own.kind.lt
  have h01 := no.fr.size
  have fu1 : ∀ x y, foot ua uc0 x y → ¬ sfree w1 sb so k x y := fun x y q1 q2 => by
    rcases no.sub k x y (Nat.le_refl _) q2 with q | q
    · exact fu x y q1 q
    · have := hu.lt x y q1; omega
  have nu1 : NF w1 sb so k ub uo uc := loc.nf no.stk k fu1
  have hdis : dis ub uo (lx + 1) vb vo n := dl_dis no hu fu loc hlc (by omega) hn
  refine ⟨hv, hw, own2.keep f3 (fun x y q hx => (wc2 x y q hx).2), s3, ?_, ?_, nf_iff (w := w1) no.off i13, nf_iff nu1 i13, hdis, ov3.kind.lt, no.src⟩
  · exact fun j x y hj q => no.sub j x y hj ((i13 j x y).1 q)
  · refine ((no.fr.mono (T := fun x y => foot ua uc0 x y ∨ sfree w0 sb so k x y) (fun x y _ q => .inr q)).trans (f2.mono (fun _ _ _ q => q.elim))).trans' f3 (fun _ _ _ q => q) (fun x y hx q => ?_)
    rcases q with ⟨rfl, q1, q2⟩ | ⟨rfl, q1, q2⟩
    · have := no.src (y - vo) (by omega)
      rw [show vo + (y - vo) = y from by omega] at this
      rcases this with q | q
      · exact .inr q
      · omega
    · rcases loc with ⟨e1, e2⟩ | q
      · left; rw [e1, foot_some]; exact ⟨rfl, q1, by omega⟩
      · omega

theorem disj_alias {w : World} {a a' : Option Addr} {c c' : Nat} (ha : Reg w a c) (h : Disj a c a' c') (ha' : Reg w a' c') : aliasB a c a' c' = false := by
  rcases ha.2 with ⟨rfl, _⟩ | ⟨b, o, rfl, _⟩
  · rfl
  · rcases ha'.2 with ⟨rfl, _⟩ | ⟨b', o', rfl, _⟩
    · rfl
    · cases hb : aliasB (some ⟨b, o, none⟩) c (some ⟨b', o', none⟩) c' with
      | false => rfl
      | true =>
        simp [aliasB] at hb
        obtain ⟨h1, h2, h3, h4⟩ := hb
        exact (h b (o + c - 1) ((foot_some _ _ _ _ _).2 ⟨rfl, by omega, by omega⟩) ((foot_some _ _ _ _ _).2 ⟨h3, by omega, by omega⟩)).elim
/-- The state once the digits are taken. -/
structure DF (w0 w5 : World) (sb so k k1 qb qo qc mb Q ub uo uc lu R : Nat) (za : Option Addr) (zc : Nat) (ua : Option Addr) (uc0 : Nat) : Prop where
  q : Words w5 qb qo mb Q
  qown : Own w5 qb qo qc
  u : Words w5 ub uo lu R
  uown : Own w5 ub uo uc
  stk : Stk w5 sb so k1
  sub : SSub w0 w5 sb so k
  fr : Fr (fun x y => foot za zc x y ∨ foot ua uc0 x y ∨ sfree w0 sb so k x y) w0 w5
  nq : NF w5 sb so k qb qo qc
  nu : NF w5 sb so k ub uo uc
  dqu : Disj (some ⟨qb, qo, none⟩) qc (some ⟨ub, uo, none⟩) uc
theorem mkDF {w0 wc w4 w5 : World} {sb so k k1 vb vo ub uo uc lx n N V qb qo qc mb Q R : Nat} {ua za : Option Addr} {uc0 zc : Nat} (h : DL w0 wc sb so k k1 vb vo ub uo uc lx n N V ua uc0) (hkk : k ≤ k1) (hul : lx + 1 ≤ uc) (hml : mb ≤ qc) (hloc : Loc wc za zc qb qo qc) (hz : Reg w0 za zc)
    (fz : ∀ x y, foot za zc x y → ¬ sfree w0 sb so k x y) (hq4 : Own w4 qb qo qc) (f4 : Fr (fun _ _ => False) wc w4) (hdz : Disj (some ⟨qb, qo, none⟩) qc (some ⟨ub, uo, none⟩) uc)
    (hq : Words w5 qb qo mb Q) (hu : Words w5 ub uo (lx + 1) R) (hs : Stk w5 sb so k1) (hsub : SSub w4 w5 sb so k1)
    (f5 : Fr (fun x y => (x = qb ∧ qo ≤ y ∧ y < qo + mb) ∨ (x = ub ∧ uo ≤ y ∧ y < uo + (lx + 1)) ∨ sfree w4 sb so k1 x y) w4 w5) (hloc2 : ∀ x y, x < w0.heap.size → x = ub → uo ≤ y → y < uo + uc → foot ua uc0 x y) :
    DF w0 w5 sb so k k1 qb qo qc mb Q ub uo uc (lx + 1) R za zc ua uc0 := by
  obtain ⟨s4, i4⟩ := h.stk.fr0 f4
  have u4 : Own w4 ub uo uc := f4.own h.own (fun _ _ q => q)
  have nq0 : NF wc sb so k qb qo qc := hloc.nf h.stk k (fun x y q1 q2 => by
    rcases h.sub k x y (Nat.le_refl _) q2 with q | q
    · exact fz x y q1 q
    · have := hz.lt x y q1; omega)
  have nq4 : NF w4 sb so k qb qo qc := nf_iff nq0 i4
  have nu4 : NF w4 sb so k ub uo uc := nf_iff h.nu i4
  have wcs : ∀ x y, (x = qb ∧ qo ≤ y ∧ y < qo + mb) ∨ (x = ub ∧ uo ≤ y ∧ y < uo + (lx + 1)) → WC w5 x y := by
    rintro x y (q | q)
    · exact (hq.own (f5.blk hq4.kind)).wc q
    · exact (hu.own (f5.blk u4.kind)).wc q
  have nf_out : ∀ b o l, NF w4 sb so k b o l → ∀ i, i < l → ¬ sfree w4 sb so k1 b (o + i) := fun b o l hn i hi q => hn i hi (q.le hkk)
  have keep : ∀ b o l, Own w4 b o l → NF w4 sb so k b o l → Own w5 b o l := fun b o l ho hn => ⟨fun i hi => by
    by_cases e : (b = qb ∧ qo ≤ o + i ∧ o + i < qo + mb) ∨ (b = ub ∧ uo ≤ o + i ∧ o + i < uo + (lx + 1))
    · exact wcs _ _ e
    · obtain ⟨x, hx, hc⟩ := ho.cell i hi
      refine ⟨x, hx, (f5.cell b (o + i) ho.kind.lt ?_).trans hc⟩
      rintro (q | q | q)
      · exact e (.inl q)
      · exact e (.inr q)
      · exact nf_out b o l hn i hi q, f5.blk ho.kind⟩
  have hs4 := f4.size
  refine ⟨hq, keep _ _ _ hq4 nq4, hu, keep _ _ _ u4 nu4, hs, ?_, ?_, ?_, ?_, hdz⟩
  · exact (h.sub.trans (SSub.of_iff i4) h.fr.size).trans (hsub.le hkk) (Nat.le_trans h.fr.size hs4)
  · have f04 : Fr (fun x y => foot za zc x y ∨ foot ua uc0 x y ∨ sfree w0 sb so k x y) w0 w4 := (h.fr.mono (fun x y _ q => .inr q)).trans' f4 (fun _ _ _ q => q) (fun _ _ _ q => q.elim)
    refine f04.trans' f5 (fun _ _ _ q => q) (fun x y hx q => ?_)
    rcases q with ⟨rfl, q1, q2⟩ | ⟨rfl, q1, q2⟩ | q
    · exact .inl (hloc.foot (w := w0) h.fr.size x y hx ⟨rfl, q1, by omega⟩)
    · exact .inr (.inl (hloc2 x y hx rfl q1 (by omega)))
    · have q' := (i4 k x y).1 (q.le hkk)
      rcases h.sub k x y (Nat.le_refl _) q' with r | r
      · exact .inr (.inr r)
      · omega
  · exact nq4.sub (Nat.le_refl _) (hsub.le hkk) hq4.kind.lt
  · exact nu4.sub (Nat.le_refl _) (hsub.le hkk) u4.kind.lt

set_option maxRecDepth 1000000 in
set_option maxHeartbeats 8000000 in
theorem divLarge_any {za ua xa ya : Option Addr} {zl zc ul uc0 xc yc X Y sb so k : Nat} {w : World} (g : Gl w) (hs : Stk w sb so k) (hk : k ≤ 500) (hz : Reg w za zc) (hzl : zl ≤ zc) (hu : Reg w ua uc0) (hul : ul ≤ uc0) (hX : Nt w xa xc X) (hY : Nt w ya yc Y)
    (h2 : 2 ≤ nlen Y) (h40 : nlen Y < 40) (hle : nlen Y ≤ nlen X) (hxl : nlen X < 1000) (hzu : Disj za zc ua uc0) (hux : Ap ua uc0 xa xc)
    (fz : ∀ x y, foot za zc x y → ¬ sfree w sb so k x y) (fu : ∀ x y, foot ua uc0 x y → ¬ sfree w sb so k x y) (fx : ∀ x y, foot xa xc x y → ¬ sfree w sb so k x y) (fy : ∀ x y, foot ya yc x y → ¬ sfree w sb so k x y) :
    Calls Tryz.prog 217 #[.slice za zl zc, .pointer (some ⟨sb, so, none⟩), .slice ua ul uc0, .slice xa (nlen X) xc, .slice ya (nlen Y) yc] w fun e w' => ∃ qb qo qc ub uo uc,
      e = .returned (.tuple #[.slice (some ⟨qb, qo, none⟩) (nlen (X / Y)) qc, .slice (some ⟨ub, uo, none⟩) (nlen (X % Y)) uc]) ∧ Nt w' (some ⟨qb, qo, none⟩) qc (X / Y) ∧ Nt w' (some ⟨ub, uo, none⟩) uc (X % Y) ∧
      Stk w' sb so k ∧ SSub w w' sb so k ∧ Fr (fun x y => foot za zc x y ∨ foot ua uc0 x y ∨ sfree w sb so k x y) w w' ∧ Out w za zc (some ⟨qb, qo, none⟩) qc ∧ Out w ua uc0 (some ⟨ub, uo, none⟩) uc ∧ Disj (some ⟨qb, qo, none⟩) qc (some ⟨ub, uo, none⟩) uc ∧
      NF w' sb so k qb qo qc ∧ NF w' sb so k ub uo uc := by
  have hX0 : X ≠ 0 := by intro e; rw [e, nlen_zero] at hle; omega
  have hY0 : Y ≠ 0 := by intro e; rw [e, nlen_zero] at h2; omega
  obtain ⟨xb, xo, rfl, hxo, hWX⟩ := hX.pos hX0
  obtain ⟨yb, yo, rfl, hyo, hWY⟩ := hY.pos hY0
  have hxc := hX.len
  have hyc := hY.len
  obtain ⟨t1, t2, t3, t4⟩ := shf_ok hY0
  have hXlt := nlen_lt X
  have hsh : Hid (∀ m, nlen X + 1 = nlen Y + m → X * 2 ^ shf Y < Y * 2 ^ shf Y * B ^ m) := Lib.hid (fun m hm => shf_top (X := X) (Y := Y) (m := m) (by rw [show nlen Y - 1 + m = nlen X from by omega]; exact hXlt) hY0 _)
  have hs64 : 64 - bl (wd Y (nlen Y - 1)) = shf Y := rfl
  obtain ⟨y1, hy1⟩ : ∃ z, wd Y (nlen Y - 1) = z := ⟨_, rfl⟩
  have hyl : y1 < B := by rw [← hy1]; exact wd_lt _ _
  have hcy := hWY.cell (nlen Y - 1) (by omega)
  rw [hy1] at hcy hs64
  have hfit := shf_fit hXlt t2
  have hXB : Aside (X < B ^ nlen X) := ⟨hXlt⟩
  have hYB : Aside (Y < B ^ nlen Y) := ⟨nlen_lt Y⟩
  obtain ⟨s, hsv⟩ : ∃ z, shf Y = z := ⟨_, rfl⟩
  obtain ⟨n, hn⟩ : ∃ z, nlen Y = z := ⟨_, rfl⟩
  obtain ⟨lx, hlx⟩ : ∃ z, nlen X = z := ⟨_, rfl⟩
  rw [hsv] at hsh t2 t3 t4 hs64 hfit
  rw [hn] at h2 h40 hle hyc hWY t3 t4 hsh hcy hYB
  rw [hlx] at hle hxl hxc hWX hsh hfit hXB
  rw [hlx, hn]
  have i1 : ((n : Int) - 1).toNat = n - 1 := by omega
  have HNL := Lib.hid (nlz_any y1 w hyl)
  rw [hs64] at HNL
  have HS := Lib.hid (save_any hs (by omega))
  have HNT := Lib.hid (nat_any (m := n) g.size hs (by omega) (by omega) (by omega))
  have HG := Aside.mk g
  have HST := Aside.mk hs
  have HZ := Aside.mk hz
  have HU := Aside.mk hu
  have HXX := Aside.mk (And.intro hX (And.intro hxo hWX))
  have HYY := Aside.mk (And.intro hY (And.intro hyo hWY))
  have HF := Aside.mk (And.intro fz (And.intro fu (And.intro fx fy)))
  have HD := Aside.mk (And.intro hzu hux)
  have HT3 := Aside.mk t3
  have HT4 := Aside.mk t4
  have HFIT := Aside.mk hfit
  have HSH := Aside.mk hsh
  have HN := Aside.mk hn
  have HLX := Aside.mk hlx
  clear g hs hz hu hX hY hxo hyo hWX hWY fz fu fx fy hzu hux hXlt hs64 hy1 t1 t3 t4 hfit hsh hn hlx hX0
  go_enter_defers Tryz.func217, Tryz.ntmps217
  go_wp2_with fail
  refine HS.out.mono ?_
  rintro e wz ⟨rfl, rfl⟩
  go_wp2_with fail
  refine HNL.out.mono ?_
  rintro e w0 ⟨rfl, rfl⟩
  go_wp2_with fail
  refine HNT.out.mono ?_
  rintro e w1 ⟨vb, vo, vc, k1, rfl, hvc, hno⟩
  have HNO := Aside.mk hno
  have hr1 : Reg w1 ua uc0 := hno.fr.reg HU.out HF.out.2.1
  have HM := Lib.hid (make_any ua ul uc0 (lx + 1) w1 (Nat.le_trans HG.out.size hno.fr.size) hr1 (by omega) (by omega))
  rw [show ((lx + 1 : Nat) : Int) = (lx : Int) + 1 from rfl] at HM
  clear hno hr1 HNT HNL HS hcy
  go_wp2_with fail
  refine HM.out.mono ?_
  rintro e w2 ⟨ub, uo, uc, rfl, huc, huc2, huo, hf2, hl2⟩
  have hloc : Loc w1 ua uc0 ub uo uc := hl2
  have LOC := Aside.mk hloc
  have HUO := Aside.mk huo
  have HF2 := Aside.mk hf2
  have hkk := HNO.out.le2
  have hkk0 := HNO.out.le
  -- the operands, as they stand now
  have hx2 : Words w2 xb xo lx X := hf2.words (HNO.out.fr.words HXX.out.2.2 (fun i hi q => HF.out.2.2.1 _ _ ((foot_some _ _ _ _ _).2 ⟨rfl, by omega, by omega⟩) q)) (fun _ _ q => q)
  have hy2 : Words w2 yb yo n Y := hf2.words (HNO.out.fr.words HYY.out.2.2 (fun i hi q => HF.out.2.2.2 _ _ ((foot_some _ _ _ _ _).2 ⟨rfl, by omega, by omega⟩) q)) (fun _ _ q => q)
  have hv2 : Own w2 vb vo n := hf2.own HNO.out.own (fun _ _ q => q)
  have hvx : ∀ i, i < n → ∀ j, j < lx → vb = xb → vo + i ≠ xo + j := fun i hi j hj e1 e2 => by
    rcases HNO.out.src i hi with q | q
    · exact HF.out.2.2.1 xb (xo + j) ((foot_some _ _ _ _ _).2 ⟨rfl, by omega, by omega⟩) (by rw [← e1, ← e2]; exact q)
    · have := HXX.out.2.1.kind.lt; omega
  have hvy : ∀ i, i < n → ∀ j, j < n → vb = yb → vo + i ≠ yo + j := fun i hi j hj e1 e2 => by
    rcases HNO.out.src i hi with q | q
    · exact HF.out.2.2.2 yb (yo + j) ((foot_some _ _ _ _ _).2 ⟨rfl, by omega, by omega⟩) (by rw [← e1, ← e2]; exact q)
    · have := HYY.out.2.1.kind.lt; omega
  have dvx := dis_of (b := vb) (o := vo) (n := n) (b' := xb) (o' := xo) (n' := lx) (by omega) (by omega) hvx
  have dvy := dis_of (b := vb) (o := vo) (n := n) (b' := yb) (o' := yo) (n' := n) (by omega) (by omega) hvy
  have dux : ub ≠ xb ∨ xo ≤ uo ∨ uo + lx ≤ xo := by
    rcases hloc with ⟨q1, q2⟩ | q
    · rcases HD.out.2 with ⟨e, _⟩ | q3
      · rw [q1] at e; cases e; exact .inr (.inl (Nat.le_refl _))
      · rw [q1] at q3
        have := apart_of q3 (by omega) (by omega); omega
    · left; have := HXX.out.2.1.kind.lt; have := HNO.out.fr.size; omega
  unfold dis at dvx dvy
  have HDIS := Aside.mk (And.intro dvx (And.intro dvy dux))
  have HX2 := Aside.mk hx2
  have HY2 := Aside.mk hy2
  have HV2 := Aside.mk hv2
  clear hvx hvy hx2 hy2 hv2 dvx dvy dux hloc huo hf2 hl2 HM
  go_upto_if 40 with (fail)
  go_cut [] from 39 to 68 (fun wx => Aside (DL w0 wx sb so k k1 vb vo ub uo uc lx n (X * 2 ^ s) (Y * 2 ^ s) ua uc0))
  case first =>
    by_cases hs0 : s = 0
    · have z0 : ((s : Int) == 0) = true := by simp [hs0]
      have c1 := run_copyW 65 65 3 Tryz.underlying65 (c := vc) (c' := yc) HY2.out HV2.out (Nat.le_refl n)
      have hua : Own (putW w2 vb vo n Y) ub uo (lx + 1) := (HUO.out.le huc).put _ _ _ _
      have hxa : Words (putW w2 vb vo n Y) xb xo lx X := (Fr_putW w2 vb vo n Y).words HX2.out (fun i hi => by have := HDIS.out.1; omega)
      have c2 := run_copyW 65 65 3 Tryz.underlying65 (n := lx) (c := uc) (c' := xc) hxa (hua.le (by omega)) (Nat.le_refl lx)
      have fin : Aside (DL w0 ((putW (putW w2 vb vo n Y) ub uo lx X).setCell ⟨ub, uo + lx, none⟩ (.int .u64 0)) sb so k k1 vb vo ub uo uc lx n (X * 2 ^ s) (Y * 2 ^ s) ua uc0) := ⟨by
        have e : (putW (putW w2 vb vo n Y) ub uo lx X).setCell ⟨ub, uo + lx, none⟩ (.int .u64 0) = putW (putW w2 vb vo n Y) ub uo (lx + 1) X := by
          have := putW_snoc (putW w2 vb vo n Y) ub uo lx X 0 hXB.out B_pos
          rw [Nat.mul_zero, Nat.add_zero] at this
          exact this
        have hX1 : X < B ^ (lx + 1) := Nat.lt_of_lt_of_le hXB.out (Nat.pow_le_pow_right B_pos (by omega))
        rw [e, hs0, Nat.pow_zero, Nat.mul_one, Nat.mul_one]
        have hdu := dl_dis (l := lx + 1) HNO.out HU.out HF.out.2.1 LOC.out huc (by omega) (by omega)
        have f3 : Fr (fun x y => (x = vb ∧ vo ≤ y ∧ y < vo + n) ∨ (x = ub ∧ uo ≤ y ∧ y < uo + (lx + 1))) w2 (putW (putW w2 vb vo n Y) ub uo (lx + 1) X) :=
          ((Fr_putW w2 vb vo n Y).mono (fun x y _ q => .inl q)).trans ((Fr_putW _ ub uo (lx + 1) X).mono (fun x y _ q => .inr q))
        exact mkDL HST.out HNO.out HU.out HF.out.2.1 LOC.out HUO.out HF2.out f3 ((Fr_putW _ ub uo (lx + 1) X).words (Words_putW w2 vb vo n Y hYB.out HV2.out) (fun i hi => by unfold dis at hdu; omega)) (Words_putW _ ub uo (lx + 1) X hX1 hua) huc (by omega)⟩
      obtain ⟨uu, _, huu⟩ := (hua.put ub uo lx X).cell lx (by omega)
      have hfu := (hua.put ub uo lx X).free lx (by omega)
      clear hua hxa hs0
      go_wp2_with fail
      go_meet
      exact fin
    · have z0 : ((s : Int) == 0) = false := by simp [hs0]
      have L1 := Lib.hid (lshVU_any vb vo vc yb yo yc n Y s w2 (by omega) (by omega) (by omega) t2 HY2.out HV2.out (by have := HDIS.out.2.1; omega))
      rw [Nat.mod_eq_of_lt HT3.out] at L1
      have L2 : Hid (∀ w3, Fr (fun b o => b = vb ∧ vo ≤ o ∧ o < vo + n) w2 w3 → Calls Tryz.prog 255 #[.slice (some ⟨ub, uo, none⟩) lx uc, .slice (some ⟨xb, xo, none⟩) lx xc, .int .u64 s] w3 fun e w' =>
          e = .returned (.int .u64 (X * 2 ^ s / B ^ lx : Nat)) ∧ Words w' ub uo lx (X * 2 ^ s % B ^ lx) ∧ Fr (fun b o => b = ub ∧ uo ≤ o ∧ o < uo + lx) w3 w') := Lib.hid (fun w3 f3 => by
        have hdu := dl_dis (l := lx) HNO.out HU.out HF.out.2.1 LOC.out (by omega) (by omega) (show 0 < n by omega)
        unfold dis at hdu
        exact lshVU_any ub uo uc xb xo xc lx X s w3 (by omega) (by omega) (by omega) t2 (f3.words HX2.out (fun i hi => by have := HDIS.out.1; omega)) ((f3.own HUO.out (fun i hi q => by
          have hdu2 := dl_dis (l := uc) HNO.out HU.out HF.out.2.1 LOC.out (by omega) (by omega) (show 0 < n by omega)
          unfold dis at hdu2
          omega)).le (by omega)) HDIS.out.2.2)
      have hq : X * 2 ^ s / B ^ lx < B := Nat.div_lt_of_lt_mul (by rw [← Nat.pow_succ]; exact HFIT.out)
      obtain ⟨q, hqe⟩ : ∃ z, X * 2 ^ s / B ^ lx = z := ⟨_, rfl⟩
      rw [hqe] at hq L2
      have HQE := Aside.mk hqe
      clear hs0 hqe
      go_wp2_with fail
      refine L1.out.mono ?_
      rintro e w3 ⟨rfl, r1, r2⟩
      have R1 := Aside.mk r1
      have R2 := Aside.mk r2
      clear r1 r2 L1
      go_wp2_with fail
      refine (L2.out _ R2.out).mono ?_
      rintro e w4 ⟨rfl, r3, r4⟩
      have hdu := dl_dis (l := uc) HNO.out HU.out HF.out.2.1 LOC.out (Nat.le_refl _) (by omega) (show 0 < n by omega)
      have hou : Own w4 ub uo (lx + 1) := by
        refine (((R2.out.own HUO.out (fun i hi q => by unfold dis at hdu; omega)).le huc).keep r4 (fun x y q _ => ?_))
        exact (r3.own (r4.blk (R2.out.blk HUO.out.kind))).wc q
      obtain ⟨uu, _, huu⟩ := hou.cell lx (by omega)
      have hfu := hou.free lx (by omega)
      have fin : Aside (DL w0 (w4.setCell ⟨ub, uo + lx, none⟩ (.int .u64 (q : Nat))) sb so k k1 vb vo ub uo uc lx n (X * 2 ^ s) (Y * 2 ^ s) ua uc0) := ⟨by
        have hw := r3.push hou hq
        rw [← HQE.out, Nat.mod_add_div] at hw
        rw [← HQE.out]
        have f3 : Fr (fun x y => (x = vb ∧ vo ≤ y ∧ y < vo + n) ∨ (x = ub ∧ uo ≤ y ∧ y < uo + (lx + 1))) w2 (w4.setCell ⟨ub, uo + lx, none⟩ (.int .u64 (X * 2 ^ s / B ^ lx : Nat))) :=
          ((R2.out.mono (fun x y _ q => .inl q)).trans (r4.mono (fun x y _ q => .inr ⟨q.1, q.2.1, by omega⟩))).setCell ub (uo + lx) _ (fun _ => .inr ⟨rfl, by omega, by omega⟩)
        have f4 : Fr (fun x y => x = ub ∧ uo ≤ y ∧ y < uo + (lx + 1)) w3 (w4.setCell ⟨ub, uo + lx, none⟩ (.int .u64 (X * 2 ^ s / B ^ lx : Nat))) := (r4.mono (fun x y _ q => ⟨q.1, q.2.1, by omega⟩)).setCell ub (uo + lx) _ (fun _ => ⟨rfl, by omega, by omega⟩)
        exact mkDL HST.out HNO.out HU.out HF.out.2.1 LOC.out HUO.out HF2.out f3 (f4.words R1.out (fun i hi q => by unfold dis at hdu; omega)) hw huc (by omega)⟩
      clear r3 r4 hou hdu
      go_wp2_with fail
      go_meet
      exact fin
  case rest =>
    have HL := hcut
    clear hcut HDIS HX2 HY2 HV2 HUO HF2
    obtain ⟨mb, hmb⟩ : ∃ z, lx + 1 = n + z := ⟨lx + 1 - n, by omega⟩
    have hmi : (lx : Int) - (n : Int) + 1 = ((mb : Nat) : Int) := by omega
    have hmb1 : 0 < mb := by omega
    have hmb2 : mb < 2000 := by omega
    have HMB := Aside.mk hmb
    have hzc : Reg wc za zc := HL.out.fr.reg HZ.out (fun x y q1 q2 => by
      rcases q2 with q2 | q2
      · exact HD.out.1 x y q1 q2
      · exact HF.out.1 x y q1 q2)
    have hfo : ∀ x y, x < w0.heap.size → x = ub → uo ≤ y → y < uo + uc → foot ua uc0 x y := fun x y hx e q1 q2 => by
      rcases LOC.out with ⟨e1, e2⟩ | q
      · rw [e1, foot_some]; exact ⟨e, q1, by omega⟩
      · have := HNO.out.fr.size; omega
    have hdzu : Disj za zc (some ⟨ub, uo, none⟩) uc := fun x y q1 q2 => by
      rw [foot_some] at q2
      exact HD.out.1 x y q1 (hfo x y (HZ.out.lt x y q1) q2.1 q2.2.1 q2.2.2)
    have hru : Reg wc (some ⟨ub, uo, none⟩) uc := ⟨huc2, .inr ⟨ub, uo, rfl, HL.out.own⟩⟩
    have HAL := Lib.hid (alias_any (n := zl) (n' := lx + 1) hzl huc hzc hru)
    rw [disj_alias hzc hdzu hru] at HAL
    have HMQ : Hid (∀ d, Calls Tryz.prog 188 #[.slice za zl zc, .int .i64 ((mb : Nat) : Int)] (wc.drewN d) fun e w4 => ∃ qb qo qc, e = .returned (.slice (some ⟨qb, qo, none⟩) mb qc) ∧ mb ≤ qc ∧ qc < 1000000 ∧ Aside (Own w4 qb qo qc) ∧ Aside (Fr (fun _ _ => False) wc w4) ∧ Aside (Loc wc za zc qb qo qc)) := Lib.hid (fun d => by
      refine (make_any za zl zc mb (wc.drewN d) (Nat.le_trans HG.out.size HL.out.fr.size) (hzc.drewN d) (by omega) (by omega)).mono ?_
      rintro e w4 ⟨qb, qo, qc, rfl, r1, r2, r3, r4, r5⟩
      exact ⟨qb, qo, qc, rfl, r1, r2, ⟨r3⟩, ⟨((Fr.refl _ wc).drewN d).trans r4⟩, ⟨r5⟩⟩)
    have HFO := Aside.mk hfo
    have HDZU := Aside.mk hdzu
    clear hfo hdzu hzc hru hmb
    go_wp2_with fail
    refine HAL.out.mono ?_
    rintro e w3 ⟨rfl, d, rfl⟩
    go_wp2_with fail
    refine (HMQ.out _).mono ?_
    rintro e w4 ⟨qb, qo, qc, rfl, hqc, hqc2, hqo, hf4, hlq⟩
    clear HAL HMQ
    have hg4 : Gl w4 := HG.out.fr ((HL.out.fr.trans' hf4.out (U := fun x y => foot ua uc0 x y ∨ sfree w0 sb so k x y) (fun _ _ _ q => q) (fun _ _ _ q => q.elim))) (fun x y q => by
      rcases q with q | q
      · exact HU.out.lo x y q
      · exact HST.out.free_lo q)
    have hdr := hg4.drec
    have hn40 : (n : Int) < 40 := by omega
    have hdqu : Disj (some ⟨qb, qo, none⟩) qc (some ⟨ub, uo, none⟩) uc := fun x y q1 q2 => by
      rw [foot_some] at q1
      by_cases hx : x < wc.heap.size
      · exact HDZU.out x y (hlq.out.foot (Nat.le_refl _) x y hx q1) q2
      · rw [foot_some] at q2
        have := HL.out.own.kind.lt
        omega
    have i4 := (HL.out.stk.fr0 hf4.out).2
    have HDV : Hid (Calls Tryz.prog 257 #[.slice (some ⟨qb, qo, none⟩) mb qc, .pointer (some ⟨sb, so, none⟩), .slice (some ⟨ub, uo, none⟩) (lx + 1) uc, .slice (some ⟨vb, vo, none⟩) n vc] w4 fun e w5 => e = .returned (.tuple #[]) ∧
        Aside (DF w0 w5 sb so k k1 qb qo qc mb (X / Y) ub uo uc (lx + 1) (X % Y * 2 ^ s) za zc ua uc0)) := Lib.hid (by
      have d1 := apart_of hdqu (by omega) (by omega)
      have nq : NF wc sb so k1 qb qo qc := (hlq.out.nf HL.out.stk k1 (fun x y q1 q2 => by
        rcases HL.out.sub k x y (Nat.le_refl _) (q2.le hkk0) with q | q
        · exact HF.out.1 x y q1 q
        · have := HZ.out.lt x y q1; omega))
      have nq4 := nf_iff nq i4
      have nu4 := nf_iff (HL.out.nu.le hkk0) i4
      have nv4 := nf_iff HL.out.nv i4
      have dqv : dis qb qo mb vb vo n := dis_of (by omega) (by omega) fun i hi j hj e1 e2 => by
        rcases hlq.out with ⟨q1, q2⟩ | q
        · have hf : foot za zc qb (qo + i) := by rw [q1, foot_some]; exact ⟨rfl, by omega, by omega⟩
          rcases HL.out.vsrc j hj with q3 | q3
          · exact HF.out.1 _ _ hf (by rw [e1, e2]; exact q3)
          · have := HZ.out.lt _ _ hf; omega
        · have := HL.out.vlt; omega
      have hmb := HMB.out
      rw [hmb]
      have D := divBasic_any (qc := qc) (uc := uc) (vc := vc) (m := mb) (N := X * 2 ^ s) (V := Y * 2 ^ s) (Nat.le_trans HG.out.size (Nat.le_trans HL.out.fr.size hf4.out.size)) (HL.out.stk.fr0 hf4.out).1 (by omega) h2 (by omega) (by omega) (by omega) (by omega) (by rw [← hmb]; exact hf4.out.words HL.out.u (fun _ _ q => q))
        (hf4.out.blk HL.out.own.kind) (hf4.out.words HL.out.v (fun _ _ q => q)) (hqo.out.le hqc) HT4.out (HSH.out.out mb hmb) (by unfold dis; omega) dqv (by rw [← hmb]; exact HL.out.duv) (fun i hi => nq4 i (by omega)) (fun i hi => nu4 i (by omega)) nv4
      refine D.mono ?_
      rintro e w5 ⟨rfl, r1, r2, r3, r4, r5⟩
      rw [shf_quo] at r1
      rw [shf_rem, ← hmb] at r2
      rw [← hmb] at r5
      exact ⟨rfl, ⟨by rw [← hmb]; exact mkDF HL.out hkk0 huc hqc hlq.out HZ.out HF.out.1 hqo.out hf4.out hdqu r1 r2 r3 r4 r5 HFO.out⟩⟩)
    have HLQ := hlq
    clear hg4 i4 hdqu hqo hf4 hlq
    go_wp2_with fail
    refine HDV.out.mono ?_
    rintro e w5 ⟨rfl, hdf⟩
    clear HDV
    go_wp2_with fail
    refine (norm_some qb qo mb qc (X / Y) _ (by omega) hqc hdf.out.q).mono ?_
    rintro e w6 ⟨rfl, rfl⟩
    go_upto_if 92 with (fail)
    go_cut [] from 69 to 96 (fun wx => Aside (DF w0 wx sb so k k1 qb qo qc mb (X / Y) ub uo uc (lx + 1) (X % Y) za zc ua uc0))
    case first =>
      by_cases hs0 : s = 0
      · have z0 : ((s : Int) != 0) = false := by simp [hs0]
        have fin : Aside (DF w0 w6 sb so k k1 qb qo qc mb (X / Y) ub uo uc (lx + 1) (X % Y) za zc ua uc0) := ⟨by have := hdf.out; rwa [hs0, Nat.pow_zero, Nat.mul_one] at this⟩
        clear hs0
        go_wp2_with fail
        go_meet
        exact fin
      · have z0 : ((s : Int) != 0) = true := by simp [hs0]
        have HRS := Lib.hid (rshVU_any ub uo uc ub uo uc (lx + 1) (X % Y * 2 ^ s) s w6 (by omega) (by omega) (by omega) t2 hdf.out.u (hdf.out.uown.le huc) (.inr (.inl (Nat.le_refl _))))
        rw [Nat.mul_div_cancel _ (Nat.pow_pos (by decide))] at HRS
        clear hs0
        go_wp2_with fail
        refine HRS.out.mono ?_
        rintro e w7 ⟨c7, rfl, r1, r2⟩
        have fin : Aside (DF w0 w7 sb so k k1 qb qo qc mb (X / Y) ub uo uc (lx + 1) (X % Y) za zc ua uc0) := ⟨by
          have h5 := hdf.out
          have hou := h5.uown.le huc
          have wcs : ∀ x y, (x = ub ∧ uo ≤ y ∧ y < uo + (lx + 1)) → x < w6.heap.size → WC w6 x y ∧ WC w7 x y := fun x y q _ => ⟨hou.wc q, (r1.own (r2.blk hou.kind)).wc q⟩
          obtain ⟨s7, i7⟩ := h5.stk.fr r2 wcs
          have hd := h5.dqu
          refine ⟨r2.words h5.q (fun i hi q => hd qb (qo + i) ((foot_some _ _ _ _ _).2 ⟨rfl, by omega, by omega⟩) ((foot_some _ _ _ _ _).2 ⟨q.1, q.2.1, by omega⟩)), h5.qown.keep r2 (fun x y q hx => (wcs x y q hx).2), r1, h5.uown.keep r2 (fun x y q hx => (wcs x y q hx).2), s7, ?_, ?_, nf_iff h5.nq i7, nf_iff h5.nu i7, hd⟩
          · exact fun j x y hj q => h5.sub j x y hj ((i7 j x y).1 q)
          · exact h5.fr.trans' r2 (fun _ _ _ q => q) (fun x y hx q => .inr (.inl (HFO.out x y hx q.1 q.2.1 (by omega))))⟩
        clear r1 r2
        go_wp2_with fail
        go_meet
        exact fin
    case rest =>
      have HDF := hcut
      clear hcut hdf
      go_wp2_with fail
      refine (norm_some ub uo (lx + 1) uc (X % Y) _ (by omega) huc HDF.out.u).mono ?_
      rintro e w8 ⟨rfl, rfl⟩
      go_wp2_with fail
      refine leaves_cons (f := 251) (args := #[.pointer (some ⟨sb, so, none⟩), .int .i64 (k : Nat)]) (by simp) (by simp [go_sem]) ?_
      refine (restore_d _ HDF.out.stk hkk0 (by omega)).mono ?_
      rintro e u' w9 ⟨rfl, rfl, r1, r2, r3⟩
      refine ⟨_, results_tmp2 rfl _ _ _, ?_⟩
      have h5 := HDF.out
      have nq9 : NF w9 sb so k qb qo qc := nf_iff h5.nq r3
      have nu9 : NF w9 sb so k ub uo uc := nf_iff h5.nu r3
      refine ⟨qb, qo, qc, ub, uo, uc, rfl, ?_, ?_, r1, fun j x y hj q => h5.sub j x y hj ((r3 j x y).1 q), ?_, HLQ.out.out (w := w0) HL.out.fr.size, LOC.out.out (w := w0) HNO.out.fr.size, h5.dqu, nq9, nu9⟩
      · exact Nt.mk' hqc2 hqc (r2.own h5.qown (fun i hi q => h5.nq i hi (q.le hkk0))) (r2.words h5.q (fun i hi q => h5.nq i (by omega) (q.le hkk0)))
      · exact Nt.mk' huc2 huc (r2.own h5.uown (fun i hi q => h5.nu i hi (q.le hkk0))) (r2.words h5.u (fun i hi q => h5.nu i (by omega) (q.le hkk0)))
      · refine h5.fr.trans' r2 (fun _ _ _ q => q) (fun x y hx q => ?_)
        rcases h5.sub k x y (Nat.le_refl _) (q.le hkk0) with q | q
        · exact .inr (.inr q)
        · omega
end Go.Proofs.YtgilnnipephfjaaGreatDoor
