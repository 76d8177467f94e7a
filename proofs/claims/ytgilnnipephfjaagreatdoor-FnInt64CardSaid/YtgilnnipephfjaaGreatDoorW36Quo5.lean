/- Int.QuoRem of numbers not below 0, no two of them one. apd's BigInt.QuoRem over Int.QuoRem: numbers not below 0, no two of them one. The drawn regions of Int.Quo. Int.Quo and apd's BigInt.Quo of numbers not below 0, no two of them one. -/
import Derived.Test.YtgilnnipephfjaaGreatDoorS35Quo1
import Derived.Test.YtgilnnipephfjaaGreatDoorM25Dig
set_option linter.unusedSimpArgs false
set_option linter.unusedVariables false
namespace Go.Proofs.YtgilnnipephfjaaGreatDoor
open Go.RowKit

theorem off00 {b o b' o' : Nat} (h : b ≠ b' ∨ o + 2 ≤ o' ∨ o' + 2 ≤ o) : b ≠ b' ∨ o ≠ o' := by omega
theorem off01 {b o b' o' : Nat} (h : b ≠ b' ∨ o + 2 ≤ o' ∨ o' + 2 ≤ o) : b ≠ b' ∨ o ≠ o' + 1 := by omega
theorem off10 {b o b' o' : Nat} (h : b ≠ b' ∨ o + 2 ≤ o' ∨ o' + 2 ≤ o) : b ≠ b' ∨ o + 1 ≠ o' := by omega
theorem off11 {b o b' o' : Nat} (h : b ≠ b' ∨ o + 2 ≤ o' ∨ o' + 2 ≤ o) : b ≠ b' ∨ o + 1 ≠ o' + 1 := by omega
theorem off_sym {b o b' o' : Nat} (h : b ≠ b' ∨ o + 2 ≤ o' ∨ o' + 2 ≤ o) : b' ≠ b ∨ o' + 2 ≤ o ∨ o + 2 ≤ o' := by omega
theorem quo_fin {zb zo rb ro : Nat} {zn rn : Bool} {za ra qa sa : Option Addr} {zc rc qc sc Z R Q T : Nat} {w w1 : World} (hz : IA w zb zo zn za zc Z) (hr : IA w rb ro rn ra rc R) (nzr : zb ≠ rb ∨ zo + 2 ≤ ro ∨ ro + 2 ≤ zo)
    (k : DivOut w w1 za zc ra rc qa qc sa sc Q T) (d1 : w1.cell? ⟨zb, zo + 1, none⟩ = some (.slice za (nlen Z) zc)) (d2 : w1.cell? ⟨rb, ro + 1, none⟩ = some (.slice ra (nlen R) rc)) (z0 : w1.cell? ⟨zb, zo, none⟩ = some (.bool zn)) (r0 : w1.cell? ⟨rb, ro, none⟩ = some (.bool rn)) :
    IA ((((((w1.setCell ⟨zb, zo + 1, none⟩ (.slice qa (nlen Q) qc)).setCell ⟨rb, ro + 1, none⟩ (.slice sa (nlen T) sc)).drew.setCell ⟨zb, zo, none⟩ (.bool false)).setCell ⟨rb, ro, none⟩ (.bool false)))) zb zo false qa qc Q ∧
    IA ((((((w1.setCell ⟨zb, zo + 1, none⟩ (.slice qa (nlen Q) qc)).setCell ⟨rb, ro + 1, none⟩ (.slice sa (nlen T) sc)).drew.setCell ⟨zb, zo, none⟩ (.bool false)).setCell ⟨rb, ro, none⟩ (.bool false)))) rb ro false sa sc T ∧
    Fr (fun b o => ifoot zb zo za zc b o ∨ ifoot rb ro ra rc b o) w ((((((w1.setCell ⟨zb, zo + 1, none⟩ (.slice qa (nlen Q) qc)).setCell ⟨rb, ro + 1, none⟩ (.slice sa (nlen T) sc)).drew.setCell ⟨zb, zo, none⟩ (.bool false)).setCell ⟨rb, ro, none⟩ (.bool false)))) := by
  have hin : ∀ {b o : Nat} {n : Bool} {a : Option Addr} {c N : Nat}, IA w b o n a c N → ∀ {a' : Option Addr} {c' : Nat}, (Out w za zc a' c' ∨ Out w ra rc a' c') → ∀ p, (p = o ∨ p = o + 1) → ¬ foot a' c' b p := fun {b o n a c N} h {a' c'} ho p hp q => by
    have key : ∀ {a0 : Option Addr} {c0 : Nat}, Reg w a0 c0 → Out w a0 c0 a' c' → False := fun {a0 c0} hr0 ho => by
      rcases ho with ⟨rfl, rfl⟩ | ⟨b', o', rfl, h7⟩
      · rcases hp with rfl | rfl
        · exact (h.apart hr0).1 q
        · exact (h.apart hr0).2 q
      · rw [foot_some] at q
        have := h.blk.lt
        omega
    rcases ho with ho | ho
    · exact key hz.nt.reg ho
    · exact key hr.nt.reg ho
  have c1 : ((w1.setCell ⟨zb, zo + 1, none⟩ (.slice qa (nlen Q) qc)).setCell ⟨rb, ro + 1, none⟩ (.slice sa (nlen T) sc)).cell? ⟨zb, zo + 1, none⟩ = some (.slice qa (nlen Q) qc) := cell_far2 (by omega) (World.cell?_setCell_same _ _ _ d1)
  have c2 : ((w1.setCell ⟨zb, zo + 1, none⟩ (.slice qa (nlen Q) qc)).setCell ⟨rb, ro + 1, none⟩ (.slice sa (nlen T) sc)).cell? ⟨rb, ro + 1, none⟩ = some (.slice sa (nlen T) sc) := World.cell?_setCell_same _ _ _ (cell_far2 (v := .slice qa (nlen Q) qc) (by omega) d2)
  have c3 : ((w1.setCell ⟨zb, zo + 1, none⟩ (.slice qa (nlen Q) qc)).setCell ⟨rb, ro + 1, none⟩ (.slice sa (nlen T) sc)).cell? ⟨zb, zo, none⟩ = some (.bool zn) := cell_far2 (by omega) (cell_far2 (by omega) z0)
  have c4 : ((w1.setCell ⟨zb, zo + 1, none⟩ (.slice qa (nlen Q) qc)).setCell ⟨rb, ro + 1, none⟩ (.slice sa (nlen T) sc)).cell? ⟨rb, ro, none⟩ = some (.bool rn) := cell_far2 (by omega) (cell_far2 (by omega) r0)
  have g1 : Fr (fun b o => (b = zb ∧ (o = zo ∨ o = zo + 1)) ∨ (b = rb ∧ (o = ro ∨ o = ro + 1))) w1 (((((w1.setCell ⟨zb, zo + 1, none⟩ (.slice qa (nlen Q) qc)).setCell ⟨rb, ro + 1, none⟩ (.slice sa (nlen T) sc)).drew.setCell ⟨zb, zo, none⟩ (.bool false)).setCell ⟨rb, ro, none⟩ (.bool false))) :=
    ((((((Fr.refl _ w1).setCell zb (zo + 1) _ (fun _ => .inl ⟨rfl, .inr rfl⟩)).setCell rb (ro + 1) _ (fun _ => .inr ⟨rfl, .inr rfl⟩)).drew).setCell zb zo _ (fun _ => .inl ⟨rfl, .inl rfl⟩)).setCell rb ro _ (fun _ => .inr ⟨rfl, .inl rfl⟩))
  obtain ⟨w2, hw2⟩ : ∃ x, (w1.setCell ⟨zb, zo + 1, none⟩ (.slice qa (nlen Q) qc)).setCell ⟨rb, ro + 1, none⟩ (.slice sa (nlen T) sc) = x := ⟨_, rfl⟩
  rw [hw2] at c1 c2 c3 c4 g1 ⊢
  have c1' : w2.drew.cell? ⟨zb, zo + 1, none⟩ = some (.slice qa (nlen Q) qc) := c1
  have c2' : w2.drew.cell? ⟨rb, ro + 1, none⟩ = some (.slice sa (nlen T) sc) := c2
  have c3' : w2.drew.cell? ⟨zb, zo, none⟩ = some (.bool zn) := c3
  have c4' : w2.drew.cell? ⟨rb, ro, none⟩ = some (.bool rn) := c4
  refine ⟨⟨cell_far2 (by omega) (World.cell?_setCell_same _ _ _ c3'), cell_far2 (by omega) (cell_far2 (by omega) c1'), ?_, g1.blk (k.fr.blk hz.blk)⟩, ⟨World.cell?_setCell_same _ _ _ (cell_far2 (v := .bool false) (b := zb) (o := zo) (by omega) c4'), cell_far2 (by omega) (cell_far2 (by omega) c2'), ?_, g1.blk (k.fr.blk hr.blk)⟩, ?_⟩
  · refine g1.nt k.q (fun b o q => ?_)
    rintro (⟨rfl, h⟩ | ⟨rfl, h⟩)
    · exact hin hz (.inl k.qo) o h q
    · exact hin hr (.inl k.qo) o h q
  · refine g1.nt k.r (fun b o q => ?_)
    rintro (⟨rfl, h⟩ | ⟨rfl, h⟩)
    · exact hin hz (.inr k.ro) o h q
    · exact hin hr (.inr k.ro) o h q
  · exact k.fr.trans' g1 (fun _ _ _ q => q.imp .inr .inr) (fun b o _ q => q.imp (fun ⟨h1, h2⟩ => .inl ⟨h1, h2⟩) (fun ⟨h1, h2⟩ => .inl ⟨h1, h2⟩))
set_option maxRecDepth 100000 in
set_option maxHeartbeats 8000000 in
theorem iQuoRem_any {zb zo rb ro xb xo yb yo : Nat} {zn rn : Bool} {za ra xa ya : Option Addr} {zc rc xc yc Z R X Y : Nat} {w : World} (g : Gl w) (hz : IA w zb zo zn za zc Z) (hr : IA w rb ro rn ra rc R) (hx : IA w xb xo false xa xc X) (hy : IA w yb yo false ya yc Y)
    (hY0 : 0 < Y) (h40 : nlen Y < 40) (hxl : nlen X < 1000) (nzr : zb ≠ rb ∨ zo + 2 ≤ ro ∨ ro + 2 ≤ zo) (nzx : zb ≠ xb ∨ zo + 2 ≤ xo ∨ xo + 2 ≤ zo) (nzy : zb ≠ yb ∨ zo + 2 ≤ yo ∨ yo + 2 ≤ zo) (nrx : rb ≠ xb ∨ ro + 2 ≤ xo ∨ xo + 2 ≤ ro) (nry : rb ≠ yb ∨ ro + 2 ≤ yo ∨ yo + 2 ≤ ro)
    (dzr : Disj za zc ra rc) (dzx : Ap za zc xa xc) (drx : Ap ra rc xa xc) :
    Calls Tryz.prog 139 #[.pointer (some ⟨zb, zo, none⟩), .pointer (some ⟨xb, xo, none⟩), .pointer (some ⟨yb, yo, none⟩), .pointer (some ⟨rb, ro, none⟩)] w fun e w' => ∃ qa qc sa sc, e = .returned (.tuple #[.pointer (some ⟨zb, zo, none⟩), .pointer (some ⟨rb, ro, none⟩)]) ∧
      Aside (IA w' zb zo false qa qc (X / Y) ∧ IA w' rb ro false sa sc (X % Y) ∧ Fr (fun b o => ifoot zb zo za zc b o ∨ ifoot rb ro ra rc b o) w w' ∧ Out w za zc qa qc ∧ Out w ra rc sa sc ∧ Disj qa qc sa sc) := by
  have hza := hz.abs
  have hra := hr.abs
  have hxa := hx.abs
  have hya := hy.abs
  have HD : Hid (Calls Tryz.prog 182 #[.slice za (nlen Z) zc, .pointer none, .slice ra (nlen R) rc, .slice xa (nlen X) xc, .slice ya (nlen Y) yc] w.drew fun e w1 => ∃ qa qc sa sc, e = .returned (.tuple #[.slice qa (nlen (X / Y)) qc, .slice sa (nlen (X % Y)) sc]) ∧
      w1.cell? ⟨zb, zo + 1, none⟩ = some (.slice za (nlen Z) zc) ∧ w1.cell? ⟨rb, ro + 1, none⟩ = some (.slice ra (nlen R) rc) ∧ w1.cell? ⟨xb, xo + 1, none⟩ = some (.slice xa (nlen X) xc) ∧ w1.cell? ⟨yb, yo + 1, none⟩ = some (.slice ya (nlen Y) yc) ∧
      w1.frozen? ⟨zb, zo + 1, none⟩ = false ∧ w1.frozen? ⟨rb, ro + 1, none⟩ = false ∧ Aside (DivOut w w1 za zc ra rc qa qc sa sc (X / Y) (X % Y) ∧
      w1.cell? ⟨xb, xo, none⟩ = some (.bool false) ∧ w1.cell? ⟨yb, yo, none⟩ = some (.bool false) ∧ w1.cell? ⟨zb, zo, none⟩ = some (.bool zn) ∧ w1.cell? ⟨rb, ro, none⟩ = some (.bool rn) ∧
      w1.frozen? ⟨zb, zo, none⟩ = false ∧ w1.frozen? ⟨rb, ro, none⟩ = false ∧ w1.cell? ⟨zb, zo + 1, none⟩ = some (.slice za (nlen Z) zc) ∧ w1.cell? ⟨rb, ro + 1, none⟩ = some (.slice ra (nlen R) rc))) := Lib.hid (by
    have f0 : Fr (fun _ _ => False) w w.drew := (Fr.refl _ w).drew
    refine (div_nil (g.fr f0 (fun _ _ k => k.elim)) (f0.reg hz.nt.reg (fun _ _ _ k => k)) hz.nt.len (f0.reg hr.nt.reg (fun _ _ _ k => k)) hr.nt.len (f0.nt hx.nt (fun _ _ _ k => k)) (f0.nt hy.nt (fun _ _ _ k => k)) hY0 h40 hxl dzr dzx drx).mono ?_
    rintro e w1 ⟨qa, qc, sa, sc, rfl, k⟩
    have f := f0.trans' k.fr (fun _ _ _ q => q.elim) (fun _ _ _ q => q)
    have nf : ∀ {b o : Nat} {n : Bool} {a : Option Addr} {c N : Nat}, IA w b o n a c N → (¬ (foot za zc b o ∨ foot ra rc b o)) ∧ ¬ (foot za zc b (o + 1) ∨ foot ra rc b (o + 1)) := fun {b o n a c N} h =>
      ⟨fun q => q.elim (h.apart hz.nt.reg).1 (h.apart hr.nt.reg).1, fun q => q.elim (h.apart hz.nt.reg).2 (h.apart hr.nt.reg).2⟩
    have c0 : ∀ {b o : Nat} {n : Bool} {a : Option Addr} {c N : Nat}, IA w b o n a c N → w1.cell? ⟨b, o, none⟩ = some (.bool n) ∧ w1.cell? ⟨b, o + 1, none⟩ = some (.slice a (nlen N) c) := fun {b o n a c N} h =>
      ⟨(f.cell _ _ h.blk.lt (nf h).1).trans h.neg, (f.cell _ _ h.blk.lt (nf h).2).trans h.abs⟩
    exact ⟨qa, qc, sa, sc, rfl, (c0 hz).2, (c0 hr).2, (c0 hx).2, (c0 hy).2, (f.blk hz.blk).free _, (f.blk hr.blk).free _,
      ⟨⟨⟨k.q, k.r, f, k.qo, k.ro, k.dj⟩, (c0 hx).1, (c0 hy).1, (c0 hz).1, (c0 hr).1, (f.blk hz.blk).free _, (f.blk hr.blk).free _, (c0 hz).2, (c0 hr).2⟩⟩⟩)
  have HF : Aside (∀ {qa sa : Option Addr} {qc sc : Nat} {w1 : World}, DivOut w w1 za zc ra rc qa qc sa sc (X / Y) (X % Y) → w1.cell? ⟨zb, zo + 1, none⟩ = some (.slice za (nlen Z) zc) → w1.cell? ⟨rb, ro + 1, none⟩ = some (.slice ra (nlen R) rc) → w1.cell? ⟨zb, zo, none⟩ = some (.bool zn) → w1.cell? ⟨rb, ro, none⟩ = some (.bool rn) →
    IA ((((((w1.setCell ⟨zb, zo + 1, none⟩ (.slice qa (nlen (X / Y)) qc)).setCell ⟨rb, ro + 1, none⟩ (.slice sa (nlen (X % Y)) sc)).drew.setCell ⟨zb, zo, none⟩ (.bool false)).setCell ⟨rb, ro, none⟩ (.bool false)))) zb zo false qa qc (X / Y) ∧
    IA ((((((w1.setCell ⟨zb, zo + 1, none⟩ (.slice qa (nlen (X / Y)) qc)).setCell ⟨rb, ro + 1, none⟩ (.slice sa (nlen (X % Y)) sc)).drew.setCell ⟨zb, zo, none⟩ (.bool false)).setCell ⟨rb, ro, none⟩ (.bool false)))) rb ro false sa sc (X % Y) ∧
    Fr (fun b o => ifoot zb zo za zc b o ∨ ifoot rb ro ra rc b o) w ((((((w1.setCell ⟨zb, zo + 1, none⟩ (.slice qa (nlen (X / Y)) qc)).setCell ⟨rb, ro + 1, none⟩ (.slice sa (nlen (X % Y)) sc)).drew.setCell ⟨zb, zo, none⟩ (.bool false)).setCell ⟨rb, ro, none⟩ (.bool false))))) := ⟨fun k d1 d2 z0 r0 => quo_fin hz hr nzr k d1 d2 z0 r0⟩
  obtain ⟨lz, hlz⟩ : ∃ n, nlen Z = n := ⟨_, rfl⟩
  obtain ⟨lr, hlr⟩ : ∃ n, nlen R = n := ⟨_, rfl⟩
  obtain ⟨lx, hlx⟩ : ∃ n, nlen X = n := ⟨_, rfl⟩
  obtain ⟨ly, hly⟩ : ∃ n, nlen Y = n := ⟨_, rfl⟩
  obtain ⟨nq, hnq⟩ : ∃ n, nlen (X / Y) = n := ⟨_, rfl⟩
  obtain ⟨ns, hns⟩ : ∃ n, nlen (X % Y) = n := ⟨_, rfl⟩
  obtain ⟨Q, hQ⟩ : ∃ Q, X / Y = Q := ⟨_, rfl⟩
  obtain ⟨T, hT⟩ : ∃ T, X % Y = T := ⟨_, rfl⟩
  rw [hlz] at hza HD HF
  rw [hlr] at hra HD HF
  rw [hlx] at hxa HD
  rw [hly] at hya HD
  rw [hnq, hns] at HD HF
  rw [hQ] at HD HF ⊢
  rw [hT] at HD HF ⊢
  have a1 : zb ≠ rb ∨ zo + 1 ≠ ro + 1 := off11 nzr
  have a2 : zb ≠ xb ∨ zo + 1 ≠ xo + 1 := off11 nzx
  have a3 : zb ≠ yb ∨ zo + 1 ≠ yo + 1 := off11 nzy
  have a4 : rb ≠ xb ∨ ro + 1 ≠ xo + 1 := off11 nrx
  have a5 : rb ≠ yb ∨ ro + 1 ≠ yo + 1 := off11 nry
  have b1 : zb ≠ rb ∨ zo ≠ ro + 1 := off01 nzr
  have b2 : zb ≠ xb ∨ zo ≠ xo := off00 nzx
  have b3 : zb ≠ yb ∨ zo ≠ yo := off00 nzy
  have b4 : rb ≠ xb ∨ ro ≠ xo := off00 nrx
  have b5 : rb ≠ yb ∨ ro ≠ yo := off00 nry
  have b6 : zb ≠ zb ∨ zo ≠ zo + 1 := .inr (Nat.ne_of_lt (Nat.lt_succ_self _))
  have b7 : rb ≠ rb ∨ ro ≠ ro + 1 := .inr (Nat.ne_of_lt (Nat.lt_succ_self _))
  have b8 : rb ≠ zb ∨ ro ≠ zo + 1 := off01 (off_sym nzr)
  have b9 : zb ≠ rb ∨ zo ≠ ro := off00 nzr
  have m1 : zb ≠ xb ∨ zo + 1 ≠ xo := off10 nzx
  have m2 : zb ≠ yb ∨ zo + 1 ≠ yo := off10 nzy
  have m3 : rb ≠ xb ∨ ro + 1 ≠ xo := off10 nrx
  have m4 : rb ≠ yb ∨ ro + 1 ≠ yo := off10 nry
  have m5 : rb ≠ zb ∨ ro + 1 ≠ zo := off10 (off_sym nzr)
  have m6 : zb ≠ rb ∨ zo + 1 ≠ ro := off10 nzr
  have m7 : rb ≠ zb ∨ ro + 1 ≠ zo + 1 := off11 (off_sym nzr)
  have m8 : zb ≠ zb ∨ zo + 1 ≠ zo := .inr (Nat.ne_of_gt (Nat.lt_succ_self _))
  have m9 : rb ≠ rb ∨ ro + 1 ≠ ro := .inr (Nat.ne_of_gt (Nat.lt_succ_self _))
  clear g hz hr hx hy hY0 h40 hxl dzr dzx drx hlz hlr hlx hly hnq hns hQ hT nzr nzx nzy nrx nry
  obtain ⟨p1, hp1⟩ : ∃ p, decide ((0 : Int) < (nq : Int)) = p := ⟨_, rfl⟩
  obtain ⟨p2, hp2⟩ : ∃ p, decide ((0 : Int) < (ns : Int)) = p := ⟨_, rfl⟩
  have hp3 : decide (0 < nq) = p1 := by rw [← hp1]; simp
  have hp4 : decide (0 < ns) = p2 := by rw [← hp2]; simp
  have HG := Aside.mk (And.intro hp1 (And.intro hp2 (And.intro hp3 hp4)))
  clear hp1 hp2 hp3 hp4
  go_enter Tryz.func139, Tryz.ntmps139
  go_upto_region 1 with fail
  refine wp_QN (qr1 (by kernel_rfl) hza hra hxa hya a1 a2 a3 a4 a5 HD _ _ _ _ _ _ _ _ _ _ _ _ _ _ _ _ _ _ _ _ _ _ _ _ _ _ _ _ _ _ _ _ _ _ _ _ _ _ _ _ _ _ _ _ _ _ _ _ _ _ _ _ _ _ _ _ _ _ _ _ _ _ _ _ _ _ _ _ _ _ ⟨?_⟩)
  intro qa qc sa sc v10 v11 v12 v13 v14 v15 v16 v17 v18 v19 v20 v21 v22 v23 v24 v25 v26 v27 v28 v29 v30 v31 v32 v33 v34 v35 w1 k
  obtain ⟨kd, x0, y0, z0, r0, f1, f2, d1, d2⟩ := k
  have hfin := Aside.mk (HF.out kd d1 d2 z0 r0)
  have ko := Aside.mk (And.intro kd.qo (And.intro kd.ro kd.dj))
  have c1 : ((w1.setCell ⟨zb, zo + 1, none⟩ (.slice qa nq qc)).setCell ⟨rb, ro + 1, none⟩ (.slice sa ns sc)).cell? ⟨zb, zo + 1, none⟩ = some (.slice qa nq qc) := cell_far2 m7 (World.cell?_setCell_same _ _ _ d1)
  have c2 : ((w1.setCell ⟨zb, zo + 1, none⟩ (.slice qa nq qc)).setCell ⟨rb, ro + 1, none⟩ (.slice sa ns sc)).cell? ⟨rb, ro + 1, none⟩ = some (.slice sa ns sc) := World.cell?_setCell_same _ _ _ (cell_far2 (v := .slice qa nq qc) a1 d2)
  have c3 : ((w1.setCell ⟨zb, zo + 1, none⟩ (.slice qa nq qc)).setCell ⟨rb, ro + 1, none⟩ (.slice sa ns sc)).cell? ⟨zb, zo, none⟩ = some (.bool zn) := cell_far2 m5 (cell_far2 m8 z0)
  have c4 : ((w1.setCell ⟨zb, zo + 1, none⟩ (.slice qa nq qc)).setCell ⟨rb, ro + 1, none⟩ (.slice sa ns sc)).cell? ⟨rb, ro, none⟩ = some (.bool rn) := cell_far2 m9 (cell_far2 m6 r0)
  have c5 : ((w1.setCell ⟨zb, zo + 1, none⟩ (.slice qa nq qc)).setCell ⟨rb, ro + 1, none⟩ (.slice sa ns sc)).cell? ⟨xb, xo, none⟩ = some (.bool false) := cell_far2 m3 (cell_far2 m1 x0)
  have c6 : ((w1.setCell ⟨zb, zo + 1, none⟩ (.slice qa nq qc)).setCell ⟨rb, ro + 1, none⟩ (.slice sa ns sc)).cell? ⟨yb, yo, none⟩ = some (.bool false) := cell_far2 m4 (cell_far2 m2 y0)
  have e1 : ((w1.setCell ⟨zb, zo + 1, none⟩ (.slice qa nq qc)).setCell ⟨rb, ro + 1, none⟩ (.slice sa ns sc)).frozen? ⟨zb, zo, none⟩ = false := by rw [World.frozen?_setCell, World.frozen?_setCell]; exact f1
  have e2 : ((w1.setCell ⟨zb, zo + 1, none⟩ (.slice qa nq qc)).setCell ⟨rb, ro + 1, none⟩ (.slice sa ns sc)).frozen? ⟨rb, ro, none⟩ = false := by rw [World.frozen?_setCell, World.frozen?_setCell]; exact f2
  clear kd x0 y0 z0 r0 f1 f2 d1 d2 hza hra hxa hya HD HF
  obtain ⟨w2, hw2⟩ : ∃ x, (w1.setCell ⟨zb, zo + 1, none⟩ (.slice qa nq qc)).setCell ⟨rb, ro + 1, none⟩ (.slice sa ns sc) = x := ⟨_, rfl⟩
  have hfin2 : Aside (IA ((w2.drew.setCell ⟨zb, zo, none⟩ (.bool false)).setCell ⟨rb, ro, none⟩ (.bool false)) zb zo false qa qc Q ∧ IA ((w2.drew.setCell ⟨zb, zo, none⟩ (.bool false)).setCell ⟨rb, ro, none⟩ (.bool false)) rb ro false sa sc T ∧
      Fr (fun b o => ifoot zb zo za zc b o ∨ ifoot rb ro ra rc b o) w ((w2.drew.setCell ⟨zb, zo, none⟩ (.bool false)).setCell ⟨rb, ro, none⟩ (.bool false)) ∧ Out w za zc qa qc ∧ Out w ra rc sa sc ∧ Disj qa qc sa sc) := ⟨by
    subst hw2
    exact ⟨hfin.out.1, hfin.out.2.1, hfin.out.2.2, ko.out⟩⟩
  clear hfin ko
  rw [hw2] at c1 c2 c3 c4 c5 c6 e1 e2 ⊢
  clear hw2
  try go_upto_region 2 with fail
  cases p1 <;> cases p2
  · refine wp_QN (qr2_false_false (by kernel_rfl) HG.out.1 HG.out.2.1 HG.out.2.2.1 HG.out.2.2.2 c1 c2 c5 c6 c3 c4 e1 e2 b1 b2 b3 b4 b5 b6 b7 b8 b9 _ _ _ _ _ _ _ _ _ _ _ _ _ _ _ _ _ _ _ _ _ _ _ _ _ _ _ _ _ _ _ _ _ _ _ _ _ _ _ _ _ _ _ _ _ _ _ _ _ _ _ _ _ _ _ _ _ _ _ _ _ _ _ _ _ _ _ _ _ _ ⟨?_⟩)
    intro y36 y37 y38 y39 y40 y41 y42 y43 y44 y45 y46 y47 y48 y49 y50 y51 y52 y53 y54 y55 y56 y57 y58 y59 y60 y61 y62 y63 y64 y65 y66 y67 y68 y69 y70
    go_wp2_with fail
    go_ret2
    exact ⟨qa, qc, sa, sc, rfl, hfin2⟩
  · refine wp_QN (qr2_false_true (by kernel_rfl) HG.out.1 HG.out.2.1 HG.out.2.2.1 HG.out.2.2.2 c1 c2 c5 c6 c3 c4 e1 e2 b1 b2 b3 b4 b5 b6 b7 b8 b9 _ _ _ _ _ _ _ _ _ _ _ _ _ _ _ _ _ _ _ _ _ _ _ _ _ _ _ _ _ _ _ _ _ _ _ _ _ _ _ _ _ _ _ _ _ _ _ _ _ _ _ _ _ _ _ _ _ _ _ _ _ _ _ _ _ _ _ _ _ _ ⟨?_⟩)
    intro y36 y37 y38 y39 y40 y41 y42 y43 y44 y45 y46 y47 y48 y49 y50 y51 y52 y53 y54 y55 y56 y57 y58 y59 y60 y61 y62 y63 y64 y65 y66 y67 y68 y69 y70
    go_wp2_with fail
    go_ret2
    exact ⟨qa, qc, sa, sc, rfl, hfin2⟩
  · refine wp_QN (qr2_true_false (by kernel_rfl) HG.out.1 HG.out.2.1 HG.out.2.2.1 HG.out.2.2.2 c1 c2 c5 c6 c3 c4 e1 e2 b1 b2 b3 b4 b5 b6 b7 b8 b9 _ _ _ _ _ _ _ _ _ _ _ _ _ _ _ _ _ _ _ _ _ _ _ _ _ _ _ _ _ _ _ _ _ _ _ _ _ _ _ _ _ _ _ _ _ _ _ _ _ _ _ _ _ _ _ _ _ _ _ _ _ _ _ _ _ _ _ _ _ _ ⟨?_⟩)
    intro y36 y37 y38 y39 y40 y41 y42 y43 y44 y45 y46 y47 y48 y49 y50 y51 y52 y53 y54 y55 y56 y57 y58 y59 y60 y61 y62 y63 y64 y65 y66 y67 y68 y69 y70
    go_wp2_with fail
    go_ret2
    exact ⟨qa, qc, sa, sc, rfl, hfin2⟩
  · refine wp_QN (qr2_true_true (by kernel_rfl) HG.out.1 HG.out.2.1 HG.out.2.2.1 HG.out.2.2.2 c1 c2 c5 c6 c3 c4 e1 e2 b1 b2 b3 b4 b5 b6 b7 b8 b9 _ _ _ _ _ _ _ _ _ _ _ _ _ _ _ _ _ _ _ _ _ _ _ _ _ _ _ _ _ _ _ _ _ _ _ _ _ _ _ _ _ _ _ _ _ _ _ _ _ _ _ _ _ _ _ _ _ _ _ _ _ _ _ _ _ _ _ _ _ _ ⟨?_⟩)
    intro y36 y37 y38 y39 y40 y41 y42 y43 y44 y45 y46 y47 y48 y49 y50 y51 y52 y53 y54 y55 y56 y57 y58 y59 y60 y61 y62 y63 y64 y65 y66 y67 y68 y69 y70
    go_wp2_with fail
    go_ret2
    exact ⟨qa, qc, sa, sc, rfl, hfin2⟩
end Go.Proofs.YtgilnnipephfjaaGreatDoor
namespace Go.Proofs.YtgilnnipephfjaaGreatDoor
open Go.RowKit

set_option maxRecDepth 100000 in
theorem bQuoRem_any {zb zo rb ro xb xo yb yo : Nat} {zn rn : Bool} {za ra xa ya : Option Addr} {zc rc xc yc Z R X Y : Nat} {w : World} (g : Gl w) (hz : IA w zb zo zn za zc Z) (hr : IA w rb ro rn ra rc R) (hx : IA w xb xo false xa xc X) (hy : IA w yb yo false ya yc Y)
    (hY0 : 0 < Y) (h40 : nlen Y < 40) (hxl : nlen X < 1000) (nzr : zb ≠ rb ∨ zo + 2 ≤ ro ∨ ro + 2 ≤ zo) (nzx : zb ≠ xb ∨ zo + 2 ≤ xo ∨ xo + 2 ≤ zo) (nzy : zb ≠ yb ∨ zo + 2 ≤ yo ∨ yo + 2 ≤ zo) (nrx : rb ≠ xb ∨ ro + 2 ≤ xo ∨ xo + 2 ≤ ro) (nry : rb ≠ yb ∨ ro + 2 ≤ yo ∨ yo + 2 ≤ ro)
    (dzr : Disj za zc ra rc) (dzx : Ap za zc xa xc) (drx : Ap ra rc xa xc) :
    Calls Tryz.prog 97 #[.pointer (some ⟨zb, zo, none⟩), .pointer (some ⟨xb, xo, none⟩), .pointer (some ⟨yb, yo, none⟩), .pointer (some ⟨rb, ro, none⟩)] w fun e w' => ∃ qa qc sa sc, e = .returned (.tuple #[.pointer (some ⟨zb, zo, none⟩), .pointer (some ⟨rb, ro, none⟩)]) ∧
      Aside (IA w' zb zo false qa qc (X / Y) ∧ IA w' rb ro false sa sc (X % Y) ∧ Fr (fun b o => ifoot zb zo za zc b o ∨ ifoot rb ro ra rc b o) w w' ∧ Out w za zc qa qc ∧ Out w ra rc sa sc ∧ Disj qa qc sa sc) := by
  have H : Hid (∀ d, Calls Tryz.prog 139 #[.pointer (some ⟨zb, zo, none⟩), .pointer (some ⟨xb, xo, none⟩), .pointer (some ⟨yb, yo, none⟩), .pointer (some ⟨rb, ro, none⟩)] (w.drewN d) fun e w' => ∃ qa qc sa sc, e = .returned (.tuple #[.pointer (some ⟨zb, zo, none⟩), .pointer (some ⟨rb, ro, none⟩)]) ∧
      Aside (IA w' zb zo false qa qc (X / Y) ∧ IA w' rb ro false sa sc (X % Y) ∧ Fr (fun b o => ifoot zb zo za zc b o ∨ ifoot rb ro ra rc b o) w w' ∧ Out w za zc qa qc ∧ Out w ra rc sa sc ∧ Disj qa qc sa sc)) := Lib.hid (fun d => by
    have f0 : Fr (fun _ _ => False) w (w.drewN d) := (Fr.refl _ w).drewN d
    refine (iQuoRem_any (w := w.drewN d) (g.fr f0 (fun _ _ k => k.elim)) (hz.drewN d) (hr.drewN d) (hx.drewN d) (hy.drewN d) hY0 h40 hxl nzr nzx nzy nrx nry dzr dzx drx).mono ?_
    rintro e w1 ⟨qa, qc, sa, sc, rfl, k⟩
    exact ⟨qa, qc, sa, sc, rfl, ⟨k.out.1, k.out.2.1, ((Fr.refl _ w).drewN d).trans k.out.2.2.1, k.out.2.2.2⟩⟩)
  clear g hz hr hx hy hY0 h40 hxl nzr nzx nzy nrx nry dzr dzx drx
  go_enter Tryz.func97, Tryz.ntmps97
  go_wp2_with fail
  go_region_with (go_at_call 139; go_must (refine (H.out _).mono ?_; rintro e w1 ⟨qa, qc, sa, sc, rfl, k⟩))
  all_goals
    clear H
    go_wp2_with fail
    go_ret2
    exact ⟨qa, qc, sa, sc, rfl, k⟩
end Go.Proofs.YtgilnnipephfjaaGreatDoor
namespace Go.Proofs.YtgilnnipephfjaaGreatDoor
open Go.RowKit

noncomputable def qqc (n : Nat) : Code := ((Tryz.f140.body.bind (rgOf n)).getD .skip)
set_option maxRecDepth 100000 in
set_option maxHeartbeats 8000000 in
theorem qq1 {c : Code} (hc : c = qqc 1) {zb zo xb xo yb yo lz lx ly nq ns zc xc yc : Nat} {za xa ya : Option Addr} {w : World} {PP : World → Option Addr → Nat → Option Addr → Nat → Prop}
    (hza : w.cell? ⟨zb, zo + 1, none⟩ = some (.slice za lz zc)) (hxa : w.cell? ⟨xb, xo + 1, none⟩ = some (.slice xa lx xc)) (hya : w.cell? ⟨yb, yo + 1, none⟩ = some (.slice ya ly yc))
    (a2 : zb ≠ xb ∨ zo + 1 ≠ xo + 1) (a3 : zb ≠ yb ∨ zo + 1 ≠ yo + 1)
    (HD : Hid (Calls Tryz.prog 182 #[.slice za lz zc, .pointer none, .slice none 0 0, .slice xa lx xc, .slice ya ly yc] w.drew fun e w1 => ∃ qa qc sa sc, e = .returned (.tuple #[.slice qa nq qc, .slice sa ns sc]) ∧
      w1.cell? ⟨zb, zo + 1, none⟩ = some (.slice za lz zc) ∧ w1.cell? ⟨xb, xo + 1, none⟩ = some (.slice xa lx xc) ∧ w1.cell? ⟨yb, yo + 1, none⟩ = some (.slice ya ly yc) ∧
      w1.frozen? ⟨zb, zo + 1, none⟩ = false ∧ Aside (PP w1 qa qc sa sc)))
    (u3 u4 u5 u6 u7 u8 u9 u10 u11 u12 u13 u14 u15 u16 u17 u18 u19 u20 u21 u22 u23 u24 u25 u26 u27 u28 u29 u30 u31 u32 u33 u34 u35 u36 u37 u38 u39 u40 u41 u42 u43 u44 u45 u46 : Value) (N : Act → World → Prop)
    (HN : Aside (∀ (qa : Option Addr) (qc : Nat) (sa : Option Addr) (sc : Nat) (v7 v8 v9 v10 v11 v12 v13 v14 v15 v16 v17 v18 v19 v20 v21 v22 v23 v24 v25 : Value) (w1 : World) (_ : PP w1 qa qc sa sc), N ⟨#[.pointer (some ⟨zb, zo, none⟩), .pointer (some ⟨xb, xo, none⟩), .pointer (some ⟨yb, yo, none⟩), u3, u4, u5, u6, v7, v8, v9, v10, v11, v12, v13, v14, v15, v16, v17, v18, v19, v20, v21, v22, v23, v24, v25, u26, u27, u28, u29, u30, u31, u32, u33, u34, u35, u36, u37, u38, u39, u40, u41, u42, u43, u44, u45, u46], []⟩ (w1.setCell ⟨zb, zo + 1, none⟩ (.slice qa nq qc)))) :
    Code.wp Tryz.prog c (QN N) ⟨#[.pointer (some ⟨zb, zo, none⟩), .pointer (some ⟨xb, xo, none⟩), .pointer (some ⟨yb, yo, none⟩), u3, u4, u5, u6, u7, u8, u9, u10, u11, u12, u13, u14, u15, u16, u17, u18, u19, u20, u21, u22, u23, u24, u25, u26, u27, u28, u29, u30, u31, u32, u33, u34, u35, u36, u37, u38, u39, u40, u41, u42, u43, u44, u45, u46], []⟩ w := by
  subst hc
  conv => arg 2; whnf
  have hS0 : (fun w' => w'.cell? ⟨xb, xo + 1, none⟩ = some (.slice xa lx xc) ∧ w'.cell? ⟨yb, yo + 1, none⟩ = some (.slice ya ly yc)) w.drew := ⟨hxa, hya⟩
  refine wp_region_held (S := (fun w' => w'.cell? ⟨xb, xo + 1, none⟩ = some (.slice xa lx xc) ∧ w'.cell? ⟨yb, yo + 1, none⟩ = some (.slice ya ly yc))) (by kernel_rfl) ?_
  change wpAnyH _ _ _ _ _ _ _ _ (World.drew _)
  refine wpAnyH_take (i := 0) (v := ?_) rfl (by kernel_rfl) (by kernel_rfl) (by kernel_rfl) (fun _ _ _ h => h) (Or.inl ⟨by kernel_rfl, ?_⟩) hS0 ?_
  rotate_left 1
  · rintro w9 ⟨e0, e1⟩
    go_simp
    try with_reducible rfl
  try simp only [Act.put, List.setIfInBounds_toArray, List.set_cons_zero, List.set_cons_succ]
  refine wpAnyH_take (i := 1) (v := ?_) rfl (by kernel_rfl) (by kernel_rfl) (by kernel_rfl) (fun _ _ _ h => h) (Or.inl ⟨by kernel_rfl, ?_⟩) hS0 ?_
  rotate_left 1
  · rintro w9 ⟨e0, e1⟩
    go_simp
    try with_reducible rfl
  try simp only [Act.put, List.setIfInBounds_toArray, List.set_cons_zero, List.set_cons_succ]
  refine wpAnyH_take (i := 2) (v := ?_) rfl (by kernel_rfl) (by kernel_rfl) (by kernel_rfl) (fun _ _ _ h => h) (Or.inl ⟨by kernel_rfl, ?_⟩) hS0 ?_
  rotate_left 1
  · rintro w9 ⟨e0, e1⟩
    go_simp
    try with_reducible rfl
  try simp only [Act.put, List.setIfInBounds_toArray, List.set_cons_zero, List.set_cons_succ]
  refine wpAnyH_take (i := 3) (v := ?_) rfl (by kernel_rfl) (by kernel_rfl) (by kernel_rfl) (fun _ _ _ h => h) (Or.inl ⟨by kernel_rfl, ?_⟩) hS0 ?_
  rotate_left 1
  · rintro w9 ⟨e0, e1⟩
    go_simp
    try with_reducible rfl
  try simp only [Act.put, List.setIfInBounds_toArray, List.set_cons_zero, List.set_cons_succ]
  refine wpAnyH_take (i := 5) (v := ?_) rfl (by kernel_rfl) (by kernel_rfl) (by kernel_rfl) (fun _ _ _ h => h) (Or.inl ⟨by kernel_rfl, ?_⟩) hS0 ?_
  rotate_left 1
  · rintro w9 ⟨e0, e1⟩
    go_simp
    try with_reducible rfl
  try simp only [Act.put, List.setIfInBounds_toArray, List.set_cons_zero, List.set_cons_succ]
  refine wpAnyH_take (i := 6) (v := ?_) rfl (by kernel_rfl) (by kernel_rfl) (by kernel_rfl) (fun _ _ _ h => h) (Or.inl ⟨by kernel_rfl, ?_⟩) hS0 ?_
  rotate_left 1
  · rintro w9 ⟨e0, e1⟩
    go_simp
    try with_reducible rfl
  try simp only [Act.put, List.setIfInBounds_toArray, List.set_cons_zero, List.set_cons_succ]
  refine wpAnyH_take (i := 7) (v := ?_) rfl (by kernel_rfl) (by kernel_rfl) (by kernel_rfl) (fun _ _ _ h => h) (Or.inl ⟨by kernel_rfl, ?_⟩) hS0 ?_
  rotate_left 1
  · rintro w9 ⟨e0, e1⟩
    go_simp
    try with_reducible rfl
  try simp only [Act.put, List.setIfInBounds_toArray, List.set_cons_zero, List.set_cons_succ]
  refine wpAnyH_take (i := 8) (v := ?_) rfl (by kernel_rfl) (by kernel_rfl) (by kernel_rfl) (fun _ _ _ h => h) (Or.inl ⟨by kernel_rfl, ?_⟩) hS0 ?_
  rotate_left 1
  · rintro w9 ⟨e0, e1⟩
    go_simp
    try with_reducible rfl
  try simp only [Act.put, List.setIfInBounds_toArray, List.set_cons_zero, List.set_cons_succ]
  refine wpAnyH_take (i := 9) (v := ?_) rfl (by kernel_rfl) (by kernel_rfl) (by kernel_rfl) (fun _ _ _ h => h) (Or.inl ⟨by kernel_rfl, ?_⟩) hS0 ?_
  rotate_left 1
  · rintro w9 ⟨e0, e1⟩
    go_simp
    try with_reducible rfl
  try simp only [Act.put, List.setIfInBounds_toArray, List.set_cons_zero, List.set_cons_succ]
  refine wpAnyH_take (i := 10) (v := ?_) rfl (by kernel_rfl) (by kernel_rfl) (by kernel_rfl) (fun _ _ _ h => h) (Or.inl ⟨by kernel_rfl, ?_⟩) hS0 ?_
  rotate_left 1
  · rintro w9 ⟨e0, e1⟩
    go_simp
    try with_reducible rfl
  try simp only [Act.put, List.setIfInBounds_toArray, List.set_cons_zero, List.set_cons_succ]
  refine wpAnyH_take (i := 11) (v := ?_) rfl (by kernel_rfl) (by kernel_rfl) (by kernel_rfl) (fun _ _ _ h => h) (Or.inl ⟨by kernel_rfl, ?_⟩) hS0 ?_
  rotate_left 1
  · rintro w9 ⟨e0, e1⟩
    go_simp
    try with_reducible rfl
  try simp only [Act.put, List.setIfInBounds_toArray, List.set_cons_zero, List.set_cons_succ]
  refine wpAnyH_take (i := 12) (v := ?_) rfl (by kernel_rfl) (by kernel_rfl) (by kernel_rfl) (fun _ _ _ h => h) (Or.inl ⟨by kernel_rfl, ?_⟩) hS0 ?_
  rotate_left 1
  · rintro w9 ⟨e0, e1⟩
    go_simp
    try with_reducible rfl
  try simp only [Act.put, List.setIfInBounds_toArray, List.set_cons_zero, List.set_cons_succ]
  refine wpAnyH_ready (rs := [4]) (by kernel_rfl) (by simp) ?_
  refine AllReadyH.cons rfl (fun K hK => ?_) AllReadyH.nil
  go_simp
  refine Shut.out hK _ _ hS0 (fun _ => ?_)
  clear hK K
  try simp only [Act.put, List.setIfInBounds_toArray, List.set_cons_zero, List.set_cons_succ]
  refine wpAnyH_ready (rs := [13]) (by kernel_rfl) (by simp) ?_
  refine AllReadyH.cons rfl (fun K hK => ?_) AllReadyH.nil
  go_simp
  go_must (refine HD.out.mono ?_; rintro e1 w1 ⟨qa, qc, sa, sc, rfl, d1, d3, d4, g1, hA⟩)
  refine Shut.out hK _ _ ⟨d3, d4⟩ (fun _ => ?_)
  clear hK K
  try simp only [Act.put, List.setIfInBounds_toArray, List.set_cons_zero, List.set_cons_succ]
  refine wpAnyH_take (i := 14) (v := ?_) rfl (by kernel_rfl) (by kernel_rfl) (by kernel_rfl) (fun _ _ _ h => h) (Or.inl ⟨by kernel_rfl, ?_⟩) ⟨d3, d4⟩ ?_
  rotate_left 1
  · rintro w9 ⟨e0, e1⟩
    go_simp
    try with_reducible rfl
  try simp only [Act.put, List.setIfInBounds_toArray, List.set_cons_zero, List.set_cons_succ]
  refine wpAnyH_take (i := 15) (v := ?_) rfl (by kernel_rfl) (by kernel_rfl) (by kernel_rfl) (fun _ _ _ h => h) (Or.inl ⟨by kernel_rfl, ?_⟩) ⟨d3, d4⟩ ?_
  rotate_left 1
  · rintro w9 ⟨e0, e1⟩
    go_simp
    try with_reducible rfl
  try simp only [Act.put, List.setIfInBounds_toArray, List.set_cons_zero, List.set_cons_succ]
  refine wpAnyH_take (i := 16) (v := ?_) rfl (by kernel_rfl) (by kernel_rfl) (by kernel_rfl) (fun _ _ _ h => h) (Or.inl ⟨by kernel_rfl, ?_⟩) ⟨d3, d4⟩ ?_
  rotate_left 1
  · rintro w9 ⟨e0, e1⟩
    go_simp
    try with_reducible rfl
  try simp only [Act.put, List.setIfInBounds_toArray, List.set_cons_zero, List.set_cons_succ]
  refine wpAnyH_take (i := 17) (v := ?_) rfl (by kernel_rfl) (by kernel_rfl) (by kernel_rfl) (fun _ _ _ h => h) (Or.inl ⟨by kernel_rfl, ?_⟩) ⟨d3, d4⟩ ?_
  rotate_left 1
  · rintro w9 ⟨e0, e1⟩
    go_simp
    try with_reducible rfl
  try simp only [Act.put, List.setIfInBounds_toArray, List.set_cons_zero, List.set_cons_succ]
  refine wpAnyH_take (i := 18) (v := ?_) rfl (by kernel_rfl) (by kernel_rfl) (by kernel_rfl) (fun _ _ _ h => h) (Or.inl ⟨by kernel_rfl, ?_⟩) ⟨d3, d4⟩ ?_
  rotate_left 1
  · rintro w9 ⟨e0, e1⟩
    go_simp
    try with_reducible rfl
  try simp only [Act.put, List.setIfInBounds_toArray, List.set_cons_zero, List.set_cons_succ]
  refine wpAnyH_ready (rs := [19]) (by kernel_rfl) (by simp) ?_
  refine AllReadyH.cons rfl (fun K hK => ?_) AllReadyH.nil
  go_simp
  refine Shut.out hK _ _ ⟨cell_far2 a2 d3, cell_far2 a3 d4⟩ (fun _ => ?_)
  clear hK K
  try simp only [Act.put, List.setIfInBounds_toArray, List.set_cons_zero, List.set_cons_succ]
  refine wpAnyH_done (by kernel_rfl) ?_ _
  exact HN.out qa qc sa sc _ _ _ _ _ _ _ _ _ _ _ _ _ _ _ _ _ _ _ w1 hA.out
set_option maxRecDepth 100000 in
set_option maxHeartbeats 8000000 in
theorem qq2_false {c : Code} (hc : c = qqc 2) {zb zo xb xo yb yo nq qc : Nat} {qa : Option Addr} {zn : Bool} {w2 : World} (hp1 : decide ((0 : Int) < (nq : Int)) = false) (hp3 : decide (0 < nq) = false)
    (z1 : w2.cell? ⟨zb, zo + 1, none⟩ = some (.slice qa nq qc)) (x0 : w2.cell? ⟨xb, xo, none⟩ = some (.bool false)) (y0 : w2.cell? ⟨yb, yo, none⟩ = some (.bool false)) (z0 : w2.cell? ⟨zb, zo, none⟩ = some (.bool zn)) (f1 : w2.frozen? ⟨zb, zo, none⟩ = false)
    (b2 : zb ≠ xb ∨ zo ≠ xo) (b3 : zb ≠ yb ∨ zo ≠ yo) (b6 : zb ≠ zb ∨ zo ≠ zo + 1)
    (u3 u4 u5 u6 u7 u8 u9 u10 u11 u12 u13 u14 u15 u16 u17 u18 u19 u20 u21 u22 u23 u24 u25 u26 u27 u28 u29 u30 u31 u32 u33 u34 u35 u36 u37 u38 u39 u40 u41 u42 u43 u44 u45 u46 : Value) (N : Act → World → Prop)
    (HN : Aside (∀ (v26 v27 v28 v29 v30 v31 v32 v33 v34 v35 v36 v37 v38 v39 v40 v41 v42 v43 v44 v45 : Value), N ⟨#[.pointer (some ⟨zb, zo, none⟩), .pointer (some ⟨xb, xo, none⟩), .pointer (some ⟨yb, yo, none⟩), u3, u4, u5, u6, u7, u8, u9, u10, u11, u12, u13, u14, u15, u16, u17, u18, u19, u20, u21, u22, u23, u24, u25, v26, v27, v28, v29, v30, v31, v32, v33, v34, v35, v36, v37, v38, v39, v40, v41, v42, v43, v44, v45, u46], []⟩ (w2.drew.setCell ⟨zb, zo, none⟩ (.bool false)))) :
    Code.wp Tryz.prog c (QN N) ⟨#[.pointer (some ⟨zb, zo, none⟩), .pointer (some ⟨xb, xo, none⟩), .pointer (some ⟨yb, yo, none⟩), u3, u4, u5, u6, u7, u8, u9, u10, u11, u12, u13, u14, u15, u16, u17, u18, u19, u20, u21, u22, u23, u24, u25, u26, u27, u28, u29, u30, u31, u32, u33, u34, u35, u36, u37, u38, u39, u40, u41, u42, u43, u44, u45, u46], []⟩ w2 := by
  subst hc
  conv => arg 2; whnf
  have hS0 : (fun w' => w'.cell? ⟨zb, zo + 1, none⟩ = some (.slice qa nq qc) ∧ w'.cell? ⟨xb, xo, none⟩ = some (.bool false) ∧ w'.cell? ⟨yb, yo, none⟩ = some (.bool false)) w2.drew := ⟨z1, x0, y0⟩
  refine wp_region_held (S := (fun w' => w'.cell? ⟨zb, zo + 1, none⟩ = some (.slice qa nq qc) ∧ w'.cell? ⟨xb, xo, none⟩ = some (.bool false) ∧ w'.cell? ⟨yb, yo, none⟩ = some (.bool false))) (by kernel_rfl) ?_
  change wpAnyH _ _ _ _ _ _ _ _ (World.drew _)
  refine wpAnyH_take (i := 0) (v := ?_) rfl (by kernel_rfl) (by kernel_rfl) (by kernel_rfl) (fun _ _ _ h => h) (Or.inl ⟨by kernel_rfl, ?_⟩) hS0 ?_
  rotate_left 1
  · rintro w9 ⟨e0, e1, e2⟩
    go_simp
    try with_reducible rfl
  try simp only [Act.put, List.setIfInBounds_toArray, List.set_cons_zero, List.set_cons_succ]
  refine wpAnyH_take (i := 1) (v := ?_) rfl (by kernel_rfl) (by kernel_rfl) (by kernel_rfl) (fun _ _ _ h => h) (Or.inl ⟨by kernel_rfl, ?_⟩) hS0 ?_
  rotate_left 1
  · rintro w9 ⟨e0, e1, e2⟩
    go_simp
    try with_reducible rfl
  try simp only [Act.put, List.setIfInBounds_toArray, List.set_cons_zero, List.set_cons_succ]
  refine wpAnyH_take (i := 2) (v := ?_) rfl (by kernel_rfl) (by kernel_rfl) (by kernel_rfl) (fun _ _ _ h => h) (Or.inl ⟨by kernel_rfl, ?_⟩) hS0 ?_
  rotate_left 1
  · rintro w9 ⟨e0, e1, e2⟩
    go_simp
    try with_reducible rfl
  try simp only [Act.put, List.setIfInBounds_toArray, List.set_cons_zero, List.set_cons_succ]
  refine wpAnyH_take (i := 3) (v := ?_) rfl (by kernel_rfl) (by kernel_rfl) (by kernel_rfl) (fun _ _ _ h => h) (Or.inl ⟨by kernel_rfl, ?_⟩) hS0 ?_
  rotate_left 1
  · rintro w9 ⟨e0, e1, e2⟩
    go_simp
    try with_reducible rfl
  try simp only [Act.put, List.setIfInBounds_toArray, List.set_cons_zero, List.set_cons_succ]
  refine wpAnyH_take (i := 4) (v := ?_) rfl (by kernel_rfl) (by kernel_rfl) (by kernel_rfl) (fun _ _ _ h => h) (Or.inl ⟨by kernel_rfl, ?_⟩) hS0 ?_
  rotate_left 1
  · rintro w9 ⟨e0, e1, e2⟩
    go_simp
    try with_reducible rfl
  try simp only [Act.put, List.setIfInBounds_toArray, List.set_cons_zero, List.set_cons_succ]
  refine wpAnyH_take (i := 5) (v := ?_) rfl (by kernel_rfl) (by kernel_rfl) (by kernel_rfl) (fun _ _ _ h => h) (Or.inl ⟨by kernel_rfl, ?_⟩) hS0 ?_
  rotate_left 1
  · rintro w9 ⟨e0, e1, e2⟩
    go_simp
    try with_reducible rfl
  try simp only [Act.put, List.setIfInBounds_toArray, List.set_cons_zero, List.set_cons_succ]
  refine wpAnyH_take (i := 6) (v := ?_) rfl (by kernel_rfl) (by kernel_rfl) (by kernel_rfl) (fun _ _ _ h => h) (Or.inl ⟨by kernel_rfl, ?_⟩) hS0 ?_
  rotate_left 1
  · rintro w9 ⟨e0, e1, e2⟩
    go_simp
    try with_reducible rfl
  try simp only [Act.put, List.setIfInBounds_toArray, List.set_cons_zero, List.set_cons_succ]
  refine wpAnyH_take (i := 7) (v := ?_) rfl (by kernel_rfl) (by kernel_rfl) (by kernel_rfl) (fun _ _ _ h => h) (Or.inl ⟨by kernel_rfl, ?_⟩) hS0 ?_
  rotate_left 1
  · rintro w9 ⟨e0, e1, e2⟩
    go_simp
    try with_reducible rfl
  try simp only [Act.put, List.setIfInBounds_toArray, List.set_cons_zero, List.set_cons_succ]
  refine wpAnyH_take (i := 8) (v := undef) rfl (by kernel_rfl) (by kernel_rfl) (by kernel_rfl) (fun _ _ _ h => h) (Or.inr ⟨by kernel_rfl, rfl⟩) hS0 ?_
  try simp only [Act.put, List.setIfInBounds_toArray, List.set_cons_zero, List.set_cons_succ]
  refine wpAnyH_take (i := 9) (v := undef) rfl (by kernel_rfl) (by kernel_rfl) (by kernel_rfl) (fun _ _ _ h => h) (Or.inr ⟨by kernel_rfl, rfl⟩) hS0 ?_
  try simp only [Act.put, List.setIfInBounds_toArray, List.set_cons_zero, List.set_cons_succ]
  refine wpAnyH_take (i := 10) (v := undef) rfl (by kernel_rfl) (by kernel_rfl) (by kernel_rfl) (fun _ _ _ h => h) (Or.inr ⟨by kernel_rfl, rfl⟩) hS0 ?_
  try simp only [Act.put, List.setIfInBounds_toArray, List.set_cons_zero, List.set_cons_succ]
  refine wpAnyH_take (i := 11) (v := undef) rfl (by kernel_rfl) (by kernel_rfl) (by kernel_rfl) (fun _ _ _ h => h) (Or.inr ⟨by kernel_rfl, rfl⟩) hS0 ?_
  try simp only [Act.put, List.setIfInBounds_toArray, List.set_cons_zero, List.set_cons_succ]
  refine wpAnyH_take (i := 12) (v := undef) rfl (by kernel_rfl) (by kernel_rfl) (by kernel_rfl) (fun _ _ _ h => h) (Or.inr ⟨by kernel_rfl, rfl⟩) hS0 ?_
  try simp only [Act.put, List.setIfInBounds_toArray, List.set_cons_zero, List.set_cons_succ]
  refine wpAnyH_take (i := 13) (v := undef) rfl (by kernel_rfl) (by kernel_rfl) (by kernel_rfl) (fun _ _ _ h => h) (Or.inr ⟨by kernel_rfl, rfl⟩) hS0 ?_
  try simp only [Act.put, List.setIfInBounds_toArray, List.set_cons_zero, List.set_cons_succ]
  refine wpAnyH_take (i := 14) (v := undef) rfl (by kernel_rfl) (by kernel_rfl) (by kernel_rfl) (fun _ _ _ h => h) (Or.inr ⟨by kernel_rfl, rfl⟩) hS0 ?_
  try simp only [Act.put, List.setIfInBounds_toArray, List.set_cons_zero, List.set_cons_succ]
  refine wpAnyH_take (i := 15) (v := undef) rfl (by kernel_rfl) (by kernel_rfl) (by kernel_rfl) (fun _ _ _ h => h) (Or.inr ⟨by kernel_rfl, rfl⟩) hS0 ?_
  try simp only [Act.put, List.setIfInBounds_toArray, List.set_cons_zero, List.set_cons_succ]
  refine wpAnyH_take (i := 16) (v := undef) rfl (by kernel_rfl) (by kernel_rfl) (by kernel_rfl) (fun _ _ _ h => h) (Or.inr ⟨by kernel_rfl, rfl⟩) hS0 ?_
  try simp only [Act.put, List.setIfInBounds_toArray, List.set_cons_zero, List.set_cons_succ]
  refine wpAnyH_take (i := 17) (v := ?_) rfl (by kernel_rfl) (by kernel_rfl) (by kernel_rfl) (fun _ _ _ h => h) (Or.inl ⟨by kernel_rfl, ?_⟩) hS0 ?_
  rotate_left 1
  · rintro w9 ⟨e0, e1, e2⟩
    go_simp
    try with_reducible rfl
  try simp only [Act.put, List.setIfInBounds_toArray, List.set_cons_zero, List.set_cons_succ]
  refine wpAnyH_take (i := 18) (v := ?_) rfl (by kernel_rfl) (by kernel_rfl) (by kernel_rfl) (fun _ _ _ h => h) (Or.inl ⟨by kernel_rfl, ?_⟩) hS0 ?_
  rotate_left 1
  · rintro w9 ⟨e0, e1, e2⟩
    go_simp
    try with_reducible rfl
  try simp only [Act.put, List.setIfInBounds_toArray, List.set_cons_zero, List.set_cons_succ]
  refine wpAnyH_take (i := 19) (v := ?_) rfl (by kernel_rfl) (by kernel_rfl) (by kernel_rfl) (fun _ _ _ h => h) (Or.inl ⟨by kernel_rfl, ?_⟩) hS0 ?_
  rotate_left 1
  · rintro w9 ⟨e0, e1, e2⟩
    go_simp
    try with_reducible rfl
  try simp only [Act.put, List.setIfInBounds_toArray, List.set_cons_zero, List.set_cons_succ]
  refine wpAnyH_ready (rs := [20]) (by kernel_rfl) (by simp) ?_
  refine AllReadyH.cons rfl (fun K hK => ?_) AllReadyH.nil
  go_simp
  refine Shut.out hK _ _ ⟨cell_far2 b6 z1, cell_far2 b2 x0, cell_far2 b3 y0⟩ (fun _ => ?_)
  clear hK K
  try simp only [Act.put, List.setIfInBounds_toArray, List.set_cons_zero, List.set_cons_succ]
  refine wpAnyH_done (by kernel_rfl) ?_ _
  exact HN.out _ _ _ _ _ _ _ _ _ _ _ _ _ _ _ _ _ _ _ _
set_option maxRecDepth 100000 in
set_option maxHeartbeats 8000000 in
theorem qq2_true {c : Code} (hc : c = qqc 2) {zb zo xb xo yb yo nq qc : Nat} {qa : Option Addr} {zn : Bool} {w2 : World} (hp1 : decide ((0 : Int) < (nq : Int)) = true) (hp3 : decide (0 < nq) = true)
    (z1 : w2.cell? ⟨zb, zo + 1, none⟩ = some (.slice qa nq qc)) (x0 : w2.cell? ⟨xb, xo, none⟩ = some (.bool false)) (y0 : w2.cell? ⟨yb, yo, none⟩ = some (.bool false)) (z0 : w2.cell? ⟨zb, zo, none⟩ = some (.bool zn)) (f1 : w2.frozen? ⟨zb, zo, none⟩ = false)
    (b2 : zb ≠ xb ∨ zo ≠ xo) (b3 : zb ≠ yb ∨ zo ≠ yo) (b6 : zb ≠ zb ∨ zo ≠ zo + 1)
    (u3 u4 u5 u6 u7 u8 u9 u10 u11 u12 u13 u14 u15 u16 u17 u18 u19 u20 u21 u22 u23 u24 u25 u26 u27 u28 u29 u30 u31 u32 u33 u34 u35 u36 u37 u38 u39 u40 u41 u42 u43 u44 u45 u46 : Value) (N : Act → World → Prop)
    (HN : Aside (∀ (v26 v27 v28 v29 v30 v31 v32 v33 v34 v35 v36 v37 v38 v39 v40 v41 v42 v43 v44 v45 : Value), N ⟨#[.pointer (some ⟨zb, zo, none⟩), .pointer (some ⟨xb, xo, none⟩), .pointer (some ⟨yb, yo, none⟩), u3, u4, u5, u6, u7, u8, u9, u10, u11, u12, u13, u14, u15, u16, u17, u18, u19, u20, u21, u22, u23, u24, u25, v26, v27, v28, v29, v30, v31, v32, v33, v34, v35, v36, v37, v38, v39, v40, v41, v42, v43, v44, v45, u46], []⟩ (w2.drew.setCell ⟨zb, zo, none⟩ (.bool false)))) :
    Code.wp Tryz.prog c (QN N) ⟨#[.pointer (some ⟨zb, zo, none⟩), .pointer (some ⟨xb, xo, none⟩), .pointer (some ⟨yb, yo, none⟩), u3, u4, u5, u6, u7, u8, u9, u10, u11, u12, u13, u14, u15, u16, u17, u18, u19, u20, u21, u22, u23, u24, u25, u26, u27, u28, u29, u30, u31, u32, u33, u34, u35, u36, u37, u38, u39, u40, u41, u42, u43, u44, u45, u46], []⟩ w2 := by
  subst hc
  conv => arg 2; whnf
  have hS0 : (fun w' => w'.cell? ⟨zb, zo + 1, none⟩ = some (.slice qa nq qc) ∧ w'.cell? ⟨xb, xo, none⟩ = some (.bool false) ∧ w'.cell? ⟨yb, yo, none⟩ = some (.bool false)) w2.drew := ⟨z1, x0, y0⟩
  refine wp_region_held (S := (fun w' => w'.cell? ⟨zb, zo + 1, none⟩ = some (.slice qa nq qc) ∧ w'.cell? ⟨xb, xo, none⟩ = some (.bool false) ∧ w'.cell? ⟨yb, yo, none⟩ = some (.bool false))) (by kernel_rfl) ?_
  change wpAnyH _ _ _ _ _ _ _ _ (World.drew _)
  refine wpAnyH_take (i := 0) (v := ?_) rfl (by kernel_rfl) (by kernel_rfl) (by kernel_rfl) (fun _ _ _ h => h) (Or.inl ⟨by kernel_rfl, ?_⟩) hS0 ?_
  rotate_left 1
  · rintro w9 ⟨e0, e1, e2⟩
    go_simp
    try with_reducible rfl
  try simp only [Act.put, List.setIfInBounds_toArray, List.set_cons_zero, List.set_cons_succ]
  refine wpAnyH_take (i := 1) (v := ?_) rfl (by kernel_rfl) (by kernel_rfl) (by kernel_rfl) (fun _ _ _ h => h) (Or.inl ⟨by kernel_rfl, ?_⟩) hS0 ?_
  rotate_left 1
  · rintro w9 ⟨e0, e1, e2⟩
    go_simp
    try with_reducible rfl
  try simp only [Act.put, List.setIfInBounds_toArray, List.set_cons_zero, List.set_cons_succ]
  refine wpAnyH_take (i := 2) (v := ?_) rfl (by kernel_rfl) (by kernel_rfl) (by kernel_rfl) (fun _ _ _ h => h) (Or.inl ⟨by kernel_rfl, ?_⟩) hS0 ?_
  rotate_left 1
  · rintro w9 ⟨e0, e1, e2⟩
    go_simp
    try with_reducible rfl
  try simp only [Act.put, List.setIfInBounds_toArray, List.set_cons_zero, List.set_cons_succ]
  refine wpAnyH_take (i := 3) (v := ?_) rfl (by kernel_rfl) (by kernel_rfl) (by kernel_rfl) (fun _ _ _ h => h) (Or.inl ⟨by kernel_rfl, ?_⟩) hS0 ?_
  rotate_left 1
  · rintro w9 ⟨e0, e1, e2⟩
    go_simp
    try with_reducible rfl
  try simp only [Act.put, List.setIfInBounds_toArray, List.set_cons_zero, List.set_cons_succ]
  refine wpAnyH_take (i := 4) (v := ?_) rfl (by kernel_rfl) (by kernel_rfl) (by kernel_rfl) (fun _ _ _ h => h) (Or.inl ⟨by kernel_rfl, ?_⟩) hS0 ?_
  rotate_left 1
  · rintro w9 ⟨e0, e1, e2⟩
    go_simp
    try with_reducible rfl
  try simp only [Act.put, List.setIfInBounds_toArray, List.set_cons_zero, List.set_cons_succ]
  refine wpAnyH_take (i := 5) (v := ?_) rfl (by kernel_rfl) (by kernel_rfl) (by kernel_rfl) (fun _ _ _ h => h) (Or.inl ⟨by kernel_rfl, ?_⟩) hS0 ?_
  rotate_left 1
  · rintro w9 ⟨e0, e1, e2⟩
    go_simp
    try with_reducible rfl
  try simp only [Act.put, List.setIfInBounds_toArray, List.set_cons_zero, List.set_cons_succ]
  refine wpAnyH_take (i := 6) (v := ?_) rfl (by kernel_rfl) (by kernel_rfl) (by kernel_rfl) (fun _ _ _ h => h) (Or.inl ⟨by kernel_rfl, ?_⟩) hS0 ?_
  rotate_left 1
  · rintro w9 ⟨e0, e1, e2⟩
    go_simp
    try with_reducible rfl
  try simp only [Act.put, List.setIfInBounds_toArray, List.set_cons_zero, List.set_cons_succ]
  refine wpAnyH_take (i := 7) (v := ?_) rfl (by kernel_rfl) (by kernel_rfl) (by kernel_rfl) (fun _ _ _ h => h) (Or.inl ⟨by kernel_rfl, ?_⟩) hS0 ?_
  rotate_left 1
  · rintro w9 ⟨e0, e1, e2⟩
    go_simp
    try with_reducible rfl
  try simp only [Act.put, List.setIfInBounds_toArray, List.set_cons_zero, List.set_cons_succ]
  refine wpAnyH_take (i := 8) (v := ?_) rfl (by kernel_rfl) (by kernel_rfl) (by kernel_rfl) (fun _ _ _ h => h) (Or.inl ⟨by kernel_rfl, ?_⟩) hS0 ?_
  rotate_left 1
  · rintro w9 ⟨e0, e1, e2⟩
    go_simp
    try with_reducible rfl
  try simp only [Act.put, List.setIfInBounds_toArray, List.set_cons_zero, List.set_cons_succ]
  refine wpAnyH_take (i := 9) (v := ?_) rfl (by kernel_rfl) (by kernel_rfl) (by kernel_rfl) (fun _ _ _ h => h) (Or.inl ⟨by kernel_rfl, ?_⟩) hS0 ?_
  rotate_left 1
  · rintro w9 ⟨e0, e1, e2⟩
    go_simp
    try with_reducible rfl
  try simp only [Act.put, List.setIfInBounds_toArray, List.set_cons_zero, List.set_cons_succ]
  refine wpAnyH_take (i := 10) (v := ?_) rfl (by kernel_rfl) (by kernel_rfl) (by kernel_rfl) (fun _ _ _ h => h) (Or.inl ⟨by kernel_rfl, ?_⟩) hS0 ?_
  rotate_left 1
  · rintro w9 ⟨e0, e1, e2⟩
    go_simp
    try with_reducible rfl
  try simp only [Act.put, List.setIfInBounds_toArray, List.set_cons_zero, List.set_cons_succ]
  refine wpAnyH_take (i := 11) (v := ?_) rfl (by kernel_rfl) (by kernel_rfl) (by kernel_rfl) (fun _ _ _ h => h) (Or.inl ⟨by kernel_rfl, ?_⟩) hS0 ?_
  rotate_left 1
  · rintro w9 ⟨e0, e1, e2⟩
    go_simp
    try with_reducible rfl
  try simp only [Act.put, List.setIfInBounds_toArray, List.set_cons_zero, List.set_cons_succ]
  refine wpAnyH_take (i := 12) (v := ?_) rfl (by kernel_rfl) (by kernel_rfl) (by kernel_rfl) (fun _ _ _ h => h) (Or.inl ⟨by kernel_rfl, ?_⟩) hS0 ?_
  rotate_left 1
  · rintro w9 ⟨e0, e1, e2⟩
    go_simp
    try with_reducible rfl
  try simp only [Act.put, List.setIfInBounds_toArray, List.set_cons_zero, List.set_cons_succ]
  refine wpAnyH_take (i := 13) (v := ?_) rfl (by kernel_rfl) (by kernel_rfl) (by kernel_rfl) (fun _ _ _ h => h) (Or.inl ⟨by kernel_rfl, ?_⟩) hS0 ?_
  rotate_left 1
  · rintro w9 ⟨e0, e1, e2⟩
    go_simp
    try with_reducible rfl
  try simp only [Act.put, List.setIfInBounds_toArray, List.set_cons_zero, List.set_cons_succ]
  refine wpAnyH_take (i := 14) (v := ?_) rfl (by kernel_rfl) (by kernel_rfl) (by kernel_rfl) (fun _ _ _ h => h) (Or.inl ⟨by kernel_rfl, ?_⟩) hS0 ?_
  rotate_left 1
  · rintro w9 ⟨e0, e1, e2⟩
    go_simp
    try with_reducible rfl
  try simp only [Act.put, List.setIfInBounds_toArray, List.set_cons_zero, List.set_cons_succ]
  refine wpAnyH_take (i := 15) (v := ?_) rfl (by kernel_rfl) (by kernel_rfl) (by kernel_rfl) (fun _ _ _ h => h) (Or.inl ⟨by kernel_rfl, ?_⟩) hS0 ?_
  rotate_left 1
  · rintro w9 ⟨e0, e1, e2⟩
    go_simp
    try with_reducible rfl
  try simp only [Act.put, List.setIfInBounds_toArray, List.set_cons_zero, List.set_cons_succ]
  refine wpAnyH_take (i := 16) (v := ?_) rfl (by kernel_rfl) (by kernel_rfl) (by kernel_rfl) (fun _ _ _ h => h) (Or.inl ⟨by kernel_rfl, ?_⟩) hS0 ?_
  rotate_left 1
  · rintro w9 ⟨e0, e1, e2⟩
    go_simp
    try with_reducible rfl
  try simp only [Act.put, List.setIfInBounds_toArray, List.set_cons_zero, List.set_cons_succ]
  refine wpAnyH_take (i := 17) (v := ?_) rfl (by kernel_rfl) (by kernel_rfl) (by kernel_rfl) (fun _ _ _ h => h) (Or.inl ⟨by kernel_rfl, ?_⟩) hS0 ?_
  rotate_left 1
  · rintro w9 ⟨e0, e1, e2⟩
    go_simp
    try with_reducible rfl
  try simp only [Act.put, List.setIfInBounds_toArray, List.set_cons_zero, List.set_cons_succ]
  refine wpAnyH_take (i := 18) (v := ?_) rfl (by kernel_rfl) (by kernel_rfl) (by kernel_rfl) (fun _ _ _ h => h) (Or.inl ⟨by kernel_rfl, ?_⟩) hS0 ?_
  rotate_left 1
  · rintro w9 ⟨e0, e1, e2⟩
    go_simp
    try with_reducible rfl
  try simp only [Act.put, List.setIfInBounds_toArray, List.set_cons_zero, List.set_cons_succ]
  refine wpAnyH_take (i := 19) (v := ?_) rfl (by kernel_rfl) (by kernel_rfl) (by kernel_rfl) (fun _ _ _ h => h) (Or.inl ⟨by kernel_rfl, ?_⟩) hS0 ?_
  rotate_left 1
  · rintro w9 ⟨e0, e1, e2⟩
    go_simp
    try with_reducible rfl
  try simp only [Act.put, List.setIfInBounds_toArray, List.set_cons_zero, List.set_cons_succ]
  refine wpAnyH_ready (rs := [20]) (by kernel_rfl) (by simp) ?_
  refine AllReadyH.cons rfl (fun K hK => ?_) AllReadyH.nil
  go_simp
  refine Shut.out hK _ _ ⟨cell_far2 b6 z1, cell_far2 b2 x0, cell_far2 b3 y0⟩ (fun _ => ?_)
  clear hK K
  try simp only [Act.put, List.setIfInBounds_toArray, List.set_cons_zero, List.set_cons_succ]
  refine wpAnyH_done (by kernel_rfl) ?_ _
  exact HN.out _ _ _ _ _ _ _ _ _ _ _ _ _ _ _ _ _ _ _ _
end Go.Proofs.YtgilnnipephfjaaGreatDoor
namespace Go.Proofs.YtgilnnipephfjaaGreatDoor
open Go.RowKit

theorem quo1_fin {zb zo : Nat} {zn : Bool} {za qa : Option Addr} {zc qc Z Q : Nat} {w w1 : World} (hz : IA w zb zo zn za zc Z) (hq : Nt w1 qa qc Q) (fr : Fr (foot za zc) w w1) (qo : Out w za zc qa qc)
    (d1 : w1.cell? ⟨zb, zo + 1, none⟩ = some (.slice za (nlen Z) zc)) (z0 : w1.cell? ⟨zb, zo, none⟩ = some (.bool zn)) :
    IA ((w1.setCell ⟨zb, zo + 1, none⟩ (.slice qa (nlen Q) qc)).drew.setCell ⟨zb, zo, none⟩ (.bool false)) zb zo false qa qc Q ∧
    Fr (ifoot zb zo za zc) w ((w1.setCell ⟨zb, zo + 1, none⟩ (.slice qa (nlen Q) qc)).drew.setCell ⟨zb, zo, none⟩ (.bool false)) := by
  have key : ∀ p, (p = zo ∨ p = zo + 1) → ¬ foot qa qc zb p := fun p hp q => by
    rcases qo with ⟨rfl, rfl⟩ | ⟨b', o', rfl, h7⟩
    · rcases hp with rfl | rfl
      · exact (hz.apart hz.nt.reg).1 q
      · exact (hz.apart hz.nt.reg).2 q
    · rw [foot_some] at q
      have := hz.blk.lt
      omega
  have c1 : (w1.setCell ⟨zb, zo + 1, none⟩ (.slice qa (nlen Q) qc)).cell? ⟨zb, zo + 1, none⟩ = some (.slice qa (nlen Q) qc) := World.cell?_setCell_same _ _ _ d1
  have c3 : (w1.setCell ⟨zb, zo + 1, none⟩ (.slice qa (nlen Q) qc)).cell? ⟨zb, zo, none⟩ = some (.bool zn) := cell_far2 (.inr (Nat.ne_of_gt (Nat.lt_succ_self _))) z0
  have g1 : Fr (fun b o => b = zb ∧ (o = zo ∨ o = zo + 1)) w1 ((w1.setCell ⟨zb, zo + 1, none⟩ (.slice qa (nlen Q) qc)).drew.setCell ⟨zb, zo, none⟩ (.bool false)) :=
    (((Fr.refl _ w1).setCell zb (zo + 1) _ (fun _ => ⟨rfl, .inr rfl⟩)).drew).setCell zb zo _ (fun _ => ⟨rfl, .inl rfl⟩)
  obtain ⟨w2, hw2⟩ : ∃ x, w1.setCell ⟨zb, zo + 1, none⟩ (.slice qa (nlen Q) qc) = x := ⟨_, rfl⟩
  rw [hw2] at c1 c3 g1 ⊢
  have c1' : w2.drew.cell? ⟨zb, zo + 1, none⟩ = some (.slice qa (nlen Q) qc) := c1
  have c3' : w2.drew.cell? ⟨zb, zo, none⟩ = some (.bool zn) := c3
  refine ⟨⟨World.cell?_setCell_same _ _ _ c3', cell_far2 (.inr (Nat.ne_of_lt (Nat.lt_succ_self _))) c1', ?_, g1.blk (fr.blk hz.blk)⟩, ?_⟩
  · refine g1.nt hq (fun b o q => ?_)
    rintro ⟨rfl, h⟩
    exact key o h q
  · exact fr.trans' g1 (fun _ _ _ q => .inr q) (fun b o _ q => .inl q)
set_option maxRecDepth 100000 in
set_option maxHeartbeats 8000000 in
theorem iQuo_any {zb zo xb xo yb yo : Nat} {zn : Bool} {za xa ya : Option Addr} {zc xc yc Z X Y : Nat} {w : World} (g : Gl w) (hz : IA w zb zo zn za zc Z) (hx : IA w xb xo false xa xc X) (hy : IA w yb yo false ya yc Y)
    (hY0 : 0 < Y) (h40 : nlen Y < 40) (hxl : nlen X < 1000) (nzx : zb ≠ xb ∨ zo + 2 ≤ xo ∨ xo + 2 ≤ zo) (nzy : zb ≠ yb ∨ zo + 2 ≤ yo ∨ yo + 2 ≤ zo) (dzx : Ap za zc xa xc) :
    Calls Tryz.prog 140 #[.pointer (some ⟨zb, zo, none⟩), .pointer (some ⟨xb, xo, none⟩), .pointer (some ⟨yb, yo, none⟩)] w fun e w' => ∃ qa qc, e = .returned (.pointer (some ⟨zb, zo, none⟩)) ∧
      Aside (IA w' zb zo false qa qc (X / Y) ∧ Fr (ifoot zb zo za zc) w w' ∧ Out w za zc qa qc) := by
  have hza := hz.abs
  have hxa := hx.abs
  have hya := hy.abs
  have HD : Hid (Calls Tryz.prog 182 #[.slice za (nlen Z) zc, .pointer none, .slice none 0 0, .slice xa (nlen X) xc, .slice ya (nlen Y) yc] w.drew fun e w1 => ∃ qa qc sa sc, e = .returned (.tuple #[.slice qa (nlen (X / Y)) qc, .slice sa (nlen (X % Y)) sc]) ∧
      w1.cell? ⟨zb, zo + 1, none⟩ = some (.slice za (nlen Z) zc) ∧ w1.cell? ⟨xb, xo + 1, none⟩ = some (.slice xa (nlen X) xc) ∧ w1.cell? ⟨yb, yo + 1, none⟩ = some (.slice ya (nlen Y) yc) ∧
      w1.frozen? ⟨zb, zo + 1, none⟩ = false ∧ Aside (Nt w1 qa qc (X / Y) ∧ Fr (foot za zc) w w1 ∧ Out w za zc qa qc ∧
      w1.cell? ⟨xb, xo, none⟩ = some (.bool false) ∧ w1.cell? ⟨yb, yo, none⟩ = some (.bool false) ∧ w1.cell? ⟨zb, zo, none⟩ = some (.bool zn) ∧
      w1.frozen? ⟨zb, zo, none⟩ = false ∧ w1.cell? ⟨zb, zo + 1, none⟩ = some (.slice za (nlen Z) zc))) := Lib.hid (by
    have f0 : Fr (fun _ _ => False) w w.drew := (Fr.refl _ w).drew
    refine (div_nil (g.fr f0 (fun _ _ k => k.elim)) (f0.reg hz.nt.reg (fun _ _ _ k => k)) hz.nt.len (Reg.nil _) (Nat.le_refl 0) (f0.nt hx.nt (fun _ _ _ k => k)) (f0.nt hy.nt (fun _ _ _ k => k)) hY0 h40 hxl (fun b o _ k => foot_none _ _ _ k) dzx (.inr (fun b o k => absurd k (foot_none _ _ _)))).mono ?_
    rintro e w1 ⟨qa, qc, sa, sc, rfl, k⟩
    have f : Fr (foot za zc) w w1 := f0.trans' k.fr (fun _ _ _ q => q.elim) (fun _ _ _ q => q.elim id (fun q => absurd q (foot_none _ _ _)))
    have c0 : ∀ {b o : Nat} {n : Bool} {a : Option Addr} {c N : Nat}, IA w b o n a c N → w1.cell? ⟨b, o, none⟩ = some (.bool n) ∧ w1.cell? ⟨b, o + 1, none⟩ = some (.slice a (nlen N) c) := fun {b o n a c N} h =>
      ⟨(f.cell _ _ h.blk.lt (h.apart hz.nt.reg).1).trans h.neg, (f.cell _ _ h.blk.lt (h.apart hz.nt.reg).2).trans h.abs⟩
    exact ⟨qa, qc, sa, sc, rfl, (c0 hz).2, (c0 hx).2, (c0 hy).2, (f.blk hz.blk).free _, ⟨k.q, f, k.qo, (c0 hx).1, (c0 hy).1, (c0 hz).1, (f.blk hz.blk).free _, (c0 hz).2⟩⟩)
  have HF : Aside (∀ {qa : Option Addr} {qc : Nat} {w1 : World}, Nt w1 qa qc (X / Y) → Fr (foot za zc) w w1 → Out w za zc qa qc → w1.cell? ⟨zb, zo + 1, none⟩ = some (.slice za (nlen Z) zc) → w1.cell? ⟨zb, zo, none⟩ = some (.bool zn) →
    IA ((w1.setCell ⟨zb, zo + 1, none⟩ (.slice qa (nlen (X / Y)) qc)).drew.setCell ⟨zb, zo, none⟩ (.bool false)) zb zo false qa qc (X / Y) ∧
    Fr (ifoot zb zo za zc) w ((w1.setCell ⟨zb, zo + 1, none⟩ (.slice qa (nlen (X / Y)) qc)).drew.setCell ⟨zb, zo, none⟩ (.bool false))) := ⟨fun q f o d z => quo1_fin hz q f o d z⟩
  obtain ⟨lz, hlz⟩ : ∃ n, nlen Z = n := ⟨_, rfl⟩
  obtain ⟨lx, hlx⟩ : ∃ n, nlen X = n := ⟨_, rfl⟩
  obtain ⟨ly, hly⟩ : ∃ n, nlen Y = n := ⟨_, rfl⟩
  obtain ⟨nq, hnq⟩ : ∃ n, nlen (X / Y) = n := ⟨_, rfl⟩
  obtain ⟨ns, hns⟩ : ∃ n, nlen (X % Y) = n := ⟨_, rfl⟩
  obtain ⟨Q, hQ⟩ : ∃ Q, X / Y = Q := ⟨_, rfl⟩
  rw [hlz] at hza HD HF
  rw [hlx] at hxa HD
  rw [hly] at hya HD
  rw [hnq, hns] at HD
  rw [hnq] at HF
  rw [hQ] at HD HF ⊢
  have a2 : zb ≠ xb ∨ zo + 1 ≠ xo + 1 := off11 nzx
  have a3 : zb ≠ yb ∨ zo + 1 ≠ yo + 1 := off11 nzy
  have b2 : zb ≠ xb ∨ zo ≠ xo := off00 nzx
  have b3 : zb ≠ yb ∨ zo ≠ yo := off00 nzy
  have b6 : zb ≠ zb ∨ zo ≠ zo + 1 := .inr (Nat.ne_of_lt (Nat.lt_succ_self _))
  have m1 : zb ≠ xb ∨ zo + 1 ≠ xo := off10 nzx
  have m2 : zb ≠ yb ∨ zo + 1 ≠ yo := off10 nzy
  have m8 : zb ≠ zb ∨ zo + 1 ≠ zo := .inr (Nat.ne_of_gt (Nat.lt_succ_self _))
  clear g hz hx hy hY0 h40 hxl dzx hlz hlx hly hnq hns hQ nzx nzy
  obtain ⟨p1, hp1⟩ : ∃ p, decide ((0 : Int) < (nq : Int)) = p := ⟨_, rfl⟩
  have hp3 : decide (0 < nq) = p1 := by rw [← hp1]; simp
  have HG := Aside.mk (And.intro hp1 hp3)
  clear hp1 hp3
  go_enter Tryz.func140, Tryz.ntmps140
  go_upto_region 1 with fail
  refine wp_QN (qq1 (by kernel_rfl) hza hxa hya a2 a3 HD _ _ _ _ _ _ _ _ _ _ _ _ _ _ _ _ _ _ _ _ _ _ _ _ _ _ _ _ _ _ _ _ _ _ _ _ _ _ _ _ _ _ _ _ _ ⟨?_⟩)
  intro qa qc sa sc v7 v8 v9 v10 v11 v12 v13 v14 v15 v16 v17 v18 v19 v20 v21 v22 v23 v24 v25 w1 k
  obtain ⟨kq, kf, ko, x0, y0, z0, f1, d1⟩ := k
  have hfin := Aside.mk (And.intro (HF.out kq kf ko d1 z0) ko)
  have c1 : (w1.setCell ⟨zb, zo + 1, none⟩ (.slice qa nq qc)).cell? ⟨zb, zo + 1, none⟩ = some (.slice qa nq qc) := World.cell?_setCell_same _ _ _ d1
  have c3 : (w1.setCell ⟨zb, zo + 1, none⟩ (.slice qa nq qc)).cell? ⟨zb, zo, none⟩ = some (.bool zn) := cell_far2 m8 z0
  have c5 : (w1.setCell ⟨zb, zo + 1, none⟩ (.slice qa nq qc)).cell? ⟨xb, xo, none⟩ = some (.bool false) := cell_far2 m1 x0
  have c6 : (w1.setCell ⟨zb, zo + 1, none⟩ (.slice qa nq qc)).cell? ⟨yb, yo, none⟩ = some (.bool false) := cell_far2 m2 y0
  have e1 : (w1.setCell ⟨zb, zo + 1, none⟩ (.slice qa nq qc)).frozen? ⟨zb, zo, none⟩ = false := by rw [World.frozen?_setCell]; exact f1
  clear kq kf ko x0 y0 z0 f1 d1 hza hxa hya HD HF
  obtain ⟨w2, hw2⟩ : ∃ x, w1.setCell ⟨zb, zo + 1, none⟩ (.slice qa nq qc) = x := ⟨_, rfl⟩
  have hfin2 : Aside (IA (w2.drew.setCell ⟨zb, zo, none⟩ (.bool false)) zb zo false qa qc Q ∧ Fr (ifoot zb zo za zc) w (w2.drew.setCell ⟨zb, zo, none⟩ (.bool false)) ∧ Out w za zc qa qc) := ⟨by
    subst hw2
    exact ⟨hfin.out.1.1, hfin.out.1.2, hfin.out.2⟩⟩
  clear hfin
  rw [hw2] at c1 c3 c5 c6 e1 ⊢
  clear hw2
  try go_upto_region 2 with fail
  cases p1
  · refine wp_QN (qq2_false (by kernel_rfl) HG.out.1 HG.out.2 c1 c5 c6 c3 e1 b2 b3 b6 _ _ _ _ _ _ _ _ _ _ _ _ _ _ _ _ _ _ _ _ _ _ _ _ _ _ _ _ _ _ _ _ _ _ _ _ _ _ _ _ _ _ _ _ _ ⟨?_⟩)
    intro y26 y27 y28 y29 y30 y31 y32 y33 y34 y35 y36 y37 y38 y39 y40 y41 y42 y43 y44 y45
    go_wp2_with fail
    go_ret
    exact ⟨qa, qc, rfl, hfin2⟩
  · refine wp_QN (qq2_true (by kernel_rfl) HG.out.1 HG.out.2 c1 c5 c6 c3 e1 b2 b3 b6 _ _ _ _ _ _ _ _ _ _ _ _ _ _ _ _ _ _ _ _ _ _ _ _ _ _ _ _ _ _ _ _ _ _ _ _ _ _ _ _ _ _ _ _ _ ⟨?_⟩)
    intro y26 y27 y28 y29 y30 y31 y32 y33 y34 y35 y36 y37 y38 y39 y40 y41 y42 y43 y44 y45
    go_wp2_with fail
    go_ret
    exact ⟨qa, qc, rfl, hfin2⟩
set_option maxRecDepth 100000 in
theorem bQuo_any {zb zo xb xo yb yo : Nat} {zn : Bool} {za xa ya : Option Addr} {zc xc yc Z X Y : Nat} {w : World} (g : Gl w) (hz : IA w zb zo zn za zc Z) (hx : IA w xb xo false xa xc X) (hy : IA w yb yo false ya yc Y)
    (hY0 : 0 < Y) (h40 : nlen Y < 40) (hxl : nlen X < 1000) (nzx : zb ≠ xb ∨ zo + 2 ≤ xo ∨ xo + 2 ≤ zo) (nzy : zb ≠ yb ∨ zo + 2 ≤ yo ∨ yo + 2 ≤ zo) (dzx : Ap za zc xa xc) :
    Calls Tryz.prog 98 #[.pointer (some ⟨zb, zo, none⟩), .pointer (some ⟨xb, xo, none⟩), .pointer (some ⟨yb, yo, none⟩)] w fun e w' => ∃ qa qc, e = .returned (.pointer (some ⟨zb, zo, none⟩)) ∧
      Aside (IA w' zb zo false qa qc (X / Y) ∧ Fr (ifoot zb zo za zc) w w' ∧ Out w za zc qa qc) := by
  have H : Hid (∀ d, Calls Tryz.prog 140 #[.pointer (some ⟨zb, zo, none⟩), .pointer (some ⟨xb, xo, none⟩), .pointer (some ⟨yb, yo, none⟩)] (w.drewN d) fun e w' => ∃ qa qc, e = .returned (.pointer (some ⟨zb, zo, none⟩)) ∧
      Aside (IA w' zb zo false qa qc (X / Y) ∧ Fr (ifoot zb zo za zc) w w' ∧ Out w za zc qa qc)) := Lib.hid (fun d => by
    have f0 : Fr (fun _ _ => False) w (w.drewN d) := (Fr.refl _ w).drewN d
    refine (iQuo_any (w := w.drewN d) (g.fr f0 (fun _ _ k => k.elim)) (hz.drewN d) (hx.drewN d) (hy.drewN d) hY0 h40 hxl nzx nzy dzx).mono ?_
    rintro e w1 ⟨qa, qc, rfl, k⟩
    exact ⟨qa, qc, rfl, ⟨k.out.1, ((Fr.refl _ w).drewN d).trans k.out.2.1, k.out.2.2⟩⟩)
  clear g hz hx hy hY0 h40 hxl nzx nzy dzx
  go_enter Tryz.func98, Tryz.ntmps98
  go_wp2_with fail
  go_region_with (go_at_call 140; go_must (refine (H.out _).mono ?_; rintro e w1 ⟨qa, qc, rfl, k⟩))
  all_goals
    clear H
    go_wp2_with fail
    go_ret
    exact ⟨qa, qc, rfl, k⟩
end Go.Proofs.YtgilnnipephfjaaGreatDoor
