/- The reference's QuoRem. -/
import Derived.Test.YtgilnnipephfjaaGreatDoorT45SA1
import Derived.Test.YtgilnnipephfjaaGreatDoorT44SN7
set_option linter.unusedSimpArgs false
set_option linter.unusedVariables false
namespace Go.Proofs.YtgilnnipephfjaaGreatDoor
open Go.RowKit

theorem Src.bf {w : World} {a : Option Addr} {n c : Nat} {l : List UInt8} (h : Bf w a n c l) : Src Tryz.prog 1 38 (.slice a n c) n (bv l) w := by
  have hl := h.len
  have hle := h.le
  rcases h.reg with ⟨rfl, rfl⟩ | ⟨b, o, rfl, ho, hb⟩
  · obtain rfl : n = 0 := by omega
    have e : l = [] := List.eq_nil_of_length_eq_zero hl
    subst e
    exact Src.ofNil w Tryz.underlying38 0
  · exact Src.bytes hl hb
def byteAt (w : World) (b o : Nat) : Nat := match w.cell? ⟨b, o, none⟩ with | some (.int _ z) => z.toNat | _ => 0
theorem Bf.base {w : World} {b n c : Nat} {l : List UInt8} (h : Bf w (some ⟨b, 0, none⟩) n c l) : OwnB w b 0 c ∧ Bs w b 0 l := by
  rcases h.reg with ⟨q, _⟩ | ⟨b', o', e, h1, h2⟩
  · cases q
  · cases e; exact ⟨h1, h2⟩
theorem Bf.cellAt {w : World} {b n c : Nat} {l : List UInt8} (h : Bf w (some ⟨b, 0, none⟩) n c l) {k : Nat} (hk : k < l.length) : w.cell? ⟨b, k, none⟩ = some (.int .u8 (((l[k]).toNat : Nat) : Int)) := by
  have := h.base.2 k hk
  rwa [Nat.zero_add] at this
theorem Bf.setAt {w : World} {b n c : Nat} {l : List UInt8} (h : Bf w (some ⟨b, 0, none⟩) n c l) {k : Nat} (hk : k < l.length) (x : UInt8) : Bf (w.setCell ⟨b, k, none⟩ (.int .u8 ((x.toNat : Nat) : Int))) (some ⟨b, 0, none⟩) n c (l.set k x) := by
  have hc := h.cellAt hk
  have hle := h.le
  have hl := h.len
  have g := (Fr.refl (fun b' _ => b' = b) w).setCell b k (.int .u8 ((x.toNat : Nat) : Int)) (fun _ => rfl)
  refine ⟨by rw [List.length_set]; exact hl, hle, .inr ⟨b, 0, rfl, ⟨fun i hi => ?_, g.blk h.base.1.kind⟩, fun i hi => ?_⟩⟩
  · rw [Nat.zero_add]
    by_cases e : k = i
    · subst e
      exact ⟨x.toNat, by have := UInt8.toNat_lt x; omega, World.cell?_setCell_same _ _ _ hc⟩
    · rw [World.cell?_setCell_other _ _ _ _ (by simp only [ne_eq, Addr.mk.injEq, and_true]; omega)]
      have := h.base.1.cell i hi
      rwa [Nat.zero_add] at this
  · rw [List.length_set] at hi
    rw [Nat.zero_add, List.getElem_set]
    by_cases e : k = i
    · subst e
      rw [if_pos rfl]
      exact World.cell?_setCell_same _ _ _ hc
    · rw [if_neg e, World.cell?_setCell_other _ _ _ _ (by simp only [ne_eq, Addr.mk.injEq, and_true]; omega)]
      exact h.cellAt hi
/-- What stands in memory while a division goes on: the quotient's bytes at ob, the remainder. -/
structure QR (w4 wr : World) (ob n : Nat) (ql : List UInt8) (a : Option Addr) (m c R : Nat) : Prop where
  q : Bf wr (some ⟨ob, 0, none⟩) n n ql
  r : Bf wr a m c (dlow R)
  fr : Fr (fun _ _ => False) w4 wr
  ro : ∀ x y, foot a c x y → x ≠ ob
  ol : w4.heap.size ≤ ob
  ob : ob < wr.heap.size
theorem QR.new {w4 wr w' : World} {ob n : Nat} {ql : List UInt8} {a : Option Addr} {m c R : Nat} (h : QR w4 wr ob n ql a m c R) (f : Fr (fun _ _ => False) wr w') : QR w4 w' ob n ql a m c R :=
  ⟨h.q.fr f (fun _ _ _ q => q), h.r.fr f (fun _ _ _ q => q), h.fr.trans f, h.ro, h.ol, Nat.lt_of_lt_of_le h.ob f.size⟩
theorem QR.take {w4 wr w' : World} {ob n : Nat} {ql : List UInt8} {a a' : Option Addr} {m c R m' c' R' : Nat} (h : QR w4 wr ob n ql a m c R) (f : Fr (fun _ _ => False) wr w') (hr : Bf w' a' m' c' (dlow R')) (ho : Out wr none 0 a' c') : QR w4 w' ob n ql a' m' c' R' :=
  ⟨h.q.fr f (fun _ _ _ q => q), hr, h.fr.trans f, fun x y q e => by
    have h1 : wr.heap.size ≤ x := by
      rcases ho with ⟨rfl, rfl⟩ | ⟨b', o', rfl, hb⟩
      · exact absurd q (foot_none _ _ _)
      · rw [foot_some] at q; omega
    have := h.ob
    omega, h.ol, Nat.lt_of_lt_of_le h.ob f.size⟩
theorem QR.set {w4 wr : World} {ob n : Nat} {ql : List UInt8} {a : Option Addr} {m c R k : Nat} (h : QR w4 wr ob n ql a m c R) (hk : k < ql.length) (x : UInt8) : QR w4 (wr.setCell ⟨ob, k, none⟩ (.int .u8 ((x.toNat : Nat) : Int))) ob n (ql.set k x) a m c R := by
  have g := (Fr.refl (fun b' _ => b' = ob) wr).setCell ob k (.int .u8 ((x.toNat : Nat) : Int)) (fun _ => rfl)
  exact ⟨h.q.setAt hk x, h.r.fr g (fun x y q e => h.ro x y q e), h.fr.trans' g (fun _ _ _ q => q) (fun x y hx e => by have := h.ol; omega), h.ro, h.ol, by simpa using h.ob⟩
theorem QR.byte {w4 wr : World} {ob n : Nat} {ql : List UInt8} {a : Option Addr} {m c R k : Nat} (h : QR w4 wr ob n ql a m c R) (hk : k < ql.length) : byteAt wr ob k = (ql[k]).toNat := by
  unfold byteAt
  rw [h.q.cellAt hk]
  simp
theorem QR.start {w4 : World} (n : Nat) (hG : NG ≤ w4.heap.size) : QR w4 (w4.alloc (.cells (madeCells #[.int .u8 0] n) 5)) w4.heap.size n (List.replicate n 0) none 0 0 0 := by
  have ho := OwnB_made n 5 w4 hG
  refine ⟨⟨by simp, Nat.le_refl _, .inr ⟨_, _, rfl, ho, fun i hi => ?_⟩⟩, by rw [dlow_zero]; exact Bf.nil _, (Fr.refl _ w4).alloc _, fun x y q => absurd q (foot_none _ _ _), Nat.le_refl _, by simp⟩
  have hi' : i < n := by simpa using hi
  rw [Nat.zero_add, World.cell?_alloc_new, ← Array.getElem?_toList, toList_madeCells_one]
  simp [hi']
theorem sg_geq' (X Y : Nat) : decide ((0 : Int) ≤ sg X Y) = decide (Y ≤ X) := by
  rw [decide_eq_decide]
  rcases Nat.lt_trichotomy X Y with h | h | h
  · rw [sg_lt h]; omega
  · subst h; rw [sg_eq]; omega
  · rw [sg_gt h]; omega
theorem dlow_app (X d : Nat) (hd : d < 10) : dlow (val (UInt8.ofNat d :: dlow X)) = dlow (10 * X + d) := by
  rw [val_cons, val_dlow, UInt8.toNat_ofNat']
  congr 1
  omega
theorem Bf.one {w : World} (hG : NG ≤ w.heap.size) {d : Nat} (hd : d < 256) (t : TypeId) : Bf (w.alloc (.cells #[.int .u8 ((d : Nat) : Int)] t)) (some ⟨w.heap.size, 0, none⟩) 1 1 [UInt8.ofNat d] := by
  have hc : (w.alloc (.cells #[.int .u8 ((d : Nat) : Int)] t)).cell? ⟨w.heap.size, 0, none⟩ = some (.int .u8 ((d : Nat) : Int)) := by rw [World.cell?_alloc_new]; rfl
  refine ⟨rfl, Nat.le_refl _, .inr ⟨_, _, rfl, ⟨fun i hi => ⟨d, hd, ?_⟩, ⟨hG, t, kind_alloc_new _ _ _ _⟩⟩, fun i hi => ?_⟩⟩
  · obtain rfl : i = 0 := by omega
    exact hc
  · have hi' : i < 1 := hi
    obtain rfl : i = 0 := by omega
    rw [Nat.zero_add, hc]
    simp only [List.getElem_cons_zero, UInt8.toNat_ofNat']
    rw [Nat.mod_eq_of_lt (by omega)]
theorem Out.newOf {w : World} {t : Obj} {a' : Option Addr} {c' : Nat} (h : Out (w.alloc t) (some ⟨w.heap.size, 0, none⟩) 1 a' c') : Out w none 0 a' c' := by
  rcases h with ⟨rfl, rfl⟩ | ⟨b, o, rfl, hb⟩
  · exact .inr ⟨_, _, rfl, Nat.le_refl _⟩
  · exact .inr ⟨b, o, rfl, by simp at hb; omega⟩
theorem Qi.small {X Y n k R t : Nat} {ql : List UInt8} (h : Qi X Y n k ql R t) (hY : 0 < Y) {m : Nat} (hm : Y < 10 ^ m) : (dlow R).length ≤ m + 1 := by
  have hr := h.rem
  have h1 : X / 10 ^ (k + 1) % Y < Y := Nat.mod_lt _ hY
  have h2 := dg_lt X k
  apply dlow_le
  rw [Nat.pow_succ]
  generalize t * Y = u at hr
  omega
theorem two_nums {w : World} {p q : Nat} (hpq : p ≠ q) (h0 : w.cell? ⟨p, 0, none⟩ = some (.bool false)) (h1 : w.cell? ⟨p, 1, none⟩ = some (.slice none 0 0)) (k0 : w.cell? ⟨q, 0, none⟩ = some (.bool false)) (k1 : w.cell? ⟨q, 1, none⟩ = some (.slice none 0 0)) (x0 x1 y0 y1 : Value) :
    ((((w.setCell ⟨p, 0, none⟩ x0).setCell ⟨p, 1, none⟩ x1).setCell ⟨q, 0, none⟩ y0).setCell ⟨q, 1, none⟩ y1).cell? ⟨p, 0, none⟩ = some x0 ∧ ((((w.setCell ⟨p, 0, none⟩ x0).setCell ⟨p, 1, none⟩ x1).setCell ⟨q, 0, none⟩ y0).setCell ⟨q, 1, none⟩ y1).cell? ⟨p, 1, none⟩ = some x1 ∧
    ((((w.setCell ⟨p, 0, none⟩ x0).setCell ⟨p, 1, none⟩ x1).setCell ⟨q, 0, none⟩ y0).setCell ⟨q, 1, none⟩ y1).cell? ⟨q, 0, none⟩ = some y0 ∧ ((((w.setCell ⟨p, 0, none⟩ x0).setCell ⟨p, 1, none⟩ x1).setCell ⟨q, 0, none⟩ y0).setCell ⟨q, 1, none⟩ y1).cell? ⟨q, 1, none⟩ = some y1 ∧
    ∀ {a : Option Addr} {m c : Nat} {l : List UInt8}, Bf w a m c l → Bf ((((w.setCell ⟨p, 0, none⟩ x0).setCell ⟨p, 1, none⟩ x1).setCell ⟨q, 0, none⟩ y0).setCell ⟨q, 1, none⟩ y1) a m c l := by
  have e (b b' o o' : Nat) (h : b ≠ b' ∨ o ≠ o') : (⟨b, o, none⟩ : Addr) ≠ ⟨b', o', none⟩ := by simp only [ne_eq, Addr.mk.injEq, and_true]; omega
  have kk0 : ((w.setCell ⟨p, 0, none⟩ x0).setCell ⟨p, 1, none⟩ x1).cell? ⟨q, 0, none⟩ = some (.bool false) := by
    rw [World.cell?_setCell_other _ _ _ _ (e _ _ _ _ (.inl hpq)), World.cell?_setCell_other _ _ _ _ (e _ _ _ _ (.inl hpq))]; exact k0
  have kk1 : ((w.setCell ⟨p, 0, none⟩ x0).setCell ⟨p, 1, none⟩ x1).cell? ⟨q, 1, none⟩ = some (.slice none 0 0) := by
    rw [World.cell?_setCell_other _ _ _ _ (e _ _ _ _ (.inl hpq)), World.cell?_setCell_other _ _ _ _ (e _ _ _ _ (.inl hpq))]; exact k1
  have hp0 : ((w.setCell ⟨p, 0, none⟩ x0).setCell ⟨p, 1, none⟩ x1).cell? ⟨p, 0, none⟩ = some x0 := by
    rw [World.cell?_setCell_other _ _ _ _ (e _ _ _ _ (.inr (by omega)))]; exact World.cell?_setCell_same _ _ _ h0
  have hp1 : ((w.setCell ⟨p, 0, none⟩ x0).setCell ⟨p, 1, none⟩ x1).cell? ⟨p, 1, none⟩ = some x1 :=
    World.cell?_setCell_same _ _ _ ((World.cell?_setCell_other _ _ _ _ (e _ _ _ _ (.inr (by omega)))).trans h1)
  refine ⟨?_, ?_, ?_, ?_, fun h => (h.res (by intro z q; cases q) h0 h1 _ _).res (by intro z q; cases q) kk0 kk1 _ _⟩
  · rw [World.cell?_setCell_other _ _ _ _ (e _ _ _ _ (.inl (Ne.symm hpq))), World.cell?_setCell_other _ _ _ _ (e _ _ _ _ (.inl (Ne.symm hpq)))]; exact hp0
  · rw [World.cell?_setCell_other _ _ _ _ (e _ _ _ _ (.inl (Ne.symm hpq))), World.cell?_setCell_other _ _ _ _ (e _ _ _ _ (.inl (Ne.symm hpq)))]; exact hp1
  · rw [World.cell?_setCell_other _ _ _ _ (e _ _ _ _ (.inr (by omega)))]; exact World.cell?_setCell_same _ _ _ kk0
  · exact World.cell?_setCell_same _ _ _ ((World.cell?_setCell_other _ _ _ _ (e _ _ _ _ (.inr (by omega)))).trans kk1)
set_option maxRecDepth 100000 in
theorem quorem_results {W : World} {p q : Nat} {x0 x1 y0 y1 : Value} (h0 : W.cell? ⟨p, 0, none⟩ = some x0) (h1 : W.cell? ⟨p, 1, none⟩ = some x1) (k0 : W.cell? ⟨q, 0, none⟩ = some y0) (k1 : W.cell? ⟨q, 1, none⟩ = some y1) (tmps : Array Value) (h4 : tmps.getD 4 undef = .pointer (some ⟨p, 0, none⟩)) (h5 : tmps.getD 5 undef = .pointer (some ⟨q, 0, none⟩)) :
    (results Tryz.f34 tmps).run Tryz.prog W = .ok (.tuple #[.agg #[x0, x1], .agg #[y0, y1]]) W := by
  simp only [Array.getD_eq_getD_getElem?] at h4 h5
  simp [results, Tryz.results34, go_sem, h0, h1, k0, k1, h4, h5]
set_option maxRecDepth 100000 in
set_option maxHeartbeats 4000000 in
theorem quorem_any {w : World} {a a' : Option Addr} {n c n' c' X Y : Nat} (s t : Bool) (hG : NG ≤ w.heap.size) (h : Bf w a n c (dlow X)) (h' : Bf w a' n' c' (dlow Y)) (hY : 0 < Y) (hn : n ≤ 15000) (hn' : n' ≤ 15000) :
    Calls Tryz.prog 34 #[.agg #[.bool s, .slice a n c], .agg #[.bool t, .slice a' n' c']] w fun e1 w' => ∃ qa qm qc ra rm rc, e1 = .returned (.tuple #[.agg #[.bool (sg1 (s != t) (X / Y)), .slice qa qm qc], .agg #[.bool (sg1 s (X % Y)), .slice ra rm rc]]) ∧
      Aside (qm ≤ n ∧ rm ≤ n' ∧ Bf w' qa qm qc (dlow (X / Y)) ∧ Bf w' ra rm rc (dlow (X % Y)) ∧ Fr (fun _ _ => False) w w') := by
  have hlx := h.len
  have hly := h'.len
  have hXn : X < 10 ^ n := by have := dlow_lt X; rwa [hlx] at this
  have hYn : Y < 10 ^ n' := by have := dlow_lt Y; rwa [hly] at this
  obtain ⟨w1, hw1⟩ : ∃ x, w.alloc (.cells #[.bool s, .slice a n c] 45) = x := ⟨_, rfl⟩
  obtain ⟨w2, hw2⟩ : ∃ x, w1.alloc (.cells #[.bool t, .slice a' n' c'] 45) = x := ⟨_, rfl⟩
  obtain ⟨w3, hw3⟩ : ∃ x, w2.alloc (.cells #[.bool false, .slice none 0 0] 45) = x := ⟨_, rfl⟩
  obtain ⟨w4, hw4⟩ : ∃ x, w3.alloc (.cells #[.bool false, .slice none 0 0] 45) = x := ⟨_, rfl⟩
  have hs1 : w1.heap.size = w.heap.size + 1 := by rw [← hw1]; simp
  have hs2 : w2.heap.size = w.heap.size + 1 + 1 := by rw [← hw2, ← hs1]; simp
  have hs3 : w3.heap.size = w.heap.size + 1 + 1 + 1 := by rw [← hw3, ← hs2]; simp
  have hs4 : w4.heap.size = w.heap.size + 1 + 1 + 1 + 1 := by rw [← hw4, ← hs3]; simp
  have f1 : Fr (fun _ _ => False) w w1 := by rw [← hw1]; exact (Fr.refl _ w).alloc _
  have f2 : Fr (fun _ _ => False) w1 w2 := by rw [← hw2]; exact (Fr.refl _ w1).alloc _
  have f3 : Fr (fun _ _ => False) w2 w3 := by rw [← hw3]; exact (Fr.refl _ w2).alloc _
  have f4 : Fr (fun _ _ => False) w3 w4 := by rw [← hw4]; exact (Fr.refl _ w3).alloc _
  have F := f1.trans (f2.trans (f3.trans f4))
  have x0 : w4.cell? ⟨w.heap.size, 0, none⟩ = some (.bool s) := ((f2.trans (f3.trans f4)).cell _ 0 (by omega) (fun q => q)).trans (by rw [← hw1, World.cell?_alloc_new]; rfl)
  have x1 : w4.cell? ⟨w.heap.size, 1, none⟩ = some (.slice a n c) := ((f2.trans (f3.trans f4)).cell _ 1 (by omega) (fun q => q)).trans (by rw [← hw1, World.cell?_alloc_new]; rfl)
  have y0 : w4.cell? ⟨w.heap.size + 1, 0, none⟩ = some (.bool t) := ((f3.trans f4).cell _ 0 (by omega) (fun q => q)).trans (by rw [← hw2, ← hs1, World.cell?_alloc_new]; rfl)
  have y1 : w4.cell? ⟨w.heap.size + 1, 1, none⟩ = some (.slice a' n' c') := ((f3.trans f4).cell _ 1 (by omega) (fun q => q)).trans (by rw [← hw2, ← hs1, World.cell?_alloc_new]; rfl)
  obtain ⟨q0, q1, q2, q3, _⟩ := res2' hw3.symm f4 (fun o q => q)
  obtain ⟨r0, r1, r2, r3, _⟩ := res2' hw4.symm (Fr.refl (fun _ _ => False) w4) (fun o q => q)
  rw [hs2] at q0 q1 q2 q3
  rw [hs3] at r0 r1 r2 r3
  have HX : Aside (Bf w4 a n c (dlow X) ∧ Bf w4 a' n' c' (dlow Y) ∧ Fr (fun _ _ => False) w w4 ∧ NG ≤ w4.heap.size) := ⟨h.fr F (fun _ _ _ q => q), h'.fr F (fun _ _ _ q => q), F, Nat.le_trans hG F.size⟩
  -- the boxes, in whatever world comes behind
  have CELLS : Aside (∀ wx, Fr (fun _ _ => False) w4 wx → wx.cell? ⟨w.heap.size, 0, none⟩ = some (.bool s) ∧ wx.cell? ⟨w.heap.size, 1, none⟩ = some (.slice a n c) ∧ wx.cell? ⟨w.heap.size + 1, 0, none⟩ = some (.bool t) ∧ wx.cell? ⟨w.heap.size + 1, 1, none⟩ = some (.slice a' n' c') ∧
      (wx.cell? ⟨w.heap.size + 1 + 1, 0, none⟩ = some (.bool false) ∧ wx.cell? ⟨w.heap.size + 1 + 1, 1, none⟩ = some (.slice none 0 0) ∧ wx.frozen? ⟨w.heap.size + 1 + 1, 0, none⟩ = false ∧ wx.frozen? ⟨w.heap.size + 1 + 1, 1, none⟩ = false) ∧
      (wx.cell? ⟨w.heap.size + 1 + 1 + 1, 0, none⟩ = some (.bool false) ∧ wx.cell? ⟨w.heap.size + 1 + 1 + 1, 1, none⟩ = some (.slice none 0 0) ∧ wx.frozen? ⟨w.heap.size + 1 + 1 + 1, 0, none⟩ = false ∧ wx.frozen? ⟨w.heap.size + 1 + 1 + 1, 1, none⟩ = false)) := ⟨fun wx fx => by
    have c (b o : Nat) (hb : b < w4.heap.size) := fx.cell b o hb (fun q => q)
    obtain ⟨a0, a1, a2, a3, _⟩ := res2' hw3.symm (f4.trans fx) (fun o q => q)
    obtain ⟨b0, b1, b2, b3, _⟩ := res2' hw4.symm fx (fun o q => q)
    rw [hs2] at a0 a1 a2 a3
    rw [hs3] at b0 b1 b2 b3
    exact ⟨(c _ _ (by omega)).trans x0, (c _ _ (by omega)).trans x1, (c _ _ (by omega)).trans y0, (c _ _ (by omega)).trans y1, ⟨a0, a1, a2, a3⟩, ⟨b0, b1, b2, b3⟩⟩⟩
  have HS := Aside.mk hs4
  have HD := Aside.mk (And.intro hXn (And.intro hYn hY))
  have hnn : (n : Int) ≤ 15000 := by omega
  have fm := run_makeB n n (Nat.le_refl _) (by omega)
  have HST := QR.start n HX.out.2.2.2
  obtain ⟨w5, hw5⟩ : ∃ x, w4.alloc (.cells (madeCells #[.int .u8 0] n) 5) = x := ⟨_, rfl⟩
  obtain ⟨ob, hob⟩ : ∃ x, w.heap.size + 1 + 1 + 1 + 1 = x := ⟨_, rfl⟩
  rw [hw5, hs4, hob] at HST
  have HQ := Aside.mk HST
  have HLX := Aside.mk (And.intro hlx hly)
  clear h h' hG HST F f1 f2 f3 f4 hXn hYn hY q0 q1 q2 q3 r0 r1 r2 r3 hlx hly
  go_enter Tryz.func34, Tryz.ntmps34
  go_upto_region 2 with fail
  try rw [hob]
  obtain ⟨x0, x1, _, _, _⟩ := CELLS.out w5 HQ.out.fr
  clear hw1 hw2 hw3 hw4 hw5 hob hs1 hs2 hs3 hs4 y0 y1 fm
  go_wp2_with fail
  clear x0 x1
  go_loopw [7, 8] (fun rv iv wr => ∃ (k m2 c2 : Nat) (a2 : Option Addr) (ql : List UInt8) (R : Nat), k ≤ n ∧ iv = .int .i64 ((k : Int) - 1) ∧ rv = .slice a2 m2 c2 ∧ Aside (Qd X Y n k ql R) ∧ Aside (QR w4 wr ob n ql a2 m2 c2 R)) (fun _ iv _ => (intOf iv + 1).toNat)
  case atStart => exact ⟨n, 0, 0, none, _, 0, Nat.le_refl _, rfl, rfl, ⟨Qd.start HD.out.1⟩, HQ⟩
  case round =>
    obtain ⟨k, m2, c2, a2, ql, R, hk, rfl, rfl, hQ, hM⟩ := hrel
    obtain ⟨x0, x1, y0, y1, qq, rr⟩ := CELLS.out wr hM.out.fr
    cases k with
    | zero =>
      obtain ⟨hv, hr⟩ := hQ.out.done
      subst hr
      have SR : Hid (∀ wx, Fr (fun _ _ => False) wr wx → Calls Tryz.prog 44 #[.bool s, .slice a2 m2 c2] wx fun e1 w6 => ∃ rm, e1 = .returned (.agg #[.bool (sg1 s (X % Y)), .slice a2 rm c2]) ∧
          (w6.cell? ⟨w.heap.size + 1 + 1, 0, none⟩ = some (.bool false) ∧ w6.cell? ⟨w.heap.size + 1 + 1, 1, none⟩ = some (.slice none 0 0) ∧ w6.frozen? ⟨w.heap.size + 1 + 1, 0, none⟩ = false ∧ w6.frozen? ⟨w.heap.size + 1 + 1, 1, none⟩ = false) ∧
          (w6.cell? ⟨w.heap.size + 1 + 1 + 1, 0, none⟩ = some (.bool false) ∧ w6.cell? ⟨w.heap.size + 1 + 1 + 1, 1, none⟩ = some (.slice none 0 0) ∧ w6.frozen? ⟨w.heap.size + 1 + 1 + 1, 0, none⟩ = false ∧ w6.frozen? ⟨w.heap.size + 1 + 1 + 1, 1, none⟩ = false) ∧ Aside (rm ≤ n' ∧ Bf w6 a2 rm c2 (dlow (X % Y)) ∧ Fr (fun _ _ => False) wx w6)) := Lib.hid (fun wx fx => by
        have hl : m2 ≤ n' := by
          have e := hM.out.r.len
          rw [← e]
          exact dlow_le (Nat.lt_trans (Nat.mod_lt _ HD.out.2.2) HD.out.2.1)
        refine (signed_any s (hM.out.r.fr fx (fun _ _ _ q => q)) (dlow_d10 _) (by omega)).mono ?_
        rintro e1 w6 ⟨rm, rfl, k1, k2, k3⟩
        rw [val_dlow] at k2 ⊢
        obtain ⟨z0, z1, z2, z3, z4, z5⟩ := CELLS.out w6 ((hM.out.fr.trans fx).trans k3)
        exact ⟨rm, rfl, z4, z5, ⟨by omega, k2, k3⟩⟩)
      have SQ : Hid (∀ wx, Fr (fun _ _ => False) wr wx → Calls Tryz.prog 44 #[.bool (s != t), .slice (some ⟨ob, 0, none⟩) n n] wx fun e1 w6 => ∃ qm, e1 = .returned (.agg #[.bool (sg1 (s != t) (X / Y)), .slice (some ⟨ob, 0, none⟩) qm n]) ∧ (w6.cell? ⟨w.heap.size, 0, none⟩ = some (.bool s) ∧ w6.cell? ⟨w.heap.size + 1, 0, none⟩ = some (.bool t)) ∧
          Hid (∀ wy, Fr (fun _ _ => False) w6 wy → Calls Tryz.prog 44 #[.bool s, .slice a2 m2 c2] wy fun e1 w7 => ∃ rm, e1 = .returned (.agg #[.bool (sg1 s (X % Y)), .slice a2 rm c2]) ∧
          (w7.cell? ⟨w.heap.size + 1 + 1, 0, none⟩ = some (.bool false) ∧ w7.cell? ⟨w.heap.size + 1 + 1, 1, none⟩ = some (.slice none 0 0) ∧ w7.frozen? ⟨w.heap.size + 1 + 1, 0, none⟩ = false ∧ w7.frozen? ⟨w.heap.size + 1 + 1, 1, none⟩ = false) ∧
          (w7.cell? ⟨w.heap.size + 1 + 1 + 1, 0, none⟩ = some (.bool false) ∧ w7.cell? ⟨w.heap.size + 1 + 1 + 1, 1, none⟩ = some (.slice none 0 0) ∧ w7.frozen? ⟨w.heap.size + 1 + 1 + 1, 0, none⟩ = false ∧ w7.frozen? ⟨w.heap.size + 1 + 1 + 1, 1, none⟩ = false) ∧
          Aside (qm ≤ n ∧ rm ≤ n' ∧ Bf w7 (some ⟨ob, 0, none⟩) qm n (dlow (X / Y)) ∧ Bf w7 a2 rm c2 (dlow (X % Y)) ∧ Fr (fun _ _ => False) w w7))) := Lib.hid (fun wx fx => by
        refine (signed_any (s != t) (hM.out.q.fr fx (fun _ _ _ q => q)) hQ.out.d10 (by omega)).mono ?_
        rintro e1 w6 ⟨qm, rfl, k1, k2, k3⟩
        rw [hv] at k2 ⊢
        obtain ⟨z0, z1, z2, z3, z4, z5⟩ := CELLS.out w6 ((hM.out.fr.trans fx).trans k3)
        refine ⟨qm, rfl, ⟨z0, z2⟩, Lib.hid (fun wy fy => ?_)⟩
        refine (SR.out wy ((fx.trans k3).trans fy)).mono ?_
        rintro e1 w7 ⟨rm, rfl, v1, v2, v3⟩
        exact ⟨rm, rfl, v1, v2, ⟨k1, v3.out.1, k2.fr (fy.trans v3.out.2.2) (fun _ _ _ q => q), v3.out.2.1, (HX.out.2.2.1.trans hM.out.fr).trans (((fx.trans k3).trans fy).trans v3.out.2.2)⟩⟩)
      clear SR x1 y1 qq rr hv hQ hM HQ HLX HD HX CELLS HS hk hnn hn hn'
      go_wp2_with fail
      go_region_with (go_at_call 44; first
        | (refine (H2.out _ (by repeat first | exact Fr.refl _ _ | refine Fr.drewN ?_ _ | refine Fr.drew ?_)).mono ?_; rintro e1 w7 ⟨rm, rfl, ⟨v2, v3, v4, v5⟩, ⟨v6, v7, v8, v9⟩, gr⟩)
        | (refine (SQ.out _ (by repeat first | exact Fr.refl _ _ | refine Fr.drewN ?_ _ | refine Fr.drew ?_)).mono ?_; rintro e1 w6 ⟨qm, rfl, ⟨g0, g1⟩, H2⟩))
      all_goals
        clear SQ H2
        go_wp2_with fail
        obtain ⟨t0, t1, t2, t3, t4⟩ := two_nums (p := w.heap.size + 1 + 1) (q := w.heap.size + 1 + 1 + 1) (by omega) v2 v3 v6 v7 (.bool (sg1 (s != t) (X / Y))) (.slice (some ⟨ob, 0, none⟩) qm n) (.bool (sg1 s (X % Y))) (.slice a2 rm c2)
        with_reducible refine bodyPost_ret (quorem_results t0 t1 t2 t3 _ ?_ ?_) ?_ ⟨_, _, _, _, _, _, rfl, ⟨gr.out.1, gr.out.2.1, t4 gr.out.2.2.1, t4 gr.out.2.2.2.1, ?_⟩⟩
        · rfl
        · rfl
        · rfl
        · exact (((gr.out.2.2.2.2.setCell (w.heap.size + 1 + 1) 0 _ (fun q => by omega)).setCell (w.heap.size + 1 + 1) 1 _ (fun q => by omega)).setCell (w.heap.size + 1 + 1 + 1) 0 _ (fun q => by omega)).setCell (w.heap.size + 1 + 1 + 1) 1 _ (fun q => by omega)
    | succ k =>
      rw [show ((k + 1 : Nat) : Int) - 1 = (k : Int) from by omega]
      clear qq rr y0 x0
      have hRY : R < Y := by rw [hQ.out.rem]; exact Nat.mod_lt _ HD.out.2.2
      have hm2 : m2 ≤ n' := by
        have e := hM.out.r.len
        rw [← e]
        exact dlow_le (Nat.lt_trans hRY HD.out.2.1)
      have hkl : k < (dlow X).length := by rw [HLX.out.1]; exact hk
      obtain ⟨ab, ao, ha, hca, _⟩ := (HX.out.1.fr hM.out.fr (fun _ _ _ q => q)).pos (by omega)
      have cx := hca k hkl
      rw [dlow_get] at cx
      have hdg := dg_lt X k
      obtain ⟨d, hd⟩ : ∃ d, dg X k = d := ⟨_, rfl⟩
      rw [hd] at cx hdg
      rw [ha] at x1
      have hd256 : d < 256 := by omega
      have hQ2 := Aside.mk (hQ.out.open hk)
      have HB1 := Aside.mk (Bf.one (w := wr) (Nat.le_trans HX.out.2.2.2 hM.out.fr.size) hd256 5)
      have FA := Aside.mk ((Fr.refl (fun _ _ => False) wr).alloc (.cells #[.int .u8 ((d : Nat) : Int)] 5))
      have HSR := Aside.mk (Src.bf (hM.out.r.fr FA.out (fun _ _ _ q => q)))
      have hlr := hM.out.r.len
      have hlen : 1 + m2 < 100000000 := by omega
      have hda := dlow_app R d (by omega)
      have hkk := Aside.mk hk
      rw [hd] at hQ2
      clear hQ hca hkl ha hd
      go_upto_region 7 with (first
        | (at_builtin; go_must (refine wpList_appendB _ rfl (.tmp 26) (.tmp 27) 38 rfl (Nat.le_trans (Nat.le_trans HX.out.2.2.2 hM.out.fr.size) FA.out.size) HB1.out rfl rfl HSR.out hlr hlen ?_; intro a3 c3 w3 k1 k2 k3; have B1 := Aside.mk (And.intro k1 (And.intro k2 k3)); have H1 := Lib.hid (trim_any k1 ((D10.one (by rw [UInt8.toNat_ofNat']; omega)).app (dlow_d10 R)) (by omega)); clear k1 k2 k3))
        | (go_at_call 71; go_must (refine H1.out.mono ?_; rintro e1 w5 ⟨m3, rfl, rfl, hm3, kB⟩; rw [show [UInt8.ofNat d] ++ dlow R = UInt8.ofNat d :: dlow R from rfl, hda] at kB; have KB := Aside.mk kB; clear kB H1)))
      have hOut := B1.out.2.2.newOf
      have hM2 : Aside (QR w4 w5 ob n ql a3 m3 c3 (10 * R + d)) := ⟨hM.out.take (FA.out.trans' B1.out.2.1 (fun _ _ _ q => q) (fun x y hx q => by rw [foot_some] at q; omega)) KB.out hOut⟩
      clear B1 hM HB1 FA HSR hOut KB hm2 hlr hlen hda hRY hm3 cx x1 hd256 hdg
      go_loopw [7] (fun rv wx => ∃ (m3 c3 : Nat) (a3 : Option Addr) (ql : List UInt8) (R t : Nat), rv = .slice a3 m3 c3 ∧ Aside (Qi X Y n k ql R t) ∧ Aside (QR w4 wx ob n ql a3 m3 c3 R)) (fun _ wx => 10 - byteAt wx ob k)
      case atStart => exact ⟨m3, c3, a3, ql, _, 0, rfl, hQ2, hM2⟩
      case round =>
        clear hQ2 hM2
        obtain ⟨m4, c4, a4, ql2, R2, t2, rfl, hI, hN⟩ := hrel
        obtain ⟨_, _, _, y1, _⟩ := CELLS.out _ hN.out.fr
        have hm4 : m4 ≤ n' + 1 := by
          have e := hN.out.r.len
          rw [← e]
          exact hI.out.small HD.out.2.2 HD.out.2.1
        have H := Lib.hid (compare_any hN.out.r (HX.out.2.1.fr hN.out.fr (fun _ _ _ q => q)) (by omega) (by omega))
        by_cases hYR : Y ≤ R2
        · obtain ⟨hkc, hcur⟩ := hI.out.cur
          have ht9 := hI.out.bound HD.out.2.2 hYR
          have hge : decide ((0 : Int) ≤ sg R2 Y) = true := by rw [sg_geq']; simpa using hYR
          have hw8 : IntKind.u8.wrap ((t2 : Int) + 1) = (((UInt8.ofNat (t2 + 1)).toNat : Nat) : Int) := by rw [IntKind.wrap_u8, UInt8.toNat_ofNat']; omega
          obtain ⟨x8, hx8⟩ : ∃ x, UInt8.ofNat (t2 + 1) = x := ⟨_, rfl⟩
          rw [hx8] at hw8
          have H2 : Hid (∀ dd, Calls Tryz.prog 72 #[.slice a4 m4 c4, .slice a' n' c'] (wr.drewN dd) fun e1 w6 => ∃ a5 m5 c5, e1 = .returned (.slice a5 m5 c5) ∧ (w6.cell? ⟨ob, k, none⟩ = some (.int .u8 (t2 : Nat)) ∧ w6.frozen? ⟨ob, k, none⟩ = false) ∧ Aside (QR w4 w6 ob n ql2 a5 m5 c5 (R2 - Y))) := Lib.hid (fun dd => by
            have fd : Fr (fun _ _ => False) wr (wr.drewN dd) := (Fr.refl _ wr).drewN dd
            have hND := hN.out.new fd
            refine (less_out (Nat.le_trans HX.out.2.2.2 hND.fr.size) hND.r (HX.out.2.1.fr hND.fr (fun _ _ _ q => q)) (dlow_d10 _) (dlow_d10 _) (by omega) (by omega) (by rw [val_dlow, val_dlow]; exact hYR)).mono ?_
            rintro e1 w6 ⟨a5, m5, c5, rfl, _, k1, k2, k3⟩
            rw [val_dlow, val_dlow] at k1
            have QN := hND.take k2 k1 k3
            refine ⟨a5, m5, c5, rfl, ⟨?_, QN.q.base.1.kind.free _⟩, ⟨QN⟩⟩
            have := QN.q.cellAt hkc
            rwa [hcur] at this)
          have hstp := hI.out.step HD.out.2.2 hYR
          rw [hx8] at hstp
          have HST := Aside.mk hstp
          have HCU := Aside.mk (And.intro hkc hcur)
          clear hYR hx8 hstp
          go_wp2_with fail
          refine H.out.mono ?_
          rintro e1 w6 ⟨rfl, dd, rfl⟩
          clear H
          go_wp2_with fail
          refine (H2.out dd).mono ?_
          rintro e1 w7 ⟨a5, m5, c5, rfl, ⟨z1, z2⟩, hN2⟩
          clear H2 y1
          go_wp2_with fail
          go_roundw
          case rel => exact ⟨m5, c5, a5, _, R2 - Y, t2 + 1, rfl, HST, ⟨hN2.out.set HCU.out.1 x8⟩⟩
          case measure =>
            have e1 := hN.out.byte HCU.out.1
            have e2 := (hN2.out.set HCU.out.1 x8).byte (by rw [List.length_set]; exact HCU.out.1)
            obtain ⟨hk2, hc2⟩ := HST.out.cur
            rw [hc2] at e2
            rw [HCU.out.2] at e1
            rw [e1, e2]
            omega
        · have hge : decide ((0 : Int) ≤ sg R2 Y) = false := by rw [sg_geq']; simpa using hYR
          have HCL := Aside.mk (hI.out.close (by omega))
          clear hYR
          go_wp2_with fail
          refine H.out.mono ?_
          rintro e1 w6 ⟨rfl, dd, rfl⟩
          clear H y1
          go_wp2_with fail
          go_roundw
          case rel => exact ⟨k, m4, c4, a4, ql2, R2, Nat.le_of_lt hkk.out, by go_num, rfl, HCL, ⟨hN.out.new ((Fr.refl _ wr).drewN dd)⟩⟩
          case measure => simp [intOf]
end Go.Proofs.YtgilnnipephfjaaGreatDoor
