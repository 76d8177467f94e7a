/- impl.Parse by NewFromString, at a mark, digits, a point, digits. impl.Text by Text, whatever Text answers. laws.textAlive is true. Decimals as data, cell by cell. Comparing structs of plain fields. -/
import Derived.Test.YtgilnnipephfjaaGreatDoorM32Impl1
set_option linter.unusedSimpArgs false
set_option linter.unusedVariables false
namespace Go.Proofs.YtgilnnipephfjaaGreatDoor
open Go.RowKit

/-- A cell, and that it may be written. -/
structure Cl (w : World) (b o : Nat) (v : Value) : Prop where
  cell : w.cell? ⟨b, o, none⟩ = some v
  free : w.frozen? ⟨b, o, none⟩ = false
theorem Cl.fr {S : Nat → Nat → Prop} {w w' : World} {b o : Nat} {v : Value} (h : Cl w b o v) (f : Fr S w w') (hs : ¬ S b o) : Cl w' b o v :=
  ⟨(f.cell b o (World.block_lt_of_cell? w _ h.cell) hs).trans h.cell, (f.frozen b o (World.block_lt_of_cell? w _ h.cell)).trans h.free⟩
theorem Cl.set {w : World} {b o : Nat} {v : Value} (h : Cl w b o v) (u : Value) : Cl (w.setCell ⟨b, o, none⟩ u) b o u := ⟨World.cell?_setCell_same _ _ _ h.cell, by rw [World.frozen?_setCell]; exact h.free⟩
theorem Cl.other {w : World} {b o : Nat} {v : Value} (h : Cl w b o v) (b' o' : Nat) (u : Value) (hne : b' ≠ b ∨ o' ≠ o) : Cl (w.setCell ⟨b', o', none⟩ u) b o v :=
  ⟨(World.cell?_setCell_other _ _ _ _ (by simp only [ne_eq, Addr.mk.injEq, and_true]; omega)).trans h.cell, by rw [World.frozen?_setCell]; exact h.free⟩
theorem Cl.lt {w : World} {b o : Nat} {v : Value} (h : Cl w b o v) : b < w.heap.size := World.block_lt_of_cell? w _ h.cell
/-- Four cells of a decimal as data. -/
structure D4 (w : World) (b : Nat) (f : Int) (n : Bool) (e : Int) (s : ByteArray) : Prop where
  c0 : Cl w b 0 (.int .i64 f)
  c1 : Cl w b 1 (.bool n)
  c2 : Cl w b 2 (.int .i32 e)
  c3 : Cl w b 3 (.string s)
theorem D4.fr {S : Nat → Nat → Prop} {w w' : World} {b : Nat} {f e : Int} {n : Bool} {s : ByteArray} (h : D4 w b f n e s) (k : Fr S w w') (hs : ∀ o, ¬ S b o) : D4 w' b f n e s := ⟨h.c0.fr k (hs _), h.c1.fr k (hs _), h.c2.fr k (hs _), h.c3.fr k (hs _)⟩

theorem D4.put {w : World} {b : Nat} {f e f' e' : Int} {n n' : Bool} {s s' : ByteArray} (h : D4 w b f n e s) :
    D4 ((((w.setCell ⟨b, 0, none⟩ (.int .i64 f')).setCell ⟨b, 1, none⟩ (.bool n')).setCell ⟨b, 2, none⟩ (.int .i32 e')).setCell ⟨b, 3, none⟩ (.string s')) b f' n' e' s' :=
  ⟨(((h.c0.set _).other b 1 _ (by omega)).other b 2 _ (by omega)).other b 3 _ (by omega), (((h.c1.other b 0 _ (by omega)).set _).other b 2 _ (by omega)).other b 3 _ (by omega),
   (((h.c2.other b 0 _ (by omega)).other b 1 _ (by omega)).set _).other b 3 _ (by omega), (((h.c3.other b 0 _ (by omega)).other b 1 _ (by omega)).other b 2 _ (by omega)).set _⟩
set_option maxRecDepth 100000 in
set_option maxHeartbeats 1000000 in
theorem parse1_neg {w : World} {pb ps pd po : Nat} {A B : List UInt8} {s : ByteArray} {f e : Int} {n o : Bool} {s0 : ByteArray} (g : Gv w) (hb : Cl w pb 0 (.int .i64 0)) (hc : Cl w ps 0 (.string s)) (hd : D4 w pd f n e s0) (ho : Cl w po 0 (.bool o)) (hpo : po ≠ pd)
    (hs : s = mk (45 :: (A ++ 46 :: B))) (hA : Digs A) (hB : Digs B) (h0 : 0 < (A ++ B).length) (hlen : (A ++ B).length ≤ 300) (hX : bl (numOf (A ++ B)) ≤ 1100) (h8 : Sm (numOf (A ++ B))) :
    Calls Tryz.prog 47 #[.pointer (some ⟨pb, 0, none⟩), .pointer (some ⟨ps, 0, none⟩), .pointer (some ⟨pd, 0, none⟩), .pointer (some ⟨po, 0, none⟩)] w fun e1 w' =>
      e1 = .returned (.tuple #[]) ∧ D4 w' pd 0 true (-(B.length : Int)) (mk (natText (numOf (A ++ B)))) ∧ Cl w' po 0 (.bool true) ∧ Fr (fun x _ => x = pd ∨ x = po) w w' := by
  have hbc := hb.cell
  have hsc := hc.cell
  have hN := Lib.hid (newFromString_neg g hs hA hB h0 hlen hX)
  have HD := Aside.mk hd
  have HO := Aside.mk ho
  have HG := Aside.mk g
  have HNE := Aside.mk hpo
  obtain ⟨bb, hbb⟩ : ∃ x, B.length = x := ⟨_, rfl⟩
  rw [hbb] at hN ⊢
  obtain ⟨N, hNN⟩ : ∃ x, numOf (A ++ B) = x := ⟨_, rfl⟩
  rw [hNN] at hN h8 ⊢
  clear hs hA hB h0 hlen hX hb hc hd ho g hbb hNN hpo
  go_enter Tryz.func47, Tryz.ntmps47
  go_wp2_with fail
  refine hN.out.mono ?_
  rintro e1 w1 ⟨a1, c1, rfl, s1, s2⟩
  have hP := Lib.hid (plain_any 0 (by omega) (HG.out.new s2) s1 h8)
  have F1 := Aside.mk s2
  clear s1 s2 hN
  go_wp2_with fail
  refine hP.out.mono ?_
  rintro e1 w2 ⟨rfl, k⟩
  have F2 := F1.out.trans k
  have D2 := HD.out.fr F2 (fun _ q => q)
  have O2 := HO.out.fr F2 (fun q => q)
  have d0 := D2.c0.cell
  have d1 := D2.c1.cell
  have d2 := D2.c2.cell
  have d3 := D2.c3.cell
  have d4 := D2.c0.free
  have d5 := D2.c1.free
  have d6 := D2.c2.free
  have d7 := D2.c3.free
  have o0 := O2.cell
  have o1 := O2.free
  have ne := HNE.out
  have ne' : ¬ pd = po := fun q => ne q.symm
  have HD2 := Aside.mk D2
  have HO2 := Aside.mk O2
  have HF2 := Aside.mk F2
  clear D2 O2 F2 k hP
  go_wp2_with fail
  go_end0
  have P := HD2.out.put (f' := 0) (n' := true) (e' := -(bb : Int)) (s' := mk (natText N))
  refine ⟨rfl, ⟨P.c0.other po 0 _ (by omega), P.c1.other po 0 _ (by omega), P.c2.other po 0 _ (by omega), P.c3.other po 0 _ (by omega)⟩, ?_, ?_⟩
  · exact ((((HO2.out.other pd 0 _ (by omega)).other pd 1 _ (by omega)).other pd 2 _ (by omega)).other pd 3 _ (by omega)).set _
  · have hfr := HF2.out.mono (T := fun x _ => x = pd ∨ x = po) (fun _ _ _ k => k.elim)
    repeat' (first | exact hfr | refine Fr.setCell ?_ _ _ _ (fun q => by omega))
theorem Cl.new {w : World} (hG : NG ≤ w.heap.size) (v : Value) (t : TypeId) : Cl (w.alloc (.cells #[v] t)) w.heap.size 0 v := ⟨by rw [World.cell?_alloc_new]; rfl, free_of_kind (kind_alloc_new _ _ _ _) 0⟩
theorem D4.new {w : World} (f e : Int) (n : Bool) (s : ByteArray) (t : TypeId) : D4 (w.alloc (.cells #[.int .i64 f, .bool n, .int .i32 e, .string s] t)) w.heap.size f n e s :=
  ⟨⟨by rw [World.cell?_alloc_new]; rfl, free_of_kind (kind_alloc_new _ _ _ _) 0⟩, ⟨by rw [World.cell?_alloc_new]; rfl, free_of_kind (kind_alloc_new _ _ _ _) 1⟩, ⟨by rw [World.cell?_alloc_new]; rfl, free_of_kind (kind_alloc_new _ _ _ _) 2⟩, ⟨by rw [World.cell?_alloc_new]; rfl, free_of_kind (kind_alloc_new _ _ _ _) 3⟩⟩
theorem enter_parse1 (caps : Array Value) (w : World) : (callFunc 47 caps).run Tryz.prog w = .ok (.enter 47 caps) w := by kernel_rfl
set_option maxRecDepth 100000 in
set_option maxHeartbeats 1000000 in
theorem parse_neg {w : World} {A B : List UInt8} {s : ByteArray} (g : Gv w)
    (hs : s = mk (45 :: (A ++ 46 :: B))) (hA : Digs A) (hB : Digs B) (h0 : 0 < (A ++ B).length) (hlen : (A ++ B).length ≤ 300) (hX : bl (numOf (A ++ B)) ≤ 1100) (h8 : Sm (numOf (A ++ B))) :
    Calls Tryz.prog 21 #[.string s, .int .i64 0] w fun e1 w' => e1 = .returned (.tuple #[.agg #[.int .i64 0, .bool true, .int .i32 (-(B.length : Int)), .string (mk (natText (numOf (A ++ B))))], .bool true]) ∧ Fr (fun _ _ => False) w w' := by
  have hG := g.g.size
  have hm := hmf
  obtain ⟨sz, hsz⟩ : ∃ x, w.heap.size = x := ⟨_, rfl⟩
  obtain ⟨w1, hw1⟩ : ∃ x, (((w.alloc (.cells #[.string s] 9)).alloc (.cells #[.int .i64 0] 3)).alloc (.cells #[.int .i64 0, .bool false, .int .i32 0, .string ⟨#[]⟩] 24)).alloc (.cells #[.bool false] 4) = x := ⟨_, rfl⟩
  have F1 : Fr (fun _ _ => False) w w1 := by rw [← hw1]; exact (((((Fr.refl _ w).alloc _).alloc _).alloc _).alloc _)
  have hs1 : w1.heap.size = sz + 4 := by rw [← hw1, ← hsz]; simp
  have cs : Cl w1 sz 0 (.string s) := by
    rw [← hw1, ← hsz]; exact (Cl.new hG (.string s) 9).fr ((((Fr.refl (fun _ _ => False) _).alloc _).alloc _).alloc _) (fun q => q)
  have cb : Cl w1 (sz + 1) 0 (.int .i64 0) := by
    have := (Cl.new (w := w.alloc (.cells #[.string s] 9)) (by simp; omega) (.int .i64 0) 3).fr (((Fr.refl (fun _ _ => False) _).alloc (.cells #[.int .i64 0, .bool false, .int .i32 0, .string ⟨#[]⟩] 24)).alloc (.cells #[.bool false] 4)) (fun q => q)
    rw [hw1, World.size_alloc, hsz] at this; exact this
  have cd : D4 w1 (sz + 2) 0 false 0 ⟨#[]⟩ := by
    have := (D4.new (w := (w.alloc (.cells #[.string s] 9)).alloc (.cells #[.int .i64 0] 3)) 0 0 false ⟨#[]⟩ 24).fr ((Fr.refl (fun _ _ => False) _).alloc (.cells #[.bool false] 4)) (fun _ q => q)
    rw [hw1, World.size_alloc, World.size_alloc, hsz] at this; exact this
  have co : Cl w1 (sz + 3) 0 (.bool false) := by
    have := (Cl.new (w := ((w.alloc (.cells #[.string s] 9)).alloc (.cells #[.int .i64 0] 3)).alloc (.cells #[.int .i64 0, .bool false, .int .i32 0, .string ⟨#[]⟩] 24)) (by simp; omega) (.bool false) 4)
    rw [hw1, World.size_alloc, World.size_alloc, World.size_alloc, hsz] at this; exact this
  obtain ⟨bb, hbb⟩ : ∃ x, B.length = x := ⟨_, rfl⟩
  obtain ⟨N, hNN⟩ : ∃ x, numOf (A ++ B) = x := ⟨_, rfl⟩
  have a1 := (Fr.refl (fun _ _ => False) w1).alloc (.cells #[.bool false] 4)
  have hS : Hid (Calls Tryz.prog 23 #[.func (.func 47) #[] #[.pointer (some ⟨sz + 1, 0, none⟩), .pointer (some ⟨sz, 0, none⟩), .pointer (some ⟨sz + 2, 0, none⟩), .pointer (some ⟨sz + 3, 0, none⟩)]] w1 fun e w' =>
      e = .returned (.bool true) ∧ Aside (D4 w' (sz + 2) 0 true (-(bb : Int)) (mk (natText N)) ∧ Cl w' (sz + 3) 0 (.bool true) ∧ Fr (fun _ _ => False) w w')) := Lib.hid (by
    have hp := parse1_neg (g.new (F1.trans a1)) (cb.fr a1 (fun q => q)) (cs.fr a1 (fun q => q)) (cd.fr a1 (fun _ q => q)) (co.fr a1 (fun q => q)) (by omega) hs hA hB h0 hlen hX h8
    rw [hbb, hNN] at hp
    refine (safe_any (P := fun w' => D4 w' (sz + 2) 0 true (-(bb : Int)) (mk (natText N)) ∧ Cl w' (sz + 3) 0 (.bool true) ∧ Fr (fun _ _ => False) w w') 47 _ w1 (enter_parse1 _) (hp.mono ?_)).mono ?_
    · rintro e w' ⟨rfl, k1, k2, k3⟩
      have hnew := Cl.new (w := w1) (by rw [hs1]; omega) (.bool false) 4
      have h4 := hnew.fr k3 (by rw [hs1]; omega)
      exact ⟨rfl, h4.cell, h4.free, k1, k2, (F1.trans a1).trans' k3 (fun _ _ _ k => k) (fun x y hx k => by rw [hsz] at hx; omega)⟩
    · rintro e w' ⟨rfl, w2, ⟨k1, k2, k3⟩, rfl⟩
      have f2 := ((Fr.refl (fun x _ => x = w1.heap.size) w2).setCell w1.heap.size 0 (.bool true) (fun _ => rfl)).setCell w1.heap.size 0 (.bool true) (fun _ => rfl)
      exact ⟨rfl, ⟨k1.fr f2 (fun _ => by rw [hs1]; omega), k2.fr f2 (by rw [hs1]; omega), k3.trans' f2 (fun _ _ _ k => k) (fun x y hx k => by rw [hsz] at hx; rw [hs1] at k; omega)⟩⟩)
  rw [hbb, hNN]
  clear hs hA hB h0 hlen hX h8 g F1 a1 cs cb cd co hbb hNN hs1
  go_enter Tryz.func21, Tryz.ntmps21
  go_wp2_with fail
  rw [show sz + 1 + 1 + 1 = sz + 3 from rfl, show sz + 1 + 1 = sz + 2 from rfl]
  have HSZ := Aside.mk hsz
  clear hw1 hsz hG
  refine hS.out.mono ?_
  rintro e w2 ⟨rfl, hA⟩
  have d0 := hA.out.1.c0.cell
  have d1 := hA.out.1.c1.cell
  have d2 := hA.out.1.c2.cell
  have d3 := hA.out.1.c3.cell
  have d4 := hA.out.1.c0.free
  have d5 := hA.out.1.c1.free
  have d6 := hA.out.1.c2.free
  have d7 := hA.out.1.c3.free
  have o0 := hA.out.2.1.cell
  have o1 := hA.out.2.1.free
  clear hS
  go_wp2_with fail
  refine bodyPost_ret (v := .tuple #[.agg #[.int .i64 0, .bool true, .int .i32 (-(bb : Int)), .string (mk (natText N))], .bool true]) (by simp [results, Tryz.results21, go_sem, d0, d1, d2, d3, o0]) rfl ⟨rfl, ?_⟩
  have hfr := hA.out.2.2
  repeat' (first | exact hfr | refine Fr.setCell ?_ _ _ _ (fun q => by rw [HSZ.out] at q; omega))
end Go.Proofs.YtgilnnipephfjaaGreatDoor
namespace Go.Proofs.YtgilnnipephfjaaGreatDoor
open Go.RowKit

/-- What Text answers of a decimal that dec has made. -/
def Says (f : Nat) (n : Bool) (e : Int) (X : Nat) (fm : Nat) (T : ByteArray) : Prop := ∀ (w : World) (p : Nat) (a : Option Addr) (c : Nat), Gv w → DA w p f n e a c X →
  Calls Tryz.prog 53 #[.pointer (some ⟨p, 0, none⟩), .int .u8 fm] w fun e w' => e = .returned (.string T) ∧ Fr (fun _ _ => False) w w'
set_option maxRecDepth 100000 in
set_option maxHeartbeats 1000000 in
theorem text1_any {w : World} {pb pd pf pr : Nat} {s T s0 : ByteArray} {f fm : Nat} {e : Int} {n : Bool} (hf : f ≤ 3) (g : Gv w) (hb : Cl w pb 0 (.int .i64 0)) (hd : D4 w pd f n e s) (hfm : Cl w pf 0 (.int .u8 fm)) (hr : Cl w pr 0 (.string s0))
    (hdg : Digs s.data.toList) (h0 : 0 < s.size) (hs : s.size ≤ 1000) (hT : Says f n e (numOf s.data.toList) fm T) :
    Calls Tryz.prog 51 #[.pointer (some ⟨pb, 0, none⟩), .pointer (some ⟨pd, 0, none⟩), .pointer (some ⟨pf, 0, none⟩), .pointer (some ⟨pr, 0, none⟩)] w fun e1 w' =>
      e1 = .returned (.tuple #[]) ∧ Cl w' pr 0 (.string T) ∧ Fr (fun x _ => x = pr) w w' := by
  have hbc := hb.cell
  have d0 := hd.c0.cell
  have d1 := hd.c1.cell
  have d2 := hd.c2.cell
  have d3 := hd.c3.cell
  have f0 := hfm.cell
  have H : Hid (∀ w1, Fr (fun _ _ => False) w w1 → Calls Tryz.prog 31 #[.agg #[.int .i64 f, .bool n, .int .i32 e, .string s]] w1 fun e1 w2 => ∃ p, e1 = .returned (.pointer (some ⟨p, 0, none⟩)) ∧
      w2.cell? ⟨pf, 0, none⟩ = some (.int .u8 fm) ∧ Hid (Calls Tryz.prog 53 #[.pointer (some ⟨p, 0, none⟩), .int .u8 fm] w2 fun e1 w3 => e1 = .returned (.string T) ∧
        w3.cell? ⟨pr, 0, none⟩ = some (.string s0) ∧ w3.frozen? ⟨pr, 0, none⟩ = false ∧ Aside (Fr (fun _ _ => False) w w3))) := Lib.hid (fun w1 k => by
    refine (dec_any f hf (g.new k) hdg h0 hs).mono ?_
    rintro e1 w2 ⟨p, a, c, rfl, k1, k2, k3⟩
    refine ⟨p, rfl, (hfm.fr (k.trans k2) (fun q => q)).cell, Lib.hid ?_⟩
    refine (hT w2 p a c (g.new (k.trans k2)) k1).mono ?_
    rintro e1 w3 ⟨rfl, k4⟩
    have r3 := hr.fr ((k.trans k2).trans k4) (fun q => q)
    exact ⟨rfl, r3.cell, r3.free, ⟨(k.trans k2).trans k4⟩⟩)
  have HR := Aside.mk hr
  clear hb hd hfm hr g hdg h0 hs hT hf
  go_enter Tryz.func51, Tryz.ntmps51
  go_wp2_with fail
  go_region_with (first | (go_at_call 31; go_must (refine (H.out _ (by repeat first | exact Fr.refl _ _ | refine Fr.drewN ?_ _ | refine Fr.drew ?_)).mono ?_; rintro e1 w2 ⟨p, rfl, q1, q2⟩)) | (go_at_call 53; go_must (refine q2.out.mono ?_; rintro e1 w3 ⟨rfl, q3, q4, q5⟩)))
  all_goals
    go_wp2_with fail
    go_end0
    refine ⟨rfl, ⟨World.cell?_setCell_same _ _ _ q3, by rw [World.frozen?_setCell]; exact q4⟩, (q5.out.mono (T := fun x _ => x = pr) (fun _ _ _ k => k.elim)).setCell pr 0 _ (fun _ => rfl)⟩
theorem enter_text1 (caps : Array Value) (w : World) : (callFunc 51 caps).run Tryz.prog w = .ok (.enter 51 caps) w := by kernel_rfl
set_option maxRecDepth 100000 in
set_option maxHeartbeats 1000000 in
theorem text_any {w : World} {s T : ByteArray} {f fm : Nat} {e : Int} {n : Bool} (hf : f ≤ 3) (g : Gv w) (hdg : Digs s.data.toList) (h0 : 0 < s.size) (hs : s.size ≤ 1000) (hT : Says f n e (numOf s.data.toList) fm T) :
    Calls Tryz.prog 22 #[.agg #[.int .i64 f, .bool n, .int .i32 e, .string s], .int .u8 fm, .int .i64 0] w fun e1 w' => e1 = .returned (.string T) ∧ Fr (fun _ _ => False) w w' := by
  have hG := g.g.size
  have hm := hmf
  obtain ⟨sz, hsz⟩ : ∃ x, w.heap.size = x := ⟨_, rfl⟩
  obtain ⟨w1, hw1⟩ : ∃ x, (((w.alloc (.cells #[.int .i64 f, .bool n, .int .i32 e, .string s] 24)).alloc (.cells #[.int .u8 fm] 5)).alloc (.cells #[.int .i64 0] 3)).alloc (.cells #[.string ⟨#[]⟩] 9) = x := ⟨_, rfl⟩
  have F1 : Fr (fun _ _ => False) w w1 := by rw [← hw1]; exact (((((Fr.refl _ w).alloc _).alloc _).alloc _).alloc _)
  have hs1 : w1.heap.size = sz + 4 := by rw [← hw1, ← hsz]; simp
  have cd : D4 w1 sz f n e s := by
    rw [← hw1, ← hsz]; exact (D4.new (w := w) f e n s 24).fr ((((Fr.refl (fun _ _ => False) _).alloc _).alloc _).alloc _) (fun _ q => q)
  have cf : Cl w1 (sz + 1) 0 (.int .u8 fm) := by
    have := (Cl.new (w := w.alloc (.cells #[.int .i64 f, .bool n, .int .i32 e, .string s] 24)) (by simp; omega) (.int .u8 fm) 5).fr (((Fr.refl (fun _ _ => False) _).alloc (.cells #[.int .i64 0] 3)).alloc (.cells #[.string ⟨#[]⟩] 9)) (fun q => q)
    rw [hw1, World.size_alloc, hsz] at this; exact this
  have cb : Cl w1 (sz + 2) 0 (.int .i64 0) := by
    have := (Cl.new (w := (w.alloc (.cells #[.int .i64 f, .bool n, .int .i32 e, .string s] 24)).alloc (.cells #[.int .u8 fm] 5)) (by simp; omega) (.int .i64 0) 3).fr ((Fr.refl (fun _ _ => False) _).alloc (.cells #[.string ⟨#[]⟩] 9)) (fun q => q)
    rw [hw1, World.size_alloc, World.size_alloc, hsz] at this; exact this
  have cr : Cl w1 (sz + 3) 0 (.string ⟨#[]⟩) := by
    have := (Cl.new (w := ((w.alloc (.cells #[.int .i64 f, .bool n, .int .i32 e, .string s] 24)).alloc (.cells #[.int .u8 fm] 5)).alloc (.cells #[.int .i64 0] 3)) (by simp; omega) (.string ⟨#[]⟩) 9)
    rw [hw1, World.size_alloc, World.size_alloc, World.size_alloc, hsz] at this; exact this
  have a1 := (Fr.refl (fun _ _ => False) w1).alloc (.cells #[.bool false] 4)
  have hS : Hid (Calls Tryz.prog 23 #[.func (.func 51) #[] #[.pointer (some ⟨sz + 2, 0, none⟩), .pointer (some ⟨sz, 0, none⟩), .pointer (some ⟨sz + 1, 0, none⟩), .pointer (some ⟨sz + 3, 0, none⟩)]] w1 fun e w' =>
      e = .returned (.bool true) ∧ Aside (Cl w' (sz + 3) 0 (.string T) ∧ Fr (fun _ _ => False) w w')) := Lib.hid (by
    have hp := text1_any hf (g.new (F1.trans a1)) (cb.fr a1 (fun q => q)) (cd.fr a1 (fun _ q => q)) (cf.fr a1 (fun q => q)) (cr.fr a1 (fun q => q)) hdg h0 hs hT
    refine (safe_any (P := fun w' => Cl w' (sz + 3) 0 (.string T) ∧ Fr (fun _ _ => False) w w') 51 _ w1 (enter_text1 _) (hp.mono ?_)).mono ?_
    · rintro e w' ⟨rfl, k2, k3⟩
      have hnew := Cl.new (w := w1) (by rw [hs1]; omega) (.bool false) 4
      have h4 := hnew.fr k3 (by rw [hs1]; omega)
      exact ⟨rfl, h4.cell, h4.free, k2, (F1.trans a1).trans' k3 (fun _ _ _ k => k) (fun x y hx k => by rw [hsz] at hx; omega)⟩
    · rintro e w' ⟨rfl, w2, ⟨k2, k3⟩, rfl⟩
      have f2 := ((Fr.refl (fun x _ => x = w1.heap.size) w2).setCell w1.heap.size 0 (.bool true) (fun _ => rfl)).setCell w1.heap.size 0 (.bool true) (fun _ => rfl)
      exact ⟨rfl, ⟨k2.fr f2 (by rw [hs1]; omega), k3.trans' f2 (fun _ _ _ k => k) (fun x y hx k => by rw [hsz] at hx; rw [hs1] at k; omega)⟩⟩)
  clear hdg h0 hs hT g F1 a1 cd cf cb cr hs1 hf
  go_enter Tryz.func22, Tryz.ntmps22
  go_wp2_with fail
  rw [show sz + 1 + 1 + 1 = sz + 3 from rfl, show sz + 1 + 1 = sz + 2 from rfl]
  have HSZ := Aside.mk hsz
  clear hw1 hsz hG
  refine hS.out.mono ?_
  rintro e w2 ⟨rfl, hA⟩
  have o0 := hA.out.1.cell
  have o1 := hA.out.1.free
  clear hS
  go_wp2_with fail
  refine bodyPost_ret (v := .string T) (by simp [results, Tryz.results22, go_sem, o0]) rfl ⟨rfl, ?_⟩
  have hfr := hA.out.2
  repeat' (first | exact hfr | refine Fr.setCell ?_ _ _ _ (fun q => by rw [HSZ.out] at q; omega))
end Go.Proofs.YtgilnnipephfjaaGreatDoor
namespace Go.Proofs.YtgilnnipephfjaaGreatDoor
open Go.RowKit

theorem nat1250 : natText 1250 = [49, 50, 53, 48] := by
  have h : numOf [49, 50, 53, 48] = 1250 := by decide
  rw [← h]
  exact natText_numOf (by intro c hc; simp at hc; rcases hc with rfl | rfl | rfl | rfl <;> decide) (by simp) (.inr (fun _ => by simp))
theorem digs1250 : Digs ([49, 50] ++ [53, 48]) := by intro c hc; simp at hc; rcases hc with rfl | rfl | rfl | rfl <;> decide
theorem bl1250 : bl 1250 ≤ 1100 := Nat.le_trans ((lt_two_iff 1250 11).1 (by decide)) (by omega)
theorem nlen1250 : nlen 1250 ≤ 8 := nlen_le (Nat.lt_of_lt_of_le (show 1250 < B ^ 1 by decide) (Nat.pow_le_pow_right B_pos (by omega)))
theorem ndig1250 : ndig 1250 = 4 := by rw [← natText_length, nat1250]; rfl
theorem parse_alive {w : World} (g : Gv w) : Calls Tryz.prog 21 #[.string ⟨#[45, 49, 50, 46, 53, 48]⟩, .int .i64 0] w fun e1 w' => e1 = .returned (.tuple #[.agg #[.int .i64 0, .bool true, .int .i32 (-2), .string ⟨#[49, 50, 53, 48]⟩], .bool true]) ∧ Fr (fun _ _ => False) w w' := by
  have h : numOf ([49, 50] ++ [53, 48]) = 1250 := by decide
  have := parse_neg (A := [49, 50]) (B := [53, 48]) (s := ⟨#[45, 49, 50, 46, 53, 48]⟩) g rfl (fun c hc => digs1250 c (List.mem_append_left _ hc)) (fun c hc => digs1250 c (List.mem_append_right _ hc)) (by simp) (by simp) (by rw [h]; exact bl1250) (by rw [h]; exact sm_of8 nlen1250)
  rw [h, nat1250] at this
  exact this
theorem says_alive : Says 0 true (-2) 1250 71 ⟨#[45, 49, 50, 46, 53, 48]⟩ := by
  intro w p a c g h
  have := dText_mid (q := 2) g h (by omega) (sm_of8 nlen1250) bl1250 (by omega) (by rw [ndig1250]; omega) (by rw [ndig1250]; omega)
  rw [nat1250] at this
  exact this
theorem text_alive {w : World} (g : Gv w) : Calls Tryz.prog 22 #[.agg #[.int .i64 0, .bool true, .int .i32 (-2), .string ⟨#[49, 50, 53, 48]⟩], .int .u8 71, .int .i64 0] w fun e1 w' => e1 = .returned (.string ⟨#[45, 49, 50, 46, 53, 48]⟩) ∧ Fr (fun _ _ => False) w w' :=
  text_any (f := 0) (fm := 71) (by omega) g (fun c hc => digs1250 c hc) (by decide) (by decide) says_alive
theorem eql_alive (w : World) : (binOp .eql 24 (.agg #[.int .i64 0, .bool true, .int .i32 (-2), .string ⟨#[49, 50, 53, 48]⟩]) (.agg #[.int .i64 0, .bool true, .int .i32 (-2), .string ⟨#[49, 50, 53, 48]⟩])).run Tryz.prog w = .ok (.bool true) w := by kernel_rfl
set_option maxRecDepth 100000 in
theorem alive {w : World} (g : Gv w) : Calls Tryz.prog 8 #[] w fun e1 w' => e1 = .returned (.bool true) ∧ Fr (fun _ _ => False) w w' := by
  have hP := Lib.hid (parse_alive g)
  have hT := Lib.hid (fun w1 (f : Fr (fun _ _ => False) w w1) => text_alive (g.new f))
  have he := eql_alive
  clear g
  go_enter Tryz.func8, Tryz.ntmps8
  go_wp2_with fail
  refine hP.out.mono ?_
  rintro e1 w1 ⟨rfl, k1⟩
  have K1 := Aside.mk k1
  clear k1 hP
  go_wp2_with fail
  refine (hT.out _ (by repeat first | exact K1.out | refine Fr.drewN ?_ _ | refine Fr.drew ?_ | refine Fr.alloc ?_ _)).mono ?_
  rintro e1 w2 ⟨rfl, k2⟩
  have K2 := Aside.mk k2
  clear k2 hT
  go_wp2_with fail
  go_ret
  exact ⟨rfl, (K1.out.alloc _).trans K2.out⟩
end Go.Proofs.YtgilnnipephfjaaGreatDoor
namespace Go.Proofs.YtgilnnipephfjaaGreatDoor
open Go.RowKit

/-- The cells of a decimal as data, and that they may be written: facts for the walk. -/
def E8 (w : World) (b : Nat) (f : Int) (n : Bool) (e : Int) (s : ByteArray) : Prop := w.cell? ⟨b, 0, none⟩ = some (.int .i64 f) ∧ w.cell? ⟨b, 1, none⟩ = some (.bool n) ∧ w.cell? ⟨b, 2, none⟩ = some (.int .i32 e) ∧ w.cell? ⟨b, 3, none⟩ = some (.string s) ∧
  w.frozen? ⟨b, 0, none⟩ = false ∧ w.frozen? ⟨b, 1, none⟩ = false ∧ w.frozen? ⟨b, 2, none⟩ = false ∧ w.frozen? ⟨b, 3, none⟩ = false
theorem E8.of {w : World} {b : Nat} {f e : Int} {n : Bool} {s : ByteArray} (h : D4 w b f n e s) : E8 w b f n e s := ⟨h.c0.cell, h.c1.cell, h.c2.cell, h.c3.cell, h.c0.free, h.c1.free, h.c2.free, h.c3.free⟩
theorem D4.oth {w : World} {b p : Nat} {f e : Int} {n : Bool} {s : ByteArray} (h : D4 w b f n e s) (hne : p ≠ b) (v0 v1 v2 v3 : Value) :
    D4 ((((w.setCell ⟨p, 0, none⟩ v0).setCell ⟨p, 1, none⟩ v1).setCell ⟨p, 2, none⟩ v2).setCell ⟨p, 3, none⟩ v3) b f n e s :=
  ⟨(((h.c0.other p 0 _ (.inl hne)).other p 1 _ (.inl hne)).other p 2 _ (.inl hne)).other p 3 _ (.inl hne), (((h.c1.other p 0 _ (.inl hne)).other p 1 _ (.inl hne)).other p 2 _ (.inl hne)).other p 3 _ (.inl hne),
   (((h.c2.other p 0 _ (.inl hne)).other p 1 _ (.inl hne)).other p 2 _ (.inl hne)).other p 3 _ (.inl hne), (((h.c3.other p 0 _ (.inl hne)).other p 1 _ (.inl hne)).other p 2 _ (.inl hne)).other p 3 _ (.inl hne)⟩
theorem D4.drew {w : World} {b : Nat} {f e : Int} {n : Bool} {s : ByteArray} (h : D4 w b f n e s) : D4 w.drew b f n e s := h.fr ((Fr.refl (fun _ _ => False) w).drew) (fun _ q => q)
end Go.Proofs.YtgilnnipephfjaaGreatDoor
namespace Go.Proofs.YtgilnnipephfjaaGreatDoor
open Go.RowKit

theorem eqFields_same {w : World} (d : Nat) (xs : Array Value) : ∀ fs : List Field, (∀ f ∈ fs, ∃ v, (part f.type xs f.offset).run Tryz.prog w = .ok v w ∧ (Op.equalIn d f.type v v).run Tryz.prog w = .ok true w) → (Op.eqFields d xs xs fs).run Tryz.prog w = .ok true w
  | [], _ => by simp [Op.eqFields]
  | f :: fs, h => by
    have ih := eqFields_same d xs fs (fun g hg => h g (List.mem_cons_of_mem _ hg))
    obtain ⟨v, h1, h2⟩ := h f (List.mem_cons_self ..)
    simp only [Op.eqFields]
    split
    · simp [h1, h2, ih]
    · exact ih
theorem fields_dec : ((Tryz.prog.fieldsOf 24).toList.map fun f => (f.type, f.offset)) = [(3, 0), (4, 1), (21, 2), (9, 3)] := by kernel_rfl
theorem under_dec : Tryz.prog.underlying 24 = some (.struct (Tryz.prog.fieldsOf 24)) := by kernel_rfl
theorem held_dec : Tryz.prog.stoodInHeld 24 = false := by kernel_rfl
theorem eql_dec (w : World) (f e : Int) (n : Bool) (s : ByteArray) : (binOp .eql 24 (.agg #[.int .i64 f, .bool n, .int .i32 e, .string s]) (.agg #[.int .i64 f, .bool n, .int .i32 e, .string s])).run Tryz.prog w = .ok (.bool true) w := by
  rw [run_eql_struct, run_equalIn_agg w 9999 24 _ _ under_dec held_dec, eqFields_same]
  · rfl
  · intro g hg
    have hm : (g.type, g.offset) ∈ ((Tryz.prog.fieldsOf 24).toList.map fun f => (f.type, f.offset)) := List.mem_map_of_mem (f := fun f : Field => (f.type, f.offset)) hg
    rw [fields_dec] at hm
    simp only [List.mem_cons, List.not_mem_nil, or_false, Prod.mk.injEq] at hm
    rcases hm with ⟨h1, h2⟩ | ⟨h1, h2⟩ | ⟨h1, h2⟩ | ⟨h1, h2⟩ <;> rw [h1, h2]
    · exact ⟨.int .i64 f, by simp [go_sem], by rw [run_equalIn_int w 9998 3 .i64 .i64 f f Tryz.underlying3]; simp⟩
    · exact ⟨.bool n, by simp [go_sem], by rw [run_equalIn_bool' w 9998 4 n n Tryz.underlying4]; simp⟩
    · exact ⟨.int .i32 e, by simp [go_sem], by rw [run_equalIn_int w 9998 21 .i32 .i32 e e Tryz.underlying21]; simp⟩
    · exact ⟨.string s, by simp [go_sem], by rw [run_equalIn_string w 9998 9 s s Tryz.underlying9]; simp⟩
end Go.Proofs.YtgilnnipephfjaaGreatDoor
