/- impl.Copied: a decimal set to another one, and the other one kept. impl.Copied whole. spec.Clear, onlyDigits, zzFits1. spec.Clear of a finite decimal. -/
import Derived.Test.YtifkpcijheabhaaGreatDoorM33Eql
import Derived.Test.YtifkpcijheabhaaGreatDoorM28Str2
set_option linter.unusedSimpArgs false
set_option linter.unusedVariables false
namespace Go.Proofs.YtifkpcijheabhaaGreatDoor
open Go.RowKit

theorem outnew {w w' : World} {a : Option Addr} {c : Nat} (h : Out w' none 0 a c) (hs : w.heap.size ≤ w'.heap.size) : ∀ x y, foot a c x y → w.heap.size ≤ x := fun x y k => by
  rcases h with ⟨rfl, rfl⟩ | ⟨b, o, rfl, hb⟩
  · exact (foot_none _ _ _ k).elim
  · rw [foot_some] at k; omega
set_option maxRecDepth 100000 in
set_option maxHeartbeats 2000000 in
theorem copied1_any {w : World} {pd pc pk : Nat} {f : Nat} {e : Int} {n : Bool} {s : ByteArray} (hf : f ≤ 3) (g : Gv w) (hd : D4 w pd f n e s) (hc : D4 w pc 0 false 0 ⟨#[]⟩) (hk : D4 w pk 0 false 0 ⟨#[]⟩) (hck : pc ≠ pk) (hng : NG ≤ pc)
    (hdg : Digs s.data.toList) (h0 : 0 < s.size) (hs : s.size ≤ 300) (hT : mk (natText (numOf s.data.toList)) = s) :
    Calls Tryz.prog 38 #[.pointer (some ⟨pd, 0, none⟩), .pointer (some ⟨pc, 0, none⟩), .pointer (some ⟨pk, 0, none⟩)] w fun e1 w' =>
      e1 = .returned (.tuple #[]) ∧ D4 w' pc f n e s ∧ D4 w' pk f n e s ∧ Fr (fun b _ => b = pc ∨ b = pk) w w' := by
  obtain ⟨X, hX⟩ : ∃ X, numOf s.data.toList = X := ⟨_, rfl⟩
  have hsm : Sm X := by rw [← hX]; exact sm_digs hdg (by have : s.data.toList.length = s.size := rfl; omega)
  have d0 := hd.c0.cell
  have d1 := hd.c1.cell
  have d2 := hd.c2.cell
  have d3 := hd.c3.cell
  have hpc : pc < w.heap.size := hc.c0.lt
  have hpk : pk < w.heap.size := hk.c0.lt
  have H : Hid (Calls Tryz.prog 24 #[.agg #[.int .i64 f, .bool n, .int .i32 e, .string s]] w fun e1 w2 => ∃ p, e1 = .returned (.pointer (some ⟨p, 0, none⟩)) ∧
      Hid (Calls Tryz.prog 39 #[.pointer (some ⟨w2.heap.size, 0, none⟩), .pointer (some ⟨p, 0, none⟩)] (w2.alloc (.cells #[.int .i8 0, .bool false, .int .i32 0, .bool false, .slice none 0 0] 65)) fun e1 w4 => e1 = .returned (.pointer (some ⟨w2.heap.size, 0, none⟩)) ∧
        Hid (Calls Tryz.prog 27 #[.pointer (some ⟨w2.heap.size, 0, none⟩)] w4 fun e1 w5 => e1 = .returned (.agg #[.int .i64 f, .bool n, .int .i32 e, .string s]) ∧ E8 w5 pc 0 false 0 ⟨#[]⟩ ∧ Aside (Fr (fun _ _ => False) w w5) ∧
          Hid (∀ w6, Fr (fun b _ => b = pc) w5 w6 → Calls Tryz.prog 40 #[.pointer (some ⟨w2.heap.size, 0, none⟩), .int .i64 99] w6 fun e1 w7 => e1 = .returned (.pointer (some ⟨w2.heap.size, 0, none⟩)) ∧
            Hid (Calls Tryz.prog 27 #[.pointer (some ⟨p, 0, none⟩)] w7 fun e1 w8 => e1 = .returned (.agg #[.int .i64 f, .bool n, .int .i32 e, .string s]) ∧ E8 w8 pk 0 false 0 ⟨#[]⟩ ∧ Aside (Fr (fun _ _ => False) w6 w8 ∨ True) ∧ Aside (∃ S, (∀ x y, S x y → w.heap.size ≤ x) ∧ Fr S w6 w8)))))) := Lib.hid (by
    refine (dec_any f hf g hdg h0 (by omega)).mono ?_
    rintro e1 w2 ⟨p, a, c, rfl, k1, k2, k3, k4⟩
    rw [hX] at k1
    have g2 := g.new k2
    have z0 := DA.new (w := w2) g2.g.size 65 0 false 0
    have fa := (Fr.refl (fun _ _ => False) w2).alloc (.cells #[.int .i8 0, .bool false, .int .i32 0, .bool false, .slice none 0 0] 65)
    have p0 := k1.fr fa (fun _ _ _ q => q)
    have hp2 : p < w2.heap.size := k1.lt
    have ha2 := outnew k4 (Nat.le_refl _)
    have hafar : ∀ x y, foot a c x y → x < w2.heap.size := k1.num.nt.reg.lt
    refine ⟨p, rfl, Lib.hid ?_⟩
    refine (dSet_other (g2.new fa).g.size z0 p0 (fun x y q1 q2 => by
      have e1 : x = w2.heap.size := by
        rcases q1 with q | q
        · exact q
        · exact (foot_none _ _ _ q).elim
      rcases q2 with q | q
      · omega
      · have := hafar x y q; omega) (by have := sm_len hsm; omega)).mono ?_
    rintro e1 w4 ⟨a2, c2, rfl, k5, k6, k7⟩
    have f4 : Fr (fun _ _ => False) w2 w4 := fa.trans' k6 (fun _ _ _ k => k) (fun x y hx q => by
      rcases q with q | q
      · omega
      · exact foot_none _ _ _ q)
    have p4 := k1.fr f4 (fun _ _ _ q => q)
    have hz2 := outnew k7 (w := w2) fa.size
    refine ⟨rfl, Lib.hid ?_⟩
    refine (plain_any f hf (g2.new f4) k5 hsm).mono ?_
    rw [← hX, hT]
    rintro e1 w5 ⟨rfl, k8⟩
    have f5 := (k2.trans f4).trans k8
    have p5 := p4.fr k8 (fun _ _ _ q => q)
    have z5 := k5.fr k8 (fun _ _ _ q => q)
    have hs2 := k2.size
    refine ⟨rfl, E8.of (hc.fr f5 (fun _ q => q)), ⟨f5⟩, Lib.hid (fun w6 k9 => ?_)⟩
    have z6 := z5.fr k9 (fun x y q1 q2 => by
      rcases q1 with q | q
      · omega
      · have := hz2 x y q; omega)
    have p6 := p5.fr k9 (fun x y q1 q2 => by
      rcases q1 with q | q
      · omega
      · have := ha2 x y q; omega)
    have g6 : Gv w6 := (g.new f5).fr k9 (fun x _ q => by rw [q]; exact hng)
    refine (dSetInt64_any 99 g6.g.size z6 (by omega) (by omega)).mono ?_
    rintro e1 w7 ⟨a3, c3, rfl, k10, k11, k12⟩
    have p7 := p6.fr k11 (fun x y q1 q2 => by
      rcases q1 with q | q
      · rcases q2 with r | r
        · omega
        · have := hz2 x y r; omega
      · rcases q2 with r | r
        · have := hafar x y q; omega
        · have := hafar x y q; have := hz2 x y r; omega)
    have hS : ∀ x y, dfoot w2.heap.size a2 c2 x y → w.heap.size ≤ x := fun x y q => by
      rcases q with q | q
      · omega
      · have := hz2 x y q; omega
    have g7 : Gv w7 := g6.fr k11 (fun x y q => by have := hS x y q; have := g.g.size; omega)
    refine ⟨rfl, Lib.hid ?_⟩
    refine (plain_any f hf g7 p7 hsm).mono ?_
    rw [← hX, hT]
    rintro e1 w8 ⟨rfl, k13⟩
    have f8 : Fr (dfoot w2.heap.size a2 c2) w6 w8 := k11.trans' k13 (fun _ _ _ k => k) (fun _ _ _ k => k.elim)
    have k8' := (((hk.fr f5 (fun _ q => q)).fr k9 (fun _ q => hck q.symm)).fr f8 (fun o q => by have := hS _ _ q; omega))
    exact ⟨rfl, E8.of k8', ⟨.inr trivial⟩, ⟨_, hS, f8⟩⟩)
  have HC := Aside.mk hc
  have HK := Aside.mk hk
  have HL := Aside.mk (And.intro hpc (And.intro hpk hck))
  clear hd hc hk hck hng g hf hdg h0 hs hT hX hsm hpc hpk
  go_enter Tryz.func38, Tryz.ntmps38
  go_wp2_with fail
  refine H.out.mono ?_
  rintro e1 w2 ⟨p, rfl, q1⟩
  clear H
  go_wp2_with fail
  refine q1.out.mono ?_
  rintro e1 w4 ⟨rfl, q2⟩
  clear q1
  go_wp2_with fail
  refine q2.out.mono ?_
  rintro e1 w5 ⟨rfl, ⟨c0, c1, c2, c3, c4, c5, c6, c7⟩, q3, q4⟩
  clear q2
  go_wp2_with fail
  have F6 := ((((Fr.refl (fun b _ => b = pc) w5).setCell pc 0 (.int .i64 f) (fun _ => rfl)).setCell pc 1 (.bool n) (fun _ => rfl)).setCell pc 2 (.int .i32 e) (fun _ => rfl)).setCell pc 3 (.string s) (fun _ => rfl)
  refine (q4.out _ F6).mono ?_
  rintro e1 w7 ⟨rfl, q5⟩
  clear q4
  have HF6 := Aside.mk F6
  clear F6 c0 c1 c2 c3 c4 c5 c6 c7
  go_wp2_with fail
  refine q5.out.mono ?_
  rintro e1 w8 ⟨rfl, ⟨c0, c1, c2, c3, c4, c5, c6, c7⟩, _, q6⟩
  clear q5
  go_wp2_with fail
  go_end0
  obtain ⟨S, hS, f8⟩ := q6.out
  have hpc := HL.out.1
  have hpk := HL.out.2.1
  have hck := HL.out.2.2
  have P8 := ((HC.out.fr q3.out (fun _ q => q)).put (f' := f) (n' := n) (e' := e) (s' := s)).fr f8 (fun o q => by have := hS _ _ q; omega)
  have F8 : Fr (fun b _ => b = pc ∨ b = pk) w w8 := ((q3.out.mono (T := fun b _ => b = pc ∨ b = pk) (fun _ _ _ k => k.elim)).trans (HF6.out.mono (fun _ _ _ k => .inl k))).trans' f8 (fun _ _ _ k => k) (fun x y hx k => by have := hS _ _ k; omega)
  have K8 := (((HK.out.fr q3.out (fun _ q => q)).fr HF6.out (fun _ q => hck q.symm)).fr f8 (fun o q => by have := hS _ _ q; omega))
  refine ⟨rfl, P8.oth (fun q => hck q.symm) _ _ _ _, K8.put, ?_⟩
  repeat' (first | exact F8 | refine Fr.setCell ?_ _ _ _ (fun q => .inr rfl))
theorem enter_copied1 (caps : Array Value) (w : World) : (callFunc 38 caps).run Tryz.prog w = .ok (.enter 38 caps) w := by kernel_rfl
end Go.Proofs.YtifkpcijheabhaaGreatDoor
namespace Go.Proofs.YtifkpcijheabhaaGreatDoor
open Go.RowKit

set_option maxRecDepth 100000 in
theorem copied_results {W : World} {p q : Nat} {f e : Int} {n : Bool} {s : ByteArray} (hP : D4 W p f n e s) (hM : D4 W q f n e s) (tmps : Array Value) (h4 : tmps.getD 2 undef = .pointer (some ⟨p, 0, none⟩)) (h5 : tmps.getD 3 undef = .pointer (some ⟨q, 0, none⟩)) :
    (results Tryz.f16 tmps).run Tryz.prog W = .ok (.tuple #[.agg #[.int .i64 f, .bool n, .int .i32 e, .string s], .agg #[.int .i64 f, .bool n, .int .i32 e, .string s]]) W := by
  obtain ⟨s0, s1, s2, s3, _⟩ := E8.of hP
  obtain ⟨m0, m1, m2, m3, _⟩ := E8.of hM
  simp only [Array.getD_eq_getD_getElem?] at h4 h5
  simp [results, Tryz.results16, go_sem, s0, s1, s2, s3, m0, m1, m2, m3, h4, h5]
set_option maxRecDepth 100000 in
set_option maxHeartbeats 1000000 in
theorem copied_any {w : World} {f : Nat} {e : Int} {n : Bool} {s : ByteArray} (hf : f ≤ 3) (g : Gv w) (hdg : Digs s.data.toList) (h0 : 0 < s.size) (hs : s.size ≤ 300) (hT : mk (natText (numOf s.data.toList)) = s) :
    Calls Tryz.prog 16 #[.agg #[.int .i64 f, .bool n, .int .i32 e, .string s]] w fun e1 w' => e1 = .returned (.tuple #[.agg #[.int .i64 f, .bool n, .int .i32 e, .string s], .agg #[.int .i64 f, .bool n, .int .i32 e, .string s]]) ∧ Fr (fun _ _ => False) w w' := by
  have hG := g.g.size
  have hm := hmf
  obtain ⟨sz, hsz⟩ : ∃ x, w.heap.size = x := ⟨_, rfl⟩
  obtain ⟨w1, hw1⟩ : ∃ z, ((w.alloc (.cells #[.int .i64 f, .bool n, .int .i32 e, .string s] 23)).alloc (.cells #[.int .i64 0, .bool false, .int .i32 0, .string ⟨#[]⟩] 23)).alloc (.cells #[.int .i64 0, .bool false, .int .i32 0, .string ⟨#[]⟩] 23) = z := ⟨_, rfl⟩
  have F1 : Fr (fun _ _ => False) w w1 := by rw [← hw1]; exact ((((Fr.refl _ w).alloc _).alloc _).alloc _)
  have hs1 : w1.heap.size = sz + 3 := by rw [← hw1, ← hsz]; simp
  have cd : D4 w1 sz f n e s := by
    rw [← hw1, ← hsz]; exact (D4.new (w := w) f e n s 23).fr (((Fr.refl (fun _ _ => False) _).alloc _).alloc _) (fun _ q => q)
  have cs : D4 w1 (sz + 1) 0 false 0 ⟨#[]⟩ := by
    have := (D4.new (w := w.alloc (.cells #[.int .i64 f, .bool n, .int .i32 e, .string s] 23)) 0 0 false ⟨#[]⟩ 23).fr ((Fr.refl (fun _ _ => False) _).alloc (.cells #[.int .i64 0, .bool false, .int .i32 0, .string ⟨#[]⟩] 23)) (fun _ q => q)
    rw [hw1, World.size_alloc, hsz] at this; exact this
  have cm : D4 w1 (sz + 2) 0 false 0 ⟨#[]⟩ := by
    have := D4.new (w := (w.alloc (.cells #[.int .i64 f, .bool n, .int .i32 e, .string s] 23)).alloc (.cells #[.int .i64 0, .bool false, .int .i32 0, .string ⟨#[]⟩] 23)) 0 0 false ⟨#[]⟩ 23
    rw [hw1, World.size_alloc, World.size_alloc, hsz] at this; exact this
  have a1 := (Fr.refl (fun _ _ => False) w1).alloc (.cells #[.bool false] 4)
  have hS : Hid (Calls Tryz.prog 21 #[.func (.func 38) #[] #[.pointer (some ⟨sz, 0, none⟩), .pointer (some ⟨sz + 1, 0, none⟩), .pointer (some ⟨sz + 2, 0, none⟩)]] w1 fun e1 w' =>
      e1 = .returned (.bool true) ∧ Aside (D4 w' (sz + 1) f n e s ∧ D4 w' (sz + 2) f n e s ∧ Fr (fun _ _ => False) w w')) := Lib.hid (by
    have hp := copied1_any hf (g.new (F1.trans a1)) (cd.fr a1 (fun _ q => q)) (cs.fr a1 (fun _ q => q)) (cm.fr a1 (fun _ q => q)) (by omega) (by omega) hdg h0 hs hT
    refine (safe_any (P := fun w' => D4 w' (sz + 1) f n e s ∧ D4 w' (sz + 2) f n e s ∧ Fr (fun _ _ => False) w w') 38 _ w1 (enter_copied1 _) (hp.mono ?_)).mono ?_
    · rintro e w' ⟨rfl, k1, k2, k3⟩
      have hnew := Cl.new (w := w1) (by rw [hs1]; omega) (.bool false) 4
      have h4 := hnew.fr k3 (by rw [hs1]; omega)
      exact ⟨rfl, h4.cell, h4.free, k1, k2, (F1.trans a1).trans' k3 (fun _ _ _ k => k) (fun x y hx k => by rw [hsz] at hx; omega)⟩
    · rintro e w' ⟨rfl, w2, ⟨k1, k2, k3⟩, rfl⟩
      have f2 := ((Fr.refl (fun x _ => x = w1.heap.size) w2).setCell w1.heap.size 0 (.bool true) (fun _ => rfl)).setCell w1.heap.size 0 (.bool true) (fun _ => rfl)
      exact ⟨rfl, ⟨k1.fr f2 (fun _ => by rw [hs1]; omega), k2.fr f2 (fun _ => by rw [hs1]; omega), k3.trans' f2 (fun _ _ _ k => k) (fun x y hx k => by rw [hsz] at hx; rw [hs1] at k; omega)⟩⟩)
  clear hf hdg h0 hs hT g F1 a1 cd cs cm hs1
  go_enter Tryz.func16, Tryz.ntmps16
  go_wp2_with fail
  try rw [show sz + 1 + 1 = sz + 2 from rfl]
  have HSZ := Aside.mk hsz
  clear hw1 hsz hG
  refine hS.out.mono ?_
  rintro e1 w2 ⟨rfl, hA⟩
  obtain ⟨s0, s1, s2, s3, s4, s5, s6, s7⟩ := E8.of hA.out.1
  obtain ⟨m0, m1, m2, m3, m4, m5, m6, m7⟩ := E8.of hA.out.2.1
  clear hS
  go_wp2_with fail
  go_region
  clear s0 s1 s2 s3 s4 s5 s6 s7 m0 m1 m2 m3 m4 m5 m6 m7
  all_goals
    go_wp2_with fail
    have P := D4.drew ((hA.out.1.put (f' := f) (n' := n) (e' := e) (s' := s)).oth (p := sz + 2) (by omega) (.int .i64 f) (.bool n) (.int .i32 e) (.string s))
    have M := D4.drew ((hA.out.2.1.oth (p := sz + 1) (by omega) (.int .i64 f) (.bool n) (.int .i32 e) (.string s)).put (f' := f) (n' := n) (e' := e) (s' := s))
    have hfr := hA.out.2.2
    have R : Fr (fun _ _ => False) w _ := ((((((((hfr.setCell (sz + 1) 0 (.int .i64 f) (fun q => by rw [HSZ.out] at q; omega)).setCell (sz + 1) 1 (.bool n) (fun q => by rw [HSZ.out] at q; omega)).setCell (sz + 1) 2 (.int .i32 e) (fun q => by rw [HSZ.out] at q; omega)).setCell (sz + 1) 3 (.string s) (fun q => by rw [HSZ.out] at q; omega)).setCell (sz + 2) 0 (.int .i64 f) (fun q => by rw [HSZ.out] at q; omega)).setCell (sz + 2) 1 (.bool n) (fun q => by rw [HSZ.out] at q; omega)).setCell (sz + 2) 2 (.int .i32 e) (fun q => by rw [HSZ.out] at q; omega)).setCell (sz + 2) 3 (.string s) (fun q => by rw [HSZ.out] at q; omega)).drew
    with_reducible refine bodyPost_ret (copied_results P M _ ?_ ?_) ?_ ⟨rfl, R⟩
    all_goals rfl
end Go.Proofs.YtifkpcijheabhaaGreatDoor
namespace Go.Proofs.YtifkpcijheabhaaGreatDoor
open Go.RowKit

set_option maxRecDepth 100000 in
theorem zz_small {w : World} {f e : Int} {n : Bool} {s : ByteArray} (h : s.size ≤ 2147483647) : Calls Tryz.prog 10 #[.agg #[.int .i64 f, .bool n, .int .i32 e, .string s]] w fun e1 w' => e1 = .returned (.bool true) ∧ Fr (fun _ _ => False) w w' := by
  have h1 : ¬ (2147483647 : Int) < (s.size : Int) := by omega
  go_enter Tryz.func10, Tryz.ntmps10
  go_wp2_with fail
  go_ret
  exact ⟨rfl, (Fr.refl _ w).alloc _⟩
set_option maxRecDepth 100000 in
theorem zz_big {w : World} {f e : Int} {n : Bool} {s : ByteArray} (h : ¬ s.size ≤ 2147483647) : Calls Tryz.prog 10 #[.agg #[.int .i64 f, .bool n, .int .i32 e, .string s]] w fun e1 w' => e1 = .returned (.bool false) ∧ Fr (fun _ _ => False) w w' := by
  have h1 : (2147483647 : Int) < (s.size : Int) := by omega
  go_enter Tryz.func10, Tryz.ntmps10
  go_wp2_with fail
  go_ret
  exact ⟨rfl, (Fr.refl _ w).alloc _⟩
set_option maxRecDepth 100000 in
theorem only_any {w : World} {s : ByteArray} (hs : s.size ≤ 1000) : Calls Tryz.prog 19 #[.string s] w fun e1 w' => Fr (fun _ _ => False) w w' ∧ (e1 = .returned (.bool false) ∨ (e1 = .returned (.bool true) ∧ Digs s.data.toList)) := by
  go_enter Tryz.func19, Tryz.ntmps19
  go_wp2_with fail
  go_loopw [3] (fun iv wr => ∃ i : Nat, i ≤ s.size ∧ iv = .int .i64 i ∧ Aside (∀ k (h : k < s.data.toList.length), k < i → 48 ≤ (s.data.toList[k]).toNat ∧ (s.data.toList[k]).toNat ≤ 57) ∧ Aside (Fr (fun _ _ => False) w wr)) (fun iv _ => ((s.size : Int) - intOf iv).toNat)
  case atStart => exact ⟨0, Nat.zero_le _, rfl, ⟨fun k _ h => absurd h (Nat.not_lt_zero _)⟩, ⟨Fr.refl _ _⟩⟩
  case round =>
    obtain ⟨i, hi, rfl, hd, hf⟩ := hrel
    by_cases hl : i < s.size
    · by_cases h1 : ((s[i]).toNat : Int) < 48
      · go_wp2_with fail
        go_ret
        exact ⟨hf.out, .inl rfl⟩
      · by_cases h2 : (57 : Int) < ((s[i]).toNat : Int)
        · go_wp2_with fail
          go_ret
          exact ⟨hf.out, .inl rfl⟩
        · go_wp2_with fail
          go_roundw
          case rel =>
            refine ⟨i + 1, by omega, by go_num, ⟨fun k hk hki => ?_⟩, hf⟩
            by_cases e : k = i
            · subst e
              have e2 : s.data.toList[k] = s[k] := by simp [ByteArray.getElem_eq_getElem_data]
              rw [e2]; omega
            · exact hd.out k hk (by omega)
          case measure => simp [intOf]; omega
    · go_wp2_with fail
      go_ret
      refine ⟨hf.out, .inr ⟨rfl, fun c hc => ?_⟩⟩
      obtain ⟨k, hk, rfl⟩ := List.mem_iff_getElem.1 hc
      exact hd.out k hk (by have : s.data.toList.length = s.size := rfl
                            omega)
/-- What spec.Clear lets through. -/
def ClearP (f : Int) (s : ByteArray) : Prop := (1 ≤ f ∧ f ≤ 3 ∧ s.data.toList = [48]) ∨ (f = 0 ∧ Digs s.data.toList ∧ 0 < s.size ∧ s.size ≤ 300 ∧ (s.size = 1 ∨ ∀ h : 0 < s.size, s[0] ≠ 48))
set_option maxRecDepth 100000 in
set_option maxHeartbeats 1000000 in
theorem clear_inf {w : World} {f e : Int} {n : Bool} {s : ByteArray} (hf : f ≠ 0) :
    Calls Tryz.prog 11 #[.agg #[.int .i64 f, .bool n, .int .i32 e, .string s]] w fun e1 w' => Fr (fun _ _ => False) w w' ∧ (e1 = .returned (.bool false) ∨ (e1 = .returned (.bool true) ∧ ClearP f s)) := by
  have hfe : (f == 0) = false := by rw [beq_eq_false_iff_ne]; exact hf
  by_cases h1 : f > 0
  · by_cases h2 : f ≤ 3
    · by_cases h3 : s.toList = [48]
      · have h3b : (s.toList == [48]) = true := by rw [beq_iff_eq]; exact h3
        by_cases h4 : e = 0
        · have h4b : (e == 0) = true := by rw [beq_iff_eq]; exact h4
          go_enter Tryz.func11, Tryz.ntmps11
          go_wp2_with fail
          go_ret
          exact ⟨(Fr.refl _ w).alloc _, .inr ⟨rfl, .inl ⟨by omega, h2, by rw [← ByteArray.toList_eq]; exact h3⟩⟩⟩
        · have h4b : (e == 0) = false := by rw [beq_eq_false_iff_ne]; exact h4
          go_enter Tryz.func11, Tryz.ntmps11
          go_wp2_with fail
          go_ret
          exact ⟨(Fr.refl _ w).alloc _, .inl rfl⟩
      · have h3b : (s.toList == [48]) = false := by rw [beq_eq_false_iff_ne]; exact h3
        go_enter Tryz.func11, Tryz.ntmps11
        go_wp2_with fail
        go_ret
        exact ⟨(Fr.refl _ w).alloc _, .inl rfl⟩
    · go_enter Tryz.func11, Tryz.ntmps11
      go_wp2_with fail
      go_ret
      exact ⟨(Fr.refl _ w).alloc _, .inl rfl⟩
  · go_enter Tryz.func11, Tryz.ntmps11
    go_wp2_with fail
    go_ret
    exact ⟨(Fr.refl _ w).alloc _, .inl rfl⟩
end Go.Proofs.YtifkpcijheabhaaGreatDoor
namespace Go.Proofs.YtifkpcijheabhaaGreatDoor
open Go.RowKit

set_option maxRecDepth 100000 in
set_option maxHeartbeats 1000000 in
theorem clear_fin {w : World} {e : Int} {n : Bool} {s : ByteArray} :
    Calls Tryz.prog 11 #[.agg #[.int .i64 0, .bool n, .int .i32 e, .string s]] w fun e1 w' => Fr (fun _ _ => False) w w' ∧ (e1 = .returned (.bool false) ∨ (e1 = .returned (.bool true) ∧ ClearP 0 s)) := by
  by_cases c1 : s.size = 0
  · have hs : (s.toList == []) = true := by
      rw [ByteArray.toList_eq, beq_iff_eq]; exact List.eq_nil_of_length_eq_zero c1
    go_enter Tryz.func11, Tryz.ntmps11
    go_wp2_with fail
    go_ret
    exact ⟨(Fr.refl _ w).alloc _, .inl rfl⟩
  have hs : (s.toList == []) = false := by
    rw [ByteArray.toList_eq, beq_eq_false_iff_ne]; intro k
    exact c1 (by have : s.data.toList.length = s.size := rfl
                 rw [k] at this; exact this.symm)
  by_cases c2 : s.size ≤ 300
  case neg =>
    have c2' : (300 : Int) < (s.size : Int) := by omega
    go_enter Tryz.func11, Tryz.ntmps11
    go_wp2_with fail
    go_ret
    exact ⟨(Fr.refl _ w).alloc _, .inl rfl⟩
  have c2' : ¬ (300 : Int) < (s.size : Int) := by omega
  have hp : 0 < s.size := by omega
  have H : Hid (∀ w1, Calls Tryz.prog 19 #[.string s] w1 fun e1 w' => Fr (fun _ _ => False) w1 w' ∧ (e1 = .returned (.bool false) ∨ (e1 = .returned (.bool true) ∧ Digs s.data.toList))) := Lib.hid (fun w1 => only_any (by omega))
  have last : (s.size = 1 ∨ ∀ h : 0 < s.size, s[0] ≠ 48) → (¬ e < -2500) → (¬ e > 2500) → Calls Tryz.prog 11 #[.agg #[.int .i64 0, .bool n, .int .i32 e, .string s]] w fun e1 w' => Fr (fun _ _ => False) w w' ∧ (e1 = .returned (.bool false) ∨ (e1 = .returned (.bool true) ∧ ClearP 0 s)) := by
    intro hz c4 c5
    by_cases c3 : (1 : Int) < (s.size : Int)
    · have hz0 : (((s[0]).toNat : Int) == 48) = false := by
        rw [beq_eq_false_iff_ne]; intro k
        rcases hz with k1 | k1
        · omega
        · exact k1 hp (by apply UInt8.toNat_inj.1; have : (48 : UInt8).toNat = 48 := rfl
                          omega)
      have HZ := Aside.mk hz
      clear hz
      go_enter Tryz.func11, Tryz.ntmps11
      go_wp2_with fail
      refine (H.out _).mono ?_
      rintro e1 w2 ⟨k1, rfl | ⟨rfl, k2⟩⟩
      · have K := Aside.mk k1
        clear k1
        go_wp2_with fail
        go_ret
        exact ⟨((Fr.refl _ w).alloc _).trans K.out, .inl rfl⟩
      · have K := Aside.mk k1
        have K2 := Aside.mk k2
        clear k1 k2
        go_wp2_with fail
        go_ret
        exact ⟨((Fr.refl _ w).alloc _).trans K.out, .inr ⟨rfl, .inr ⟨rfl, K2.out, hp, c2, HZ.out⟩⟩⟩
    · have HZ := Aside.mk hz
      clear hz
      go_enter Tryz.func11, Tryz.ntmps11
      go_wp2_with fail
      refine (H.out _).mono ?_
      rintro e1 w2 ⟨k1, rfl | ⟨rfl, k2⟩⟩
      · have K := Aside.mk k1
        clear k1
        go_wp2_with fail
        go_ret
        exact ⟨((Fr.refl _ w).alloc _).trans K.out, .inl rfl⟩
      · have K := Aside.mk k1
        have K2 := Aside.mk k2
        clear k1 k2
        go_wp2_with fail
        go_ret
        exact ⟨((Fr.refl _ w).alloc _).trans K.out, .inr ⟨rfl, .inr ⟨rfl, K2.out, hp, c2, HZ.out⟩⟩⟩
  by_cases c3 : (1 : Int) < (s.size : Int)
  · by_cases hz : s[0] = 48
    · have hz0 : (((s[0]).toNat : Int) == 48) = true := by rw [hz]; rfl
      clear last H
      go_enter Tryz.func11, Tryz.ntmps11
      go_wp2_with fail
      go_ret
      exact ⟨(Fr.refl _ w).alloc _, .inl rfl⟩
    · have hz0 : (((s[0]).toNat : Int) == 48) = false := by
        rw [beq_eq_false_iff_ne]; intro k
        exact hz (by apply UInt8.toNat_inj.1; have : (48 : UInt8).toNat = 48 := rfl
                     omega)
      by_cases c4 : e < -2500
      · clear last H
        go_enter Tryz.func11, Tryz.ntmps11
        go_wp2_with fail
        go_ret
        exact ⟨(Fr.refl _ w).alloc _, .inl rfl⟩
      by_cases c5 : e > 2500
      · clear last H
        go_enter Tryz.func11, Tryz.ntmps11
        go_wp2_with fail
        go_ret
        exact ⟨(Fr.refl _ w).alloc _, .inl rfl⟩
      exact last (.inr (fun _ => hz)) c4 c5
  · by_cases c4 : e < -2500
    · clear last H
      go_enter Tryz.func11, Tryz.ntmps11
      go_wp2_with fail
      go_ret
      exact ⟨(Fr.refl _ w).alloc _, .inl rfl⟩
    by_cases c5 : e > 2500
    · clear last H
      go_enter Tryz.func11, Tryz.ntmps11
      go_wp2_with fail
      go_ret
      exact ⟨(Fr.refl _ w).alloc _, .inl rfl⟩
    exact last (.inl (by omega)) c4 c5
theorem clear_any {w : World} {f e : Int} {n : Bool} {s : ByteArray} :
    Calls Tryz.prog 11 #[.agg #[.int .i64 f, .bool n, .int .i32 e, .string s]] w fun e1 w' => Fr (fun _ _ => False) w w' ∧ (e1 = .returned (.bool false) ∨ (e1 = .returned (.bool true) ∧ ClearP f s)) := by
  by_cases h : f = 0
  · subst h; exact clear_fin
  · exact clear_inf h
end Go.Proofs.YtifkpcijheabhaaGreatDoor
