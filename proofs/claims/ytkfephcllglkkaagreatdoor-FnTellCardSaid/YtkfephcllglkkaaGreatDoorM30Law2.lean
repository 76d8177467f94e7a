/- impl.Tell: what a decimal tells. spec.Clear, onlyDigits, zzFits1. spec.Clear of a finite decimal. laws.FnTell. -/
import Derived.Test.YtkfephcllglkkaaGreatDoorM25Law1
set_option linter.unusedSimpArgs false
set_option linter.unusedVariables false
namespace Go.Proofs.YtkfephcllglkkaaGreatDoor
open Go.RowKit

/-- Three cells of what is told. -/
structure T3 (w : World) (b : Nat) (z : Bool) (s d : Int) : Prop where
  c0 : Cl w b 0 (.bool z)
  c1 : Cl w b 1 (.int .i64 s)
  c2 : Cl w b 2 (.int .i64 d)
theorem T3.fr {S : Nat → Nat → Prop} {w w' : World} {b : Nat} {z : Bool} {s d : Int} (h : T3 w b z s d) (k : Fr S w w') (hs : ∀ o, ¬ S b o) : T3 w' b z s d := ⟨h.c0.fr k (hs _), h.c1.fr k (hs _), h.c2.fr k (hs _)⟩
theorem T3.put {w : World} {b : Nat} {z z' : Bool} {s d s' d' : Int} (h : T3 w b z s d) : T3 (((w.setCell ⟨b, 0, none⟩ (.bool z')).setCell ⟨b, 1, none⟩ (.int .i64 s')).setCell ⟨b, 2, none⟩ (.int .i64 d')) b z' s' d' :=
  ⟨((h.c0.set _).other b 1 _ (by omega)).other b 2 _ (by omega), ((h.c1.other b 0 _ (by omega)).set _).other b 2 _ (by omega), ((h.c2.other b 0 _ (by omega)).other b 1 _ (by omega)).set _⟩
theorem T3.new {w : World} (z : Bool) (s d : Int) (t : TypeId) : T3 (w.alloc (.cells #[.bool z, .int .i64 s, .int .i64 d] t)) w.heap.size z s d :=
  ⟨⟨by rw [World.cell?_alloc_new]; rfl, free_of_kind (kind_alloc_new _ _ _ _) 0⟩, ⟨by rw [World.cell?_alloc_new]; rfl, free_of_kind (kind_alloc_new _ _ _ _) 1⟩, ⟨by rw [World.cell?_alloc_new]; rfl, free_of_kind (kind_alloc_new _ _ _ _) 2⟩⟩
set_option maxRecDepth 100000 in
set_option maxHeartbeats 1000000 in
theorem tell1_any {w : World} {pd pt : Nat} {f : Nat} {e : Int} {n : Bool} {s : ByteArray} (hf : f ≤ 3) (g : Gv w) (hd : D4 w pd f n e s) (ht : T3 w pt false 0 0) (hdg : Digs s.data.toList) (h0 : 0 < s.size) (hs : s.size ≤ 1000) (hX : bl (numOf s.data.toList) ≤ 1100) :
    Calls Tryz.prog 17 #[.pointer (some ⟨pd, 0, none⟩), .pointer (some ⟨pt, 0, none⟩)] w fun e1 w' =>
      e1 = .returned (.tuple #[]) ∧ T3 w' pt (dsgn f n (numOf s.data.toList) == 0) (dsgn f n (numOf s.data.toList)) (ndig (numOf s.data.toList) : Nat) ∧ Fr (fun b _ => b = pt) w w' := by
  obtain ⟨X, hXX⟩ : ∃ X, numOf s.data.toList = X := ⟨_, rfl⟩
  obtain ⟨S, hS⟩ : ∃ S, dsgn f n X = S := ⟨_, rfl⟩
  obtain ⟨D, hD⟩ : ∃ D, ndig X = D := ⟨_, rfl⟩
  have d0 := hd.c0.cell
  have d1 := hd.c1.cell
  have d2 := hd.c2.cell
  have d3 := hd.c3.cell
  have H : Hid (Calls Tryz.prog 18 #[.agg #[.int .i64 f, .bool n, .int .i32 e, .string s]] w fun e1 w2 => ∃ p, e1 = .returned (.pointer (some ⟨p, 0, none⟩)) ∧
      Hid (Calls Tryz.prog 19 #[.pointer (some ⟨p, 0, none⟩)] w2 fun e w' => e = .returned (.bool (S == 0)) ∧ w' = w2) ∧
      Hid (Calls Tryz.prog 20 #[.pointer (some ⟨p, 0, none⟩)] w2 fun e w' => e = .returned (.int .i64 S) ∧ w' = w2) ∧
      Hid (Calls Tryz.prog 21 #[.pointer (some ⟨p, 0, none⟩)] w2 fun e w3 => e = .returned (.int .i64 (D : Nat)) ∧ (∃ z s d, Aside (T3 w3 pt z s d) ∧ (w3.cell? ⟨pt, 0, none⟩ = some (.bool z) ∧ w3.cell? ⟨pt, 1, none⟩ = some (.int .i64 s) ∧ w3.cell? ⟨pt, 2, none⟩ = some (.int .i64 d)) ∧
        w3.frozen? ⟨pt, 0, none⟩ = false ∧ w3.frozen? ⟨pt, 1, none⟩ = false ∧ w3.frozen? ⟨pt, 2, none⟩ = false) ∧ Aside (Fr (fun _ _ => False) w w3))) := Lib.hid (by
    refine (dec_any f hf g hdg h0 hs).mono ?_
    rintro e1 w2 ⟨p, a, c, rfl, k1, k2, _⟩
    have i1 := dIsZero_any k1
    have i2 := dSign_any k1
    have i3 := dNumDigits_any (g.new k2).g k1 hX
    rw [hXX] at i1 i2 i3
    rw [hS] at i1 i2
    rw [hD] at i3
    refine ⟨p, rfl, Lib.hid i1, Lib.hid i2, Lib.hid (i3.mono ?_)⟩
    rintro e1 w3 ⟨rfl, k3⟩
    have t3 := ht.fr (k2.trans k3) (fun _ q => q)
    exact ⟨rfl, ⟨_, _, _, ⟨t3⟩, ⟨t3.c0.cell, t3.c1.cell, t3.c2.cell⟩, t3.c0.free, t3.c1.free, t3.c2.free⟩, ⟨k2.trans k3⟩⟩)
  rw [hXX, hS, hD]
  clear hd ht hf g hdg h0 hs hX hXX hS hD
  go_enter Tryz.func17, Tryz.ntmps17
  go_wp2_with fail
  refine H.out.mono ?_
  rintro e1 w2 ⟨p, rfl, i1, i2, i3⟩
  clear H
  go_wp2_with fail
  refine i1.out.mono ?_
  rintro e1 w3 ⟨rfl, rfl⟩
  go_wp2_with fail
  refine i2.out.mono ?_
  rintro e1 w4 ⟨rfl, rfl⟩
  go_wp2_with fail
  refine i3.out.mono ?_
  rintro e1 w5 ⟨rfl, ⟨z, s1, d, k1, ⟨c0, c1, c2⟩, c3, c4, c5⟩, k2⟩
  clear i1 i2 i3
  go_wp2_with fail
  go_end0
  exact ⟨rfl, k1.out.put, (((k2.out.mono (T := fun b _ => b = pt) (fun _ _ _ k => k.elim)).setCell pt 0 _ (fun _ => rfl)).setCell pt 1 _ (fun _ => rfl)).setCell pt 2 _ (fun _ => rfl)⟩
theorem enter_tell1 (caps : Array Value) (w : World) : (callFunc 17 caps).run Tryz.prog w = .ok (.enter 17 caps) w := by kernel_rfl
set_option maxRecDepth 100000 in
set_option maxHeartbeats 1000000 in
theorem tell_any {w : World} {f : Nat} {e : Int} {n : Bool} {s : ByteArray} (hf : f ≤ 3) (g : Gv w) (hdg : Digs s.data.toList) (h0 : 0 < s.size) (hs : s.size ≤ 1000) (hX : bl (numOf s.data.toList) ≤ 1100) :
    Calls Tryz.prog 8 #[.agg #[.int .i64 f, .bool n, .int .i32 e, .string s]] w fun e1 w' => e1 = .returned (.agg #[.bool (dsgn f n (numOf s.data.toList) == 0), .int .i64 (dsgn f n (numOf s.data.toList)), .int .i64 (ndig (numOf s.data.toList) : Nat)]) ∧ Fr (fun _ _ => False) w w' := by
  have hG := g.g.size
  have hm := hmf
  obtain ⟨S, hS⟩ : ∃ S, dsgn f n (numOf s.data.toList) = S := ⟨_, rfl⟩
  obtain ⟨D, hD⟩ : ∃ D, ndig (numOf s.data.toList) = D := ⟨_, rfl⟩
  obtain ⟨sz, hsz⟩ : ∃ x, w.heap.size = x := ⟨_, rfl⟩
  obtain ⟨w1, hw1⟩ : ∃ z, (w.alloc (.cells #[.int .i64 f, .bool n, .int .i32 e, .string s] 23)).alloc (.cells #[.bool false, .int .i64 0, .int .i64 0] 27) = z := ⟨_, rfl⟩
  have F1 : Fr (fun _ _ => False) w w1 := by rw [← hw1]; exact (((Fr.refl _ w).alloc _).alloc _)
  have hs1 : w1.heap.size = sz + 2 := by rw [← hw1, ← hsz]; simp
  have cd : D4 w1 sz f n e s := by
    rw [← hw1, ← hsz]; exact (D4.new f e n s 23).fr ((Fr.refl (fun _ _ => False) _).alloc _) (fun _ q => q)
  have ct : T3 w1 (sz + 1) false 0 0 := by
    have := T3.new (w := w.alloc (.cells #[.int .i64 f, .bool n, .int .i32 e, .string s] 23)) false 0 0 27
    rw [hw1, World.size_alloc, hsz] at this; exact this
  have a1 := (Fr.refl (fun _ _ => False) w1).alloc (.cells #[.bool false] 4)
  have hC : Hid (Calls Tryz.prog 16 #[.func (.func 17) #[] #[.pointer (some ⟨sz, 0, none⟩), .pointer (some ⟨sz + 1, 0, none⟩)]] w1 fun e w' =>
      e = .returned (.bool true) ∧ Aside (T3 w' (sz + 1) (S == 0) S D ∧ Fr (fun _ _ => False) w w')) := Lib.hid (by
    have hp := tell1_any hf (g.new (F1.trans a1)) (cd.fr a1 (fun _ q => q)) (ct.fr a1 (fun _ q => q)) hdg h0 hs hX
    rw [hS, hD] at hp
    refine (safe_any (P := fun w' => T3 w' (sz + 1) (S == 0) S D ∧ Fr (fun _ _ => False) w w') 17 _ w1 (enter_tell1 _) (hp.mono ?_)).mono ?_
    · rintro e w' ⟨rfl, k2, k3⟩
      have hnew := Cl.new (w := w1) (by rw [hs1]; omega) (.bool false) 4
      have h4 := hnew.fr k3 (by rw [hs1]; omega)
      exact ⟨rfl, h4.cell, h4.free, k2, (F1.trans a1).trans' k3 (fun _ _ _ k => k) (fun x y hx k => by rw [hsz] at hx; omega)⟩
    · rintro e w' ⟨rfl, w2, ⟨k2, k3⟩, rfl⟩
      have f2 := ((Fr.refl (fun x _ => x = w1.heap.size) w2).setCell w1.heap.size 0 (.bool true) (fun _ => rfl)).setCell w1.heap.size 0 (.bool true) (fun _ => rfl)
      exact ⟨rfl, ⟨k2.fr f2 (fun _ => by rw [hs1]; omega), k3.trans' f2 (fun _ _ _ k => k) (fun x y hx k => by rw [hsz] at hx; rw [hs1] at k; omega)⟩⟩)
  rw [hS, hD]
  clear hS hD g F1 a1 cd ct hs1 hdg h0 hs hX hf
  go_enter Tryz.func8, Tryz.ntmps8
  go_wp2_with fail
  have HSZ := Aside.mk hsz
  clear hw1 hsz hG
  refine hC.out.mono ?_
  rintro e w2 ⟨rfl, hA⟩
  have o0 := hA.out.1.c0.cell
  have o1 := hA.out.1.c1.cell
  have o2 := hA.out.1.c2.cell
  have o3 := hA.out.1.c0.free
  have o4 := hA.out.1.c1.free
  have o5 := hA.out.1.c2.free
  clear hC
  go_wp2_with fail
  have hfr := hA.out.2
  have R : Fr (fun _ _ => False) w _ := ((hfr.setCell (sz + 1) 0 (.bool (S == 0)) (fun q => by rw [HSZ.out] at q; omega)).setCell (sz + 1) 1 (.int .i64 S) (fun q => by rw [HSZ.out] at q; omega)).setCell (sz + 1) 2 (.int .i64 D) (fun q => by rw [HSZ.out] at q; omega)
  refine bodyPost_ret (v := .agg #[.bool (S == 0), .int .i64 S, .int .i64 D]) (by simp [results, Tryz.results8, go_sem, o0, o1, o2]) rfl ⟨rfl, R⟩
end Go.Proofs.YtkfephcllglkkaaGreatDoor
namespace Go.Proofs.YtkfephcllglkkaaGreatDoor
open Go.RowKit

set_option maxRecDepth 100000 in
theorem zz_small {w : World} {f e : Int} {n : Bool} {s : ByteArray} (h : s.size ≤ 2147483647) : Calls Tryz.prog 5 #[.agg #[.int .i64 f, .bool n, .int .i32 e, .string s]] w fun e1 w' => e1 = .returned (.bool true) ∧ Fr (fun _ _ => False) w w' := by
  have h1 : ¬ (2147483647 : Int) < (s.size : Int) := by omega
  go_enter Tryz.func5, Tryz.ntmps5
  go_wp2_with fail
  go_ret
  exact ⟨rfl, (Fr.refl _ w).alloc _⟩
set_option maxRecDepth 100000 in
theorem zz_big {w : World} {f e : Int} {n : Bool} {s : ByteArray} (h : ¬ s.size ≤ 2147483647) : Calls Tryz.prog 5 #[.agg #[.int .i64 f, .bool n, .int .i32 e, .string s]] w fun e1 w' => e1 = .returned (.bool false) ∧ Fr (fun _ _ => False) w w' := by
  have h1 : (2147483647 : Int) < (s.size : Int) := by omega
  go_enter Tryz.func5, Tryz.ntmps5
  go_wp2_with fail
  go_ret
  exact ⟨rfl, (Fr.refl _ w).alloc _⟩
set_option maxRecDepth 100000 in
theorem only_any {w : World} {s : ByteArray} (hs : s.size ≤ 1000) : Calls Tryz.prog 13 #[.string s] w fun e1 w' => Fr (fun _ _ => False) w w' ∧ (e1 = .returned (.bool false) ∨ (e1 = .returned (.bool true) ∧ Digs s.data.toList)) := by
  go_enter Tryz.func13, Tryz.ntmps13
  go_wp2_with fail
  go_loopw [3] (fun iv wr => ∃ i : Nat, i ≤ s.size ∧ iv = .int .i64 i ∧ Aside (∀ k (h : k < s.data.toList.length), k < i → 48 ≤ (s.data.toList[k]).toNat ∧ (s.data.toList[k]).toNat ≤ 57) ∧ Aside (Fr (fun _ _ => False) w wr)) (fun iv _ => ((s.size : Int) - intOf iv).toNat)
  case atStart => exact ⟨0, Nat.zero_le _, rfl, ⟨fun k _ h => absurd h (Nat.not_lt_zero _)⟩, ⟨Fr.refl _ _⟩⟩
  case round =>
    obtain ⟨i, hi, rfl, hd, hf⟩ := hrel
    by_cases hl : i < s.size
    · by_cases h1 : ((s[i]).toNat : Int) < 48
      · go_wp2_with fail
        go_ret
        exact ⟨hf.out, .inl rfl⟩
      · by_cases h2 : (57 : Int) < ((s[i]).toNat : Int)
        · go_wp2_with fail
          go_ret
          exact ⟨hf.out, .inl rfl⟩
        · go_wp2_with fail
          go_roundw
          case rel =>
            refine ⟨i + 1, by omega, by go_num, ⟨fun k hk hki => ?_⟩, hf⟩
            by_cases e : k = i
            · subst e
              have e2 : s.data.toList[k] = s[k] := by simp [ByteArray.getElem_eq_getElem_data]
              rw [e2]; omega
            · exact hd.out k hk (by omega)
          case measure => simp [intOf]; omega
    · go_wp2_with fail
      go_ret
      refine ⟨hf.out, .inr ⟨rfl, fun c hc => ?_⟩⟩
      obtain ⟨k, hk, rfl⟩ := List.mem_iff_getElem.1 hc
      exact hd.out k hk (by have : s.data.toList.length = s.size := rfl
                            omega)
/-- What spec.Clear lets through. -/
def ClearP (f : Int) (s : ByteArray) : Prop := (1 ≤ f ∧ f ≤ 3 ∧ s.data.toList = [48]) ∨ (f = 0 ∧ Digs s.data.toList ∧ 0 < s.size ∧ s.size ≤ 300 ∧ (s.size = 1 ∨ ∀ h : 0 < s.size, s[0] ≠ 48))
set_option maxRecDepth 100000 in
set_option maxHeartbeats 1000000 in
theorem clear_inf {w : World} {f e : Int} {n : Bool} {s : ByteArray} (hf : f ≠ 0) :
    Calls Tryz.prog 6 #[.agg #[.int .i64 f, .bool n, .int .i32 e, .string s]] w fun e1 w' => Fr (fun _ _ => False) w w' ∧ (e1 = .returned (.bool false) ∨ (e1 = .returned (.bool true) ∧ ClearP f s)) := by
  have hfe : (f == 0) = false := by rw [beq_eq_false_iff_ne]; exact hf
  by_cases h1 : f > 0
  · by_cases h2 : f ≤ 3
    · by_cases h3 : s.toList = [48]
      · have h3b : (s.toList == [48]) = true := by rw [beq_iff_eq]; exact h3
        by_cases h4 : e = 0
        · have h4b : (e == 0) = true := by rw [beq_iff_eq]; exact h4
          go_enter Tryz.func6, Tryz.ntmps6
          go_wp2_with fail
          go_ret
          exact ⟨(Fr.refl _ w).alloc _, .inr ⟨rfl, .inl ⟨by omega, h2, by rw [← ByteArray.toList_eq]; exact h3⟩⟩⟩
        · have h4b : (e == 0) = false := by rw [beq_eq_false_iff_ne]; exact h4
          go_enter Tryz.func6, Tryz.ntmps6
          go_wp2_with fail
          go_ret
          exact ⟨(Fr.refl _ w).alloc _, .inl rfl⟩
      · have h3b : (s.toList == [48]) = false := by rw [beq_eq_false_iff_ne]; exact h3
        go_enter Tryz.func6, Tryz.ntmps6
        go_wp2_with fail
        go_ret
        exact ⟨(Fr.refl _ w).alloc _, .inl rfl⟩
    · go_enter Tryz.func6, Tryz.ntmps6
      go_wp2_with fail
      go_ret
      exact ⟨(Fr.refl _ w).alloc _, .inl rfl⟩
  · go_enter Tryz.func6, Tryz.ntmps6
    go_wp2_with fail
    go_ret
    exact ⟨(Fr.refl _ w).alloc _, .inl rfl⟩
end Go.Proofs.YtkfephcllglkkaaGreatDoor
namespace Go.Proofs.YtkfephcllglkkaaGreatDoor
open Go.RowKit

set_option maxRecDepth 100000 in
set_option maxHeartbeats 1000000 in
theorem clear_fin {w : World} {e : Int} {n : Bool} {s : ByteArray} :
    Calls Tryz.prog 6 #[.agg #[.int .i64 0, .bool n, .int .i32 e, .string s]] w fun e1 w' => Fr (fun _ _ => False) w w' ∧ (e1 = .returned (.bool false) ∨ (e1 = .returned (.bool true) ∧ ClearP 0 s)) := by
  by_cases c1 : s.size = 0
  · have hs : (s.toList == []) = true := by
      rw [ByteArray.toList_eq, beq_iff_eq]; exact List.eq_nil_of_length_eq_zero c1
    go_enter Tryz.func6, Tryz.ntmps6
    go_wp2_with fail
    go_ret
    exact ⟨(Fr.refl _ w).alloc _, .inl rfl⟩
  have hs : (s.toList == []) = false := by
    rw [ByteArray.toList_eq, beq_eq_false_iff_ne]; intro k
    exact c1 (by have : s.data.toList.length = s.size := rfl
                 rw [k] at this; exact this.symm)
  by_cases c2 : s.size ≤ 300
  case neg =>
    have c2' : (300 : Int) < (s.size : Int) := by omega
    go_enter Tryz.func6, Tryz.ntmps6
    go_wp2_with fail
    go_ret
    exact ⟨(Fr.refl _ w).alloc _, .inl rfl⟩
  have c2' : ¬ (300 : Int) < (s.size : Int) := by omega
  have hp : 0 < s.size := by omega
  have H : Hid (∀ w1, Calls Tryz.prog 13 #[.string s] w1 fun e1 w' => Fr (fun _ _ => False) w1 w' ∧ (e1 = .returned (.bool false) ∨ (e1 = .returned (.bool true) ∧ Digs s.data.toList))) := Lib.hid (fun w1 => only_any (by omega))
  have last : (s.size = 1 ∨ ∀ h : 0 < s.size, s[0] ≠ 48) → (¬ e < -2500) → (¬ e > 2500) → Calls Tryz.prog 6 #[.agg #[.int .i64 0, .bool n, .int .i32 e, .string s]] w fun e1 w' => Fr (fun _ _ => False) w w' ∧ (e1 = .returned (.bool false) ∨ (e1 = .returned (.bool true) ∧ ClearP 0 s)) := by
    intro hz c4 c5
    by_cases c3 : (1 : Int) < (s.size : Int)
    · have hz0 : (((s[0]).toNat : Int) == 48) = false := by
        rw [beq_eq_false_iff_ne]; intro k
        rcases hz with k1 | k1
        · omega
        · exact k1 hp (by apply UInt8.toNat_inj.1; have : (48 : UInt8).toNat = 48 := rfl
                          omega)
      have HZ := Aside.mk hz
      clear hz
      go_enter Tryz.func6, Tryz.ntmps6
      go_wp2_with fail
      refine (H.out _).mono ?_
      rintro e1 w2 ⟨k1, rfl | ⟨rfl, k2⟩⟩
      · have K := Aside.mk k1
        clear k1
        go_wp2_with fail
        go_ret
        exact ⟨((Fr.refl _ w).alloc _).trans K.out, .inl rfl⟩
      · have K := Aside.mk k1
        have K2 := Aside.mk k2
        clear k1 k2
        go_wp2_with fail
        go_ret
        exact ⟨((Fr.refl _ w).alloc _).trans K.out, .inr ⟨rfl, .inr ⟨rfl, K2.out, hp, c2, HZ.out⟩⟩⟩
    · have HZ := Aside.mk hz
      clear hz
      go_enter Tryz.func6, Tryz.ntmps6
      go_wp2_with fail
      refine (H.out _).mono ?_
      rintro e1 w2 ⟨k1, rfl | ⟨rfl, k2⟩⟩
      · have K := Aside.mk k1
        clear k1
        go_wp2_with fail
        go_ret
        exact ⟨((Fr.refl _ w).alloc _).trans K.out, .inl rfl⟩
      · have K := Aside.mk k1
        have K2 := Aside.mk k2
        clear k1 k2
        go_wp2_with fail
        go_ret
        exact ⟨((Fr.refl _ w).alloc _).trans K.out, .inr ⟨rfl, .inr ⟨rfl, K2.out, hp, c2, HZ.out⟩⟩⟩
  by_cases c3 : (1 : Int) < (s.size : Int)
  · by_cases hz : s[0] = 48
    · have hz0 : (((s[0]).toNat : Int) == 48) = true := by rw [hz]; rfl
      clear last H
      go_enter Tryz.func6, Tryz.ntmps6
      go_wp2_with fail
      go_ret
      exact ⟨(Fr.refl _ w).alloc _, .inl rfl⟩
    · have hz0 : (((s[0]).toNat : Int) == 48) = false := by
        rw [beq_eq_false_iff_ne]; intro k
        exact hz (by apply UInt8.toNat_inj.1; have : (48 : UInt8).toNat = 48 := rfl
                     omega)
      by_cases c4 : e < -2500
      · clear last H
        go_enter Tryz.func6, Tryz.ntmps6
        go_wp2_with fail
        go_ret
        exact ⟨(Fr.refl _ w).alloc _, .inl rfl⟩
      by_cases c5 : e > 2500
      · clear last H
        go_enter Tryz.func6, Tryz.ntmps6
        go_wp2_with fail
        go_ret
        exact ⟨(Fr.refl _ w).alloc _, .inl rfl⟩
      exact last (.inr (fun _ => hz)) c4 c5
  · by_cases c4 : e < -2500
    · clear last H
      go_enter Tryz.func6, Tryz.ntmps6
      go_wp2_with fail
      go_ret
      exact ⟨(Fr.refl _ w).alloc _, .inl rfl⟩
    by_cases c5 : e > 2500
    · clear last H
      go_enter Tryz.func6, Tryz.ntmps6
      go_wp2_with fail
      go_ret
      exact ⟨(Fr.refl _ w).alloc _, .inl rfl⟩
    exact last (.inl (by omega)) c4 c5
theorem clear_any {w : World} {f e : Int} {n : Bool} {s : ByteArray} :
    Calls Tryz.prog 6 #[.agg #[.int .i64 f, .bool n, .int .i32 e, .string s]] w fun e1 w' => Fr (fun _ _ => False) w w' ∧ (e1 = .returned (.bool false) ∨ (e1 = .returned (.bool true) ∧ ClearP f s)) := by
  by_cases h : f = 0
  · subst h; exact clear_fin
  · exact clear_inf h
end Go.Proofs.YtkfephcllglkkaaGreatDoor
namespace Go.Proofs.YtkfephcllglkkaaGreatDoor
open Go.RowKit

theorem two_t3 {w4 w5 : World} {z : Bool} {S D : Int} {t t' : TypeId} (k : Fr (fun _ _ => False) ((w4.alloc (.cells #[.bool z, .int .i64 S, .int .i64 D] t)).alloc (.cells #[.bool z, .int .i64 S, .int .i64 D] t')) w5) : T3 w5 w4.heap.size z S D ∧ T3 w5 (w4.heap.size + 1) z S D := by
  refine ⟨((T3.new z S D t).fr ((Fr.refl (fun _ _ => False) _).alloc _) (fun _ q => q)).fr k (fun _ q => q), ?_⟩
  have := (T3.new (w := w4.alloc (.cells #[.bool z, .int .i64 S, .int .i64 D] t)) z S D t').fr k (fun _ q => q)
  rw [World.size_alloc] at this
  exact this
theorem T3.eql {w : World} {b : Nat} {z : Bool} {S D : Int} (_ : T3 w b z S D) : (binOp .eql 27 (.agg #[.bool z, .int .i64 S, .int .i64 D]) (.agg #[.bool z, .int .i64 S, .int .i64 D])).run Tryz.prog w = .ok (.bool true) w := eql_told w z S D
set_option maxRecDepth 100000 in
set_option maxHeartbeats 2000000 in
theorem fnTell_end {w : World} {f e : Int} {n fz s0 : Bool} {s : ByteArray} {S D : Int} (g : Gv w) (hsm : s.size ≤ 300)
    (hZ : ∀ w1, Calls Tryz.prog 5 #[.agg #[.int .i64 f, .bool n, .int .i32 e, .string s]] w1 fun e1 w' => e1 = .returned (.bool true) ∧ Fr (fun _ _ => False) w1 w')
    (hC : Hid (∀ w1, Calls Tryz.prog 6 #[.agg #[.int .i64 f, .bool n, .int .i32 e, .string s]] w1 fun e1 w' => Fr (fun _ _ => False) w1 w' ∧ (e1 = .returned (.bool false) ∨ e1 = .returned (.bool true))))
    (hT : ∀ w1, Gv w1 → Calls Tryz.prog 8 #[.agg #[.int .i64 f, .bool n, .int .i32 e, .string s]] w1 fun e1 w' => e1 = .returned (.agg #[.bool (fz && s0), .int .i64 S, .int .i64 D]) ∧ Fr (fun _ _ => False) w1 w')
    (h1 : (f == 0) = fz) (h2 : (s.toList == [48]) = s0) (h3 : S = if (fz && s0) = true then 0 else if n = true then -1 else 1) (h4 : fz = true → D = s.size) :
    Calls Tryz.prog 3 #[.agg #[.int .i64 f, .bool n, .int .i32 e, .string s]] w fun e1 w' => e1 = .returned (.bool true) ∧ Fr (fun _ _ => False) w w' := by
  have hA : Hid (∀ w1, Fr (fun _ _ => False) w w1 → Calls Tryz.prog 7 #[] w1 fun e1 w2 => e1 = .returned (.bool true) ∧ Fr (fun _ _ => False) w1 w2) := Lib.hid (fun w1 q => alive (g.new q))
  have HZ := Lib.hid hZ
  have HT : Hid (∀ w1, Fr (fun _ _ => False) w w1 → Calls Tryz.prog 8 #[.agg #[.int .i64 f, .bool n, .int .i32 e, .string s]] w1 fun e1 w' => e1 = .returned (.agg #[.bool (fz && s0), .int .i64 S, .int .i64 D]) ∧ Fr (fun _ _ => False) w1 w') := Lib.hid (fun w1 q => hT w1 (g.new q))
  obtain ⟨w1, hw1⟩ : ∃ x, w.alloc (.cells #[.int .i64 f, .bool n, .int .i32 e, .string s] 23) = x := ⟨_, rfl⟩
  have B1 := D4.new (w := w) f e n s 23
  have F1 := (Fr.refl (fun _ _ => False) w).alloc (.cells #[.int .i64 f, .bool n, .int .i32 e, .string s] 23)
  rw [hw1] at B1 F1
  have HB := Aside.mk B1
  have HF := Aside.mk F1
  obtain ⟨d0, d1, d2, d3, _⟩ := E8.of B1
  clear hZ hT g B1 F1
  have h5 : (f != 0) = !fz := by rw [← h1]; rfl
  have hsz : (s.size : Int) ≤ 300 := by omega
  cases fz <;> cases s0 <;> cases n
  all_goals
    simp only [Bool.and_true, Bool.and_false, Bool.false_and, Bool.true_and, Bool.not_true, Bool.not_false, if_true, if_false, Bool.false_eq_true, forall_const] at h3 h4 h5 HT
    subst h3
    go_enter Tryz.func3, Tryz.ntmps3
    go_wp2_with fail
    refine (HZ.out _).mono ?_
    rintro e1 w2 ⟨rfl, k2⟩
    have B2 := HB.out.fr k2 (fun _ q => q)
    have K2 := Aside.mk (HF.out.trans k2)
    have HB2 := Aside.mk B2
    obtain ⟨d0, d1, d2, d3, _⟩ := E8.of B2
    clear k2 B2 HZ
    go_wp2_with fail
    refine (hC.out _).mono ?_
    rintro e1 w3 ⟨k3, rfl | rfl⟩
    · have K3 := Aside.mk (K2.out.trans k3)
      clear k3 hC
      go_wp2_with fail
      refine (hA.out _ K3.out).mono ?_
      rintro e1 w5 ⟨rfl, k5⟩
      have F5 := Aside.mk (K3.out.trans k5)
      clear k5
      go_wp2_with fail
      go_ret
      exact ⟨rfl, F5.out⟩
    have B3 := HB2.out.fr k3 (fun _ q => q)
    have K3 := Aside.mk (K2.out.trans k3)
    have HB3 := Aside.mk B3
    obtain ⟨d0, d1, d2, d3, _⟩ := E8.of B3
    clear k3 B3 hC
    go_wp2_with fail
    refine (HT.out _ K3.out).mono ?_
    rintro e1 w4 ⟨rfl, k4⟩
    have B4 := HB3.out.fr k4 (fun _ q => q)
    have K4 := Aside.mk (K3.out.trans k4)
    obtain ⟨d0, d1, d2, d3, _⟩ := E8.of B4
    have hlt := B4.c0.lt
    have hlt1 : w.heap.size < w4.heap.size + 1 := by omega
    have HB4 := Aside.mk B4
    clear k4 B4 HT
    go_wp2_with fail
    refine (hA.out _ ((K4.out.alloc _).alloc _)).mono ?_
    rintro e1 w5 ⟨rfl, k5⟩
    obtain ⟨t1, t2⟩ := two_t3 k5
    have t3 := t1.eql
    have a0 := t1.c0.cell
    have a1 := t1.c1.cell
    have a2 := t1.c2.cell
    have b0 := t2.c0.cell
    have b1 := t2.c1.cell
    have b2 := t2.c2.cell
    have F5 := Aside.mk (((K4.out.alloc _).alloc _).trans k5)
    clear t1 t2 k5 K4 hA HB4 hlt hlt1 d0 d1 d2 d3
    go_wp2_with fail
    go_ret
    exact ⟨rfl, F5.out⟩
theorem dsgn_eq (f : Int) (n : Bool) (X : Nat) : (dsgn f n X == 0) = (decide (f = 0) && decide (X = 0)) := by
  unfold dsgn
  by_cases h1 : f = 0 <;> by_cases h2 : X = 0 <;> cases n <;> simp [h1, h2]
theorem bl_digs {l : List UInt8} (h : Digs l) (hl : l.length ≤ 300) : bl (numOf l) ≤ 1100 := by
  have h1 := numOf_lt h
  have key : ∀ m, l.length ≤ 3 * m → 10 ^ l.length ≤ (2 ^ 10) ^ m := fun m hm => Nat.le_trans (Nat.pow_le_pow_right (by decide) hm) (by rw [Nat.pow_mul]; exact Nat.pow_le_pow_left (by decide) m)
  have k2 : ∀ m k, 10 * m ≤ k → (2 ^ 10) ^ m ≤ 2 ^ k := fun m k h => by rw [← Nat.pow_mul]; exact Nat.pow_le_pow_right (by decide) h
  exact (lt_two_iff _ 1100).1 (Nat.lt_of_lt_of_le (Nat.lt_of_lt_of_le h1 (key 100 hl)) (k2 100 1100 (by decide)))
set_option maxRecDepth 100000 in
theorem fnTell_big {w : World} {f e : Int} {n : Bool} {s : ByteArray} (h : ¬ s.size ≤ 2147483647) : Calls Tryz.prog 3 #[.agg #[.int .i64 f, .bool n, .int .i32 e, .string s]] w fun e1 w' => e1 = .returned (.bool true) ∧ Fr (fun _ _ => False) w w' := by
  have HZ := Lib.hid (fun w1 => zz_big (w := w1) (f := f) (e := e) (n := n) h)
  clear h
  go_enter Tryz.func3, Tryz.ntmps3
  go_wp2_with fail
  refine (HZ.out _).mono ?_
  rintro e1 w2 ⟨rfl, k2⟩
  have K2 := Aside.mk k2
  clear k2
  go_wp2_with fail
  go_ret
  exact ⟨rfl, ((Fr.refl _ w).alloc _).trans K2.out⟩
set_option maxRecDepth 100000 in
theorem fnTell_not {w : World} {f e : Int} {n : Bool} {s : ByteArray} (g : Gv w) (h : s.size ≤ 2147483647) (hn : ¬ ClearP f s) : Calls Tryz.prog 3 #[.agg #[.int .i64 f, .bool n, .int .i32 e, .string s]] w fun e1 w' => e1 = .returned (.bool true) ∧ Fr (fun _ _ => False) w w' := by
  have HZ := Lib.hid (fun w1 => zz_small (w := w1) (f := f) (e := e) (n := n) h)
  have hA : Hid (∀ w1, Fr (fun _ _ => False) w w1 → Calls Tryz.prog 7 #[] w1 fun e1 w2 => e1 = .returned (.bool true) ∧ Fr (fun _ _ => False) w1 w2) := Lib.hid (fun w1 q => alive (g.new q))
  have hC : Hid (∀ w1, Calls Tryz.prog 6 #[.agg #[.int .i64 f, .bool n, .int .i32 e, .string s]] w1 fun e1 w' => e1 = .returned (.bool false) ∧ Fr (fun _ _ => False) w1 w') := Lib.hid (fun w1 => by
    refine (clear_any (w := w1)).mono ?_
    rintro e1 w2 ⟨k, rfl | ⟨rfl, q⟩⟩
    · exact ⟨rfl, k⟩
    · exact absurd q hn)
  have B1 := D4.new (w := w) f e n s 23
  have F1 := (Fr.refl (fun _ _ => False) w).alloc (.cells #[.int .i64 f, .bool n, .int .i32 e, .string s] 23)
  have HB := Aside.mk B1
  have HF := Aside.mk F1
  clear h hn g B1 F1
  go_enter Tryz.func3, Tryz.ntmps3
  go_wp2_with fail
  refine (HZ.out _).mono ?_
  rintro e1 w2 ⟨rfl, k2⟩
  obtain ⟨d0, d1, d2, d3, _⟩ := E8.of (HB.out.fr k2 (fun _ q => q))
  have K2 := Aside.mk (HF.out.trans k2)
  clear k2 HZ
  go_wp2_with fail
  refine (hC.out _).mono ?_
  rintro e1 w3 ⟨rfl, k3⟩
  have K3 := Aside.mk (K2.out.trans k3)
  clear k3 hC
  go_wp2_with fail
  refine (hA.out _ K3.out).mono ?_
  rintro e1 w5 ⟨rfl, k5⟩
  have F5 := Aside.mk (K3.out.trans k5)
  clear k5
  go_wp2_with fail
  go_ret
  exact ⟨rfl, F5.out⟩
theorem fnTell_any {w : World} {f e : Int} {n : Bool} {s : ByteArray} (g : Gv w) : Calls Tryz.prog 3 #[.agg #[.int .i64 f, .bool n, .int .i32 e, .string s]] w fun e1 w' => e1 = .returned (.bool true) ∧ Fr (fun _ _ => False) w w' := by
  by_cases hz : s.size ≤ 2147483647
  case neg => exact fnTell_big hz
  by_cases hc : ClearP f s
  case neg => exact fnTell_not g hz hc
  have hC : Hid (∀ w1, Calls Tryz.prog 6 #[.agg #[.int .i64 f, .bool n, .int .i32 e, .string s]] w1 fun e1 w' => Fr (fun _ _ => False) w1 w' ∧ (e1 = .returned (.bool false) ∨ e1 = .returned (.bool true))) := Lib.hid (fun w1 => by
    refine (clear_any (w := w1)).mono ?_
    rintro e1 w2 ⟨k, rfl | ⟨rfl, q⟩⟩
    · exact ⟨k, .inl rfl⟩
    · exact ⟨k, .inr rfl⟩)
  have hd : Digs s.data.toList ∧ 0 < s.size ∧ s.size ≤ 300 ∧ (1 ≤ f ∧ f ≤ 3 ∧ s.data.toList = [48] ∨ f = 0 ∧ ndig (numOf s.data.toList) = s.size) ∧ (numOf s.data.toList = 0 ↔ s.data.toList = [48]) := by
    have hsl : s.data.toList.length = s.size := rfl
    rcases hc with ⟨h1, h2, h3⟩ | ⟨h1, h2, h3, h4, h5⟩
    · refine ⟨by rw [h3]; intro c hc; simp at hc; subst hc; decide, by rw [← hsl, h3]; decide, by rw [← hsl, h3]; decide, .inl ⟨h1, h2, h3⟩, by rw [h3]; decide⟩
    · have hne : s.data.toList ≠ [] := by intro k; rw [k] at hsl; simp at hsl; omega
      have ht := natText_numOf h2 hne (by
        rcases h5 with k | k
        · exact .inl (by omega)
        · exact .inr (fun hp => by have := k (by omega); simpa [ByteArray.getElem_eq_getElem_data] using this))
      refine ⟨h2, h3, h4, .inr ⟨h1, by rw [← natText_length, ht]; exact hsl⟩, fun k => by rw [k, natText_zero] at ht; exact ht.symm, fun k => by rw [k]; decide⟩
  obtain ⟨hdg, hp, h300, hcase, hzero⟩ := hd
  have hT : ∀ (fz s0 : Bool), (decide (f = 0)) = fz → (s.toList == [48]) = s0 → ∀ w1, Gv w1 → Calls Tryz.prog 8 #[.agg #[.int .i64 f, .bool n, .int .i32 e, .string s]] w1 fun e1 w' => e1 = .returned (.agg #[.bool (fz && s0), .int .i64 (if (fz && s0) = true then 0 else if n = true then -1 else 1), .int .i64 (ndig (numOf s.data.toList) : Nat)]) ∧ Fr (fun _ _ => False) w1 w' := by
    intro fz s0 q1 q2 w1 g1
    obtain ⟨f', rfl⟩ : ∃ f' : Nat, f = f' := ⟨f.toNat, by omega⟩
    have := tell_any (e := e) (n := n) (f := f') (by omega) g1 hdg hp (by omega) (bl_digs hdg h300)
    rw [dsgn_eq] at this
    have e0 : decide (numOf s.data.toList = 0) = s0 := by
      rw [← q2, ByteArray.toList_eq]
      by_cases k : s.data.toList = [48]
      · rw [decide_eq_true (hzero.2 k), k]; rfl
      · rw [decide_eq_false (fun q => k (hzero.1 q))]; symm; rw [beq_eq_false_iff_ne]; exact k
    rw [q1, e0] at this
    have e1 : dsgn (f' : Int) n (numOf s.data.toList) = if (fz && s0) = true then 0 else if n = true then -1 else 1 := by
      unfold dsgn
      rw [← q1, ← e0]
      simp
    rw [e1] at this
    exact this
  refine fnTell_end g h300 (fun w1 => zz_small hz) hC (hT _ _ rfl rfl) ?_ rfl rfl ?_
  · by_cases k : f = 0
    · subst k; rfl
    · rw [decide_eq_false k, beq_eq_false_iff_ne]; exact k
  · intro k
    have k0 : f = 0 := of_decide_eq_true k
    rcases hcase with q | q
    · omega
    · rw [q.2]
end Go.Proofs.YtkfephcllglkkaaGreatDoor
