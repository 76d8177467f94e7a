/- spec.Reduced of a finite decimal that is not 0. impl.Shorten: Reduce of a finite decimal that is not 0. -/
import Derived.Test.YtfhnkcdlphfbpaaGreatDoorS37Red2
import Derived.Test.YtfhnkcdlphfbpaaGreatDoorM33Eql
set_option linter.unusedSimpArgs false
set_option linter.unusedVariables false
namespace Go.Proofs.YtfhnkcdlphfbpaaGreatDoor
open Go.RowKit

theorem natText_ne48 {X : Nat} (h0 : X ≠ 0) : natText X ≠ [48] := by
  intro q
  have hl : ndig X = 1 := by have := natText_length X; rw [q] at this; exact this.symm
  have h1 := natText_get X 0 (by omega)
  have h2 : (natText X)[0]'(by rw [natText_length]; omega) = 48 := by simp [q]
  have h3 := dg_top h0
  have h5 : ndig X - 1 - 0 = ndig X - 1 := rfl
  have h4 : (48 : UInt8).toNat = 48 := rfl
  rw [h2, h4, h5] at h1
  omega
/-- The text without its last k digits. -/
def rtx (X k : Nat) : ByteArray := mk ((natText X).take (ndig X - k))
theorem rtx_zero (X : Nat) : rtx X 0 = mk (natText X) := by
  unfold rtx
  rw [Nat.sub_zero, List.take_of_length_le (by rw [natText_length]; omega)]
theorem rtx_size {X k : Nat} : (rtx X k).size = ndig X - k := by
  unfold rtx
  rw [mk_size, List.length_take, natText_length]; omega
theorem rtx_step {X k m : Nat} (h : ndig X - k = m + 1) : (rtx X k).extract 0 m = rtx X (k + 1) := by
  unfold rtx
  rw [mk_extract, List.drop_zero, List.take_take]
  congr 2
  omega
theorem rtx_byte {X k m : Nat} (h : ndig X - k = m + 1) (hm : m < (rtx X k).size) : ((rtx X k)[m]).toNat = 48 + dg X k := by
  have e : (rtx X k)[m] = (natText X)[m]'(by rw [natText_length]; omega) := by
    have e1 : (rtx X k)[m] = ((natText X).take (ndig X - k))[m]'(by rw [List.length_take, natText_length]; omega) := rfl
    rw [e1, List.getElem_take]
  rw [e, natText_get X m (by omega)]
  congr 2
  omega
theorem rtx_tz {X : Nat} (h0 : X ≠ 0) : rtx X (tz X) = mk (natText (X / 10 ^ tz X)) := by
  unfold rtx
  rw [natText_div (tz_lt h0)]
theorem D4.step {w : World} {b : Nat} {f e e' : Int} {n : Bool} {s s' : ByteArray} (h : D4 w b f n e s) : D4 ((w.setCell ⟨b, 3, none⟩ (.string s')).setCell ⟨b, 2, none⟩ (.int .i32 e')) b f n e' s' :=
  ⟨(h.c0.other b 3 _ (by omega)).other b 2 _ (by omega), (h.c1.other b 3 _ (by omega)).other b 2 _ (by omega), (h.c2.other b 3 _ (by omega)).set _, (h.c3.set _).other b 2 _ (by omega)⟩
theorem D4.step_oth {w : World} {b p : Nat} {f e : Int} {n : Bool} {s : ByteArray} (h : D4 w b f n e s) (hne : p ≠ b) (v v' : Value) : D4 ((w.setCell ⟨p, 3, none⟩ v).setCell ⟨p, 2, none⟩ v') b f n e s :=
  ⟨(h.c0.other p 3 _ (.inl hne)).other p 2 _ (.inl hne), (h.c1.other p 3 _ (.inl hne)).other p 2 _ (.inl hne), (h.c2.other p 3 _ (.inl hne)).other p 2 _ (.inl hne), (h.c3.other p 3 _ (.inl hne)).other p 2 _ (.inl hne)⟩
set_option maxRecDepth 100000 in
theorem reduced_results {W : World} {p : Nat} {f e k : Int} {n : Bool} {s : ByteArray} (hP : D4 W p f n e s) (tmps : Array Value) (h2 : tmps.getD 2 undef = .pointer (some ⟨p, 0, none⟩)) (h3 : tmps.getD 3 undef = .int .i64 k) :
    (results Tryz.f26 tmps).run Tryz.prog W = .ok (.tuple #[.agg #[.int .i64 f, .bool n, .int .i32 e, .string s], .int .i64 k]) W := by
  obtain ⟨s0, s1, s2, s3, _⟩ := E8.of hP
  simp only [Array.getD_eq_getD_getElem?] at h2 h3
  simp [results, Tryz.results26, go_sem, s0, s1, s2, s3, h2, h3]
set_option maxRecDepth 100000 in
set_option maxHeartbeats 2000000 in
theorem reduced_any {w : World} {e : Int} {n : Bool} {X : Nat} (h0 : X ≠ 0) (hnd : ndig X ≤ 1000) (he0 : -100000 ≤ e) (he1 : e ≤ 100000) :
    Calls Tryz.prog 26 #[.agg #[.int .i64 0, .bool n, .int .i32 e, .string (mk (natText X))]] w fun ex w' =>
      ex = .returned (.tuple #[.agg #[.int .i64 0, .bool n, .int .i32 (e + (tz X : Nat)), .string (mk (natText (X / 10 ^ tz X)))], .int .i64 (tz X : Nat)]) ∧ Fr (fun _ _ => False) w w' := by
  obtain ⟨sz, hsz⟩ : ∃ x, w.heap.size = x := ⟨_, rfl⟩
  obtain ⟨w1, hw1⟩ : ∃ z, (w.alloc (.cells #[.int .i64 0, .bool n, .int .i32 e, .string (mk (natText X))] 23)).alloc (.cells #[.int .i64 0, .bool false, .int .i32 0, .string ⟨#[]⟩] 23) = z := ⟨_, rfl⟩
  have F1 : Fr (fun _ _ => False) w w1 := by rw [← hw1]; exact (((Fr.refl _ w).alloc _).alloc _)
  have cd : D4 w1 sz 0 n e (mk (natText X)) := by
    rw [← hw1, ← hsz]; exact (D4.new (w := w) 0 e n (mk (natText X)) 23).fr ((Fr.refl (fun _ _ => False) _).alloc _) (fun _ q => q)
  have cs : D4 w1 (sz + 1) 0 false 0 ⟨#[]⟩ := by
    have := (D4.new (w := w.alloc (.cells #[.int .i64 0, .bool n, .int .i32 e, .string (mk (natText X))] 23)) 0 0 false ⟨#[]⟩ 23)
    rw [hw1, World.size_alloc, hsz] at this; exact this
  obtain ⟨d0, d1, d2, d3, _⟩ := E8.of cd
  have H := Aside.mk (And.intro F1 (And.intro cd cs))
  have HX := Aside.mk (And.intro h0 hnd)
  have qs : ((mk (natText X)).toList == [48]) = false := by
    rw [ByteArray.toList_eq, mk_toList, beq_eq_false_iff_ne]
    exact natText_ne48 h0
  clear h0 hnd F1 cd cs
  go_enter Tryz.func26, Tryz.ntmps26
  go_wp2_with fail
  have HSZ := Aside.mk hsz
  clear hw1 hsz d0 d1 d2 d3 qs
  go_loopw [4] (fun kv wr => ∃ k : Nat, kv = .int .i64 (k : Nat) ∧ k ≤ tz X ∧ Aside (D4 wr sz 0 n (e + k) (rtx X k) ∧ D4 wr (sz + 1) 0 false 0 ⟨#[]⟩ ∧ Fr (fun b _ => b = sz) w1 wr)) (fun kv _ => tz X - (intOf kv).toNat)
  case atStart => exact ⟨0, rfl, Nat.zero_le _, ⟨by rw [rtx_zero]; simpa using H.out.2.1, H.out.2.2, Fr.refl _ _⟩⟩
  case round =>
    obtain ⟨k, rfl, hk, hD⟩ := hrel
    obtain ⟨d0, d1, d2, d3, d4, d5, d6, d7⟩ := E8.of hD.out.1
    have htl := tz_lt HX.out.1
    obtain ⟨m, hm⟩ : ∃ m, ndig X - k = m + 1 := ⟨ndig X - k - 1, by omega⟩
    have hnd := HX.out.2
    have hsize : (rtx X k).size = m + 1 := by rw [rtx_size, hm]
    have hlt : m < (rtx X k).size := by omega
    have hix : IntKind.i64.wrap (((rtx X k).size : Int) - 1) = (m : Int) := by rw [hsize, IntKind.wrap_i64]; omega
    have hb := rtx_byte hm hlt
    have hst := rtx_step hm
    have hwe : IntKind.i32.wrap (e + (k : Int) + 1) = e + ((k : Int) + 1) := by rw [IntKind.wrap_i32]; omega
    have hk9 : k < 1000 := by omega
    have HM := Aside.mk (And.intro hm (And.intro hsize hst))
    by_cases hkt : k < tz X
    · have hq : ((((rtx X k)[m]).toNat : Int) == 48) = true := by rw [hb, tz_below k hkt]; rfl
      clear hnd hm hsize hb hst htl
      go_wp2_with fail
      go_region
      all_goals
        go_wp2_with fail
        go_roundw
        case rel =>
          refine ⟨k + 1, by go_num, by omega, ⟨?_, ?_, ?_⟩⟩
          · rw [← HM.out.2.2, show ((k + 1 : Nat) : Int) = (k : Int) + 1 from rfl]
            exact D4.drew hD.out.1.step
          · exact D4.drew (hD.out.2.1.step_oth (by omega) _ _)
          · exact ((hD.out.2.2.setCell sz 3 _ (fun _ => rfl)).setCell sz 2 _ (fun _ => rfl)).drew
        case measure => simp [intOf]; omega
    · have hke : k = tz X := by omega
      subst hke
      have hq : ((((rtx X (tz X))[m]).toNat : Int) == 48) = false := by
        rw [hb, beq_eq_false_iff_ne]
        have := tz_at HX.out.1
        omega
      obtain ⟨m0, m1, m2, m3, m4, m5, m6, m7⟩ := E8.of hD.out.2.1
      clear hnd hm hsize hb hst htl hkt hwe
      go_wp2_with fail
      have F1 := H.out.1.trans' hD.out.2.2 (U := fun b _ => b = sz ∨ b = sz + 1) (fun _ _ _ q => q.elim) (fun _ _ _ q => .inl q)
      have P := hD.out.2.1.put (f' := 0) (n' := n) (e' := e + (tz X : Nat)) (s' := rtx X (tz X))
      with_reducible refine bodyPost_ret (reduced_results (k := ((tz X : Nat) : Int)) P _ ?_ ?_) ?_ ⟨?_, ?_⟩
      · rfl
      · rfl
      · rfl
      · rw [rtx_tz HX.out.1]
      · refine Fr.mono (S := fun b _ => b = sz ∨ b = sz + 1) ?_ (fun x y hx q => by have := HSZ.out; rcases q with q | q <;> omega)
        repeat' (first | exact F1 | refine Fr.setCell ?_ _ _ _ (fun q => .inr rfl))
end Go.Proofs.YtfhnkcdlphfbpaaGreatDoor
namespace Go.Proofs.YtfhnkcdlphfbpaaGreatDoor
open Go.RowKit

theorem reduce_any {w : World} {b b' : Nat} {f : Int} {n n' : Bool} {e e' : Int} {a a' : Option Addr} {c c' X X' : Nat} (g : Gl w) (h : DA w b f n e a c X') (h' : DA w b' 0 n' e' a' c' X) (hap : DAp b a c b' a' c')
    (h0 : X ≠ 0) (hnl : nlen X < 1000) (hnd : ndig X ≤ 100000) (he0 : -100000 ≤ e') (he1 : e' ≤ 100000) :
    Calls Tryz.prog 51 #[.pointer (some ⟨b, 0, none⟩), .pointer (some ⟨b', 0, none⟩)] w fun ex w' => ∃ a2 c2, ex = .returned (.tuple #[.pointer (some ⟨b, 0, none⟩), .int .i64 (tz X : Nat)]) ∧
      Aside (DA w' b 0 n' (e' + (tz X : Nat)) a2 c2 (X / 10 ^ tz X) ∧ Fr (dfoot b a c) w w' ∧ Out w a c a2 c2) := by
  by_cases hB : X < B
  · exact reduce_small g.size h h' hap h0 hB he0 he1
  · exact reduce_big g h h' hap (by omega) hnl hnd he0 he1
theorem Sm.div {X : Nat} (h : Sm X) (k : Nat) : Sm (X / k) := by
  unfold Sm at *
  exact Nat.lt_of_le_of_lt (Nat.div_le_self _ _) h
theorem outnew' {w w' : World} {a : Option Addr} {c : Nat} (h : Out w' none 0 a c) (hs : w.heap.size ≤ w'.heap.size) : ∀ x y, foot a c x y → w.heap.size ≤ x := fun x y k => by
  rcases h with ⟨rfl, rfl⟩ | ⟨b, o, rfl, hb⟩
  · exact (foot_none _ _ _ k).elim
  · rw [foot_some] at k; omega
set_option maxRecDepth 100000 in
set_option maxHeartbeats 2000000 in
theorem shorten1_any {w : World} {pd pc pn : Nat} {e : Int} {n : Bool} {s : ByteArray} (g : Gv w) (hd : D4 w pd 0 n e s) (hc : D4 w pc 0 false 0 ⟨#[]⟩) (hk : Cl w pn 0 (.int .i64 0)) (hcn : pc ≠ pn) (hsz : pd < w.heap.size)
    (hdg : Digs s.data.toList) (h0 : 0 < s.size) (hs : s.size ≤ 300) (hX0 : numOf s.data.toList ≠ 0) (he0 : -2500 ≤ e) (he1 : e ≤ 2500) :
    Calls Tryz.prog 50 #[.pointer (some ⟨pd, 0, none⟩), .pointer (some ⟨pc, 0, none⟩), .pointer (some ⟨pn, 0, none⟩)] w fun e1 w' =>
      e1 = .returned (.tuple #[]) ∧ D4 w' pc 0 n (e + (tz (numOf s.data.toList) : Nat)) (mk (natText (numOf s.data.toList / 10 ^ tz (numOf s.data.toList)))) ∧ Cl w' pn 0 (.int .i64 (tz (numOf s.data.toList) : Nat)) ∧ Fr (fun b _ => b = pc ∨ b = pn) w w' := by
  obtain ⟨X, hX⟩ : ∃ X, numOf s.data.toList = X := ⟨_, rfl⟩
  have hsm : Sm X := by rw [← hX]; exact sm_digs hdg (by have : s.data.toList.length = s.size := rfl; omega)
  have hnl := sm_len hsm
  have hnd : ndig X ≤ 100000 := by
    have := numOf_lt hdg
    rw [hX] at this
    have h2 := ndig_le hX0
    rw [hX] at h2
    have : (10 : Nat) ^ (ndig X - 1) < 10 ^ s.data.toList.length := Nat.lt_of_le_of_lt h2 this
    have := (Nat.pow_lt_pow_iff_right (by decide : 1 < 10)).1 this
    have : s.data.toList.length = s.size := rfl
    omega
  rw [hX] at hX0 ⊢
  have HR : Hid (Calls Tryz.prog 34 #[.agg #[.int .i64 0, .bool n, .int .i32 e, .string s]] (w.alloc (.cells #[.int .i8 0, .bool false, .int .i32 0, .bool false, .slice none 0 0] 68)) fun e1 w2 => ∃ p, e1 = .returned (.pointer (some ⟨p, 0, none⟩)) ∧
      Hid (Calls Tryz.prog 51 #[.pointer (some ⟨w.heap.size, 0, none⟩), .pointer (some ⟨p, 0, none⟩)] w2 fun e1 w4 => e1 = .returned (.tuple #[.pointer (some ⟨w.heap.size, 0, none⟩), .int .i64 (tz X : Nat)]) ∧
        Hid (Calls Tryz.prog 36 #[.pointer (some ⟨w.heap.size, 0, none⟩)] w4 fun e1 w5 => e1 = .returned (.agg #[.int .i64 0, .bool n, .int .i32 (e + (tz X : Nat)), .string (mk (natText (X / 10 ^ tz X)))]) ∧ E8 w5 pc 0 false 0 ⟨#[]⟩ ∧ (w5.cell? ⟨pn, 0, none⟩ = some (.int .i64 0) ∧ w5.frozen? ⟨pn, 0, none⟩ = false) ∧ Aside (Fr (fun _ _ => False) w w5)))) := Lib.hid (by
    have z0 := DA.new (w := w) g.g.size 68 0 false 0
    have f0 := (Fr.refl (fun _ _ => False) w).alloc (.cells #[.int .i8 0, .bool false, .int .i32 0, .bool false, .slice none 0 0] 68)
    refine (dec_any 0 (by omega) (g.new f0) hdg h0 (by omega)).mono ?_
    rintro e1 w2 ⟨p, a, c, rfl, k1, k2, k3, k4⟩
    rw [hX] at k1
    have z2 := z0.fr k2 (fun _ _ _ q => q)
    have g2 := (g.new f0).new k2
    have hfar := outnew' k4 (Nat.le_refl _)
    have hs1 : (w.alloc (.cells #[.int .i8 0, .bool false, .int .i32 0, .bool false, .slice none 0 0] 68)).heap.size = w.heap.size + 1 := by simp
    refine ⟨p, rfl, Lib.hid ?_⟩
    refine (reduce_any g2.g z2 k1 (fun x y q1 q2 => by
      have e1 : x = w.heap.size := by
        rcases q1 with q | q
        · exact q
        · exact (foot_none _ _ _ q).elim
      rcases q2 with q | q
      · omega
      · have := hfar x y q; omega) hX0 (by omega) hnd (by omega) (by omega)).mono ?_
    rintro e1 w4 ⟨a2, c2, rfl, k⟩
    obtain ⟨k5, k6, k7⟩ := k.out
    have f4 : Fr (fun _ _ => False) w w4 := (f0.trans k2).trans' k6 (fun _ _ _ k => k) (fun x y hx q => by
      rcases q with q | q
      · omega
      · exact foot_none _ _ _ q)
    refine ⟨rfl, Lib.hid ?_⟩
    refine (plain_any 0 (by omega) (g.new f4) k5 (hsm.div _)).mono ?_
    rintro e1 w5 ⟨rfl, k8⟩
    have f5 := f4.trans k8
    have n5 := hk.fr f5 (fun q => q)
    exact ⟨rfl, E8.of (hc.fr f5 (fun _ q => q)), ⟨n5.cell, n5.free⟩, ⟨f5⟩⟩)
  have f0 := (Fr.refl (fun _ _ => False) w).alloc (.cells #[.int .i8 0, .bool false, .int .i32 0, .bool false, .slice none 0 0] 68)
  obtain ⟨d0, d1, d2, d3, _⟩ := E8.of (hd.fr f0 (fun _ q => q))
  have HC := Aside.mk hc
  have HK := Aside.mk hk
  have HL := Aside.mk hcn
  clear hd hc hk hcn g hdg h0 hs hX hsm hX0 hnl hnd he0 he1 f0
  go_enter Tryz.func50, Tryz.ntmps50
  go_wp2_with fail
  refine HR.out.mono ?_
  rintro e1 w2 ⟨p, rfl, q1⟩
  clear HR
  go_wp2_with fail
  refine q1.out.mono ?_
  rintro e1 w4 ⟨rfl, q2⟩
  clear q1
  go_wp2_with fail
  refine q2.out.mono ?_
  rintro e1 w5 ⟨rfl, ⟨c0, c1, c2, c3, c4, c5, c6, c7⟩, ⟨m0, m1⟩, q6⟩
  clear q2
  have hcn := HL.out
  have hcn1 : ¬ pc = pn := hcn
  have hcn2 : ¬ pn = pc := fun q => hcn q.symm
  go_wp2_with fail
  go_end0
  have hc5 := HC.out.fr q6.out (fun _ q => q)
  have hk5 := HK.out.fr q6.out (fun q => q)
  refine ⟨rfl, ?_, ?_, ?_⟩
  · exact (hc5.put (f' := 0) (n' := n) (e' := e + (tz X : Nat)) (s' := mk (natText (X / 10 ^ tz X)))).fr ((Fr.refl (fun b _ => b = pn) _).setCell pn 0 _ (fun _ => rfl)) (fun _ q => hcn q)
  · exact ((((hk5.other pc 0 _ (.inl hcn)).other pc 1 _ (.inl hcn)).other pc 2 _ (.inl hcn)).other pc 3 _ (.inl hcn)).set _
  · have F5 := q6.out.mono (T := fun b _ => b = pc ∨ b = pn) (fun _ _ _ k => k.elim)
    repeat' (first | exact F5 | refine Fr.setCell ?_ _ _ _ (fun q => by first | exact .inl rfl | exact .inr rfl))
theorem enter_shorten1 (caps : Array Value) (w : World) : (callFunc 50 caps).run Tryz.prog w = .ok (.enter 50 caps) w := by kernel_rfl
set_option maxRecDepth 100000 in
theorem shorten_results {W : World} {p q : Nat} {f e k : Int} {n : Bool} {s : ByteArray} (hP : D4 W p f n e s) (hM : Cl W q 0 (.int .i64 k)) (tmps : Array Value) (h4 : tmps.getD 2 undef = .pointer (some ⟨p, 0, none⟩)) (h5 : tmps.getD 3 undef = .pointer (some ⟨q, 0, none⟩)) :
    (results Tryz.f25 tmps).run Tryz.prog W = .ok (.tuple #[.agg #[.int .i64 f, .bool n, .int .i32 e, .string s], .int .i64 k]) W := by
  obtain ⟨s0, s1, s2, s3, _⟩ := E8.of hP
  have m0 := hM.cell
  simp only [Array.getD_eq_getD_getElem?] at h4 h5
  simp [results, Tryz.results25, go_sem, s0, s1, s2, s3, m0, h4, h5]
set_option maxRecDepth 100000 in
set_option maxHeartbeats 1000000 in
theorem shorten_any {w : World} {e : Int} {n : Bool} {s : ByteArray} (g : Gv w) (hdg : Digs s.data.toList) (h0 : 0 < s.size) (hs : s.size ≤ 300) (hX0 : numOf s.data.toList ≠ 0) (he0 : -2500 ≤ e) (he1 : e ≤ 2500) :
    Calls Tryz.prog 25 #[.agg #[.int .i64 0, .bool n, .int .i32 e, .string s]] w fun e1 w' => e1 = .returned (.tuple #[.agg #[.int .i64 0, .bool n, .int .i32 (e + (tz (numOf s.data.toList) : Nat)), .string (mk (natText (numOf s.data.toList / 10 ^ tz (numOf s.data.toList))))], .int .i64 (tz (numOf s.data.toList) : Nat)]) ∧ Fr (fun _ _ => False) w w' := by
  have hG := g.g.size
  have hm := hmf
  obtain ⟨sz, hsz⟩ : ∃ x, w.heap.size = x := ⟨_, rfl⟩
  obtain ⟨w1, hw1⟩ : ∃ z, ((w.alloc (.cells #[.int .i64 0, .bool n, .int .i32 e, .string s] 23)).alloc (.cells #[.int .i64 0, .bool false, .int .i32 0, .string ⟨#[]⟩] 23)).alloc (.cells #[.int .i64 0] 3) = z := ⟨_, rfl⟩
  have F1 : Fr (fun _ _ => False) w w1 := by rw [← hw1]; exact ((((Fr.refl _ w).alloc _).alloc _).alloc _)
  have hs1 : w1.heap.size = sz + 3 := by rw [← hw1, ← hsz]; simp
  have cd : D4 w1 sz 0 n e s := by
    rw [← hw1, ← hsz]; exact (D4.new (w := w) 0 e n s 23).fr (((Fr.refl (fun _ _ => False) _).alloc _).alloc _) (fun _ q => q)
  have cs : D4 w1 (sz + 1) 0 false 0 ⟨#[]⟩ := by
    have := (D4.new (w := w.alloc (.cells #[.int .i64 0, .bool n, .int .i32 e, .string s] 23)) 0 0 false ⟨#[]⟩ 23).fr ((Fr.refl (fun _ _ => False) _).alloc (.cells #[.int .i64 0] 3)) (fun _ q => q)
    rw [hw1, World.size_alloc, hsz] at this; exact this
  have cm : Cl w1 (sz + 2) 0 (.int .i64 0) := by
    have := Cl.new (w := (w.alloc (.cells #[.int .i64 0, .bool n, .int .i32 e, .string s] 23)).alloc (.cells #[.int .i64 0, .bool false, .int .i32 0, .string ⟨#[]⟩] 23)) (by simp; omega) (.int .i64 0) 3
    rw [hw1, World.size_alloc, World.size_alloc, hsz] at this; exact this
  have a1 := (Fr.refl (fun _ _ => False) w1).alloc (.cells #[.bool false] 4)
  obtain ⟨X, hX⟩ : ∃ X, numOf s.data.toList = X := ⟨_, rfl⟩
  have hS : Hid (Calls Tryz.prog 32 #[.func (.func 50) #[] #[.pointer (some ⟨sz, 0, none⟩), .pointer (some ⟨sz + 1, 0, none⟩), .pointer (some ⟨sz + 2, 0, none⟩)]] w1 fun e1 w' =>
      e1 = .returned (.bool true) ∧ Aside (D4 w' (sz + 1) 0 n (e + (tz X : Nat)) (mk (natText (X / 10 ^ tz X))) ∧ Cl w' (sz + 2) 0 (.int .i64 (tz X : Nat)) ∧ Fr (fun _ _ => False) w w')) := Lib.hid (by
    have hp := shorten1_any (g.new (F1.trans a1)) (cd.fr a1 (fun _ q => q)) (cs.fr a1 (fun _ q => q)) (cm.fr a1 (fun q => q)) (by omega) (by have := a1.size; omega) hdg h0 hs hX0 he0 he1
    rw [hX] at hp
    refine (safe_any (P := fun w' => D4 w' (sz + 1) 0 n (e + (tz X : Nat)) (mk (natText (X / 10 ^ tz X))) ∧ Cl w' (sz + 2) 0 (.int .i64 (tz X : Nat)) ∧ Fr (fun _ _ => False) w w') 50 _ w1 (enter_shorten1 _) (hp.mono ?_)).mono ?_
    · rintro e w' ⟨rfl, k1, k2, k3⟩
      have hnew := Cl.new (w := w1) (by rw [hs1]; omega) (.bool false) 4
      have h4 := hnew.fr k3 (by rw [hs1]; omega)
      exact ⟨rfl, h4.cell, h4.free, k1, k2, (F1.trans a1).trans' k3 (fun _ _ _ k => k) (fun x y hx k => by rw [hsz] at hx; omega)⟩
    · rintro e w' ⟨rfl, w2, ⟨k1, k2, k3⟩, rfl⟩
      have f2 := ((Fr.refl (fun x _ => x = w1.heap.size) w2).setCell w1.heap.size 0 (.bool true) (fun _ => rfl)).setCell w1.heap.size 0 (.bool true) (fun _ => rfl)
      exact ⟨rfl, ⟨k1.fr f2 (fun _ => by rw [hs1]; omega), k2.fr f2 (by rw [hs1]; omega), k3.trans' f2 (fun _ _ _ k => k) (fun x y hx k => by rw [hsz] at hx; rw [hs1] at k; omega)⟩⟩)
  rw [hX]
  clear hdg h0 hs g F1 a1 cd cs cm hs1 hX0 hX he0 he1
  go_enter Tryz.func25, Tryz.ntmps25
  go_wp2_with fail
  try rw [show sz + 1 + 1 = sz + 2 from rfl]
  have HSZ := Aside.mk hsz
  clear hw1 hsz hG
  refine hS.out.mono ?_
  rintro e1 w2 ⟨rfl, hA⟩
  obtain ⟨s0, s1, s2, s3, s4, s5, s6, s7⟩ := E8.of hA.out.1
  have m0 := hA.out.2.1.cell
  have m1 := hA.out.2.1.free
  clear hS
  go_wp2_with fail
  go_region
  clear s0 s1 s2 s3 s4 s5 s6 s7 m0 m1
  all_goals
    go_wp2_with fail
    have P := D4.drew ((hA.out.1.put (f' := 0) (n' := n) (e' := e + (tz X : Nat)) (s' := mk (natText (X / 10 ^ tz X)))).fr ((Fr.refl (fun b _ => b = sz + 2) _).setCell (sz + 2) 0 (.int .i64 (tz X : Nat)) (fun _ => rfl)) (fun _ q => by omega))
    have M := ((((((hA.out.2.1.other (sz + 1) 0 (.int .i64 0) (by omega)).other (sz + 1) 1 (.bool n) (by omega)).other (sz + 1) 2 (.int .i32 (e + (tz X : Nat))) (by omega)).other (sz + 1) 3 (.string (mk (natText (X / 10 ^ tz X)))) (by omega)).set (.int .i64 (tz X : Nat)))).fr ((Fr.refl (fun _ _ => False) _).drew) (fun q => q)
    have hfr := hA.out.2.2
    have R : Fr (fun _ _ => False) w _ := (((((hfr.setCell (sz + 1) 0 (.int .i64 0) (fun q => by rw [HSZ.out] at q; omega)).setCell (sz + 1) 1 (.bool n) (fun q => by rw [HSZ.out] at q; omega)).setCell (sz + 1) 2 (.int .i32 (e + (tz X : Nat))) (fun q => by rw [HSZ.out] at q; omega)).setCell (sz + 1) 3 (.string (mk (natText (X / 10 ^ tz X)))) (fun q => by rw [HSZ.out] at q; omega)).setCell (sz + 2) 0 (.int .i64 (tz X : Nat)) (fun q => by rw [HSZ.out] at q; omega)).drew
    with_reducible refine bodyPost_ret (shorten_results P M _ ?_ ?_) ?_ ⟨rfl, R⟩
    all_goals rfl
end Go.Proofs.YtfhnkcdlphfbpaaGreatDoor
