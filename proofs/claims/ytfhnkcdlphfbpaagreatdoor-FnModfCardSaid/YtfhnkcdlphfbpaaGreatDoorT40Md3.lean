/- Decimal.Modf on all roads as one, of finite decimals into new ones. impl.Modf's closure: the whole part, the rest, each also alone. impl.Modf. -/
import Derived.Test.YtfhnkcdlphfbpaaGreatDoorT39Mod6
import Derived.Test.YtfhnkcdlphfbpaaGreatDoorM33Eql
set_option linter.unusedSimpArgs false
set_option linter.unusedVariables false
namespace Go.Proofs.YtfhnkcdlphfbpaaGreatDoor
open Go.RowKit

/-- The whole part and the rest: exponents and coefficients. -/
def mvE (e : Int) : Int := if 0 < e then e else 0
def mvF (e : Int) : Int := if 0 < e then 0 else e
def mvX (e : Int) (X : Nat) : Nat := if 0 < e then X else if (ndig X : Int) < -e then 0 else X / 10 ^ (-e).toNat
def mvY (e : Int) (X : Nat) : Nat := if 0 < e then 0 else if (ndig X : Int) < -e then X else X % 10 ^ (-e).toNat
theorem mv_up {e : Int} (h : 0 < e) (X : Nat) : mvE e = e ∧ mvF e = 0 ∧ mvX e X = X ∧ mvY e X = 0 := by
  unfold mvE mvF mvX mvY; simp [h]
theorem mv_lo {e : Int} {X : Nat} (h : ¬ 0 < e) (h2 : (ndig X : Int) < -e) : mvE e = 0 ∧ mvF e = e ∧ mvX e X = 0 ∧ mvY e X = X := by
  unfold mvE mvF mvX mvY; simp [h, h2]
theorem mv_mid {e : Int} {X : Nat} (h : ¬ 0 < e) (h2 : ¬ (ndig X : Int) < -e) : mvE e = 0 ∧ mvF e = e ∧ mvX e X = X / 10 ^ (-e).toNat ∧ mvY e X = X % 10 ^ (-e).toNat := by
  unfold mvE mvF mvX mvY; simp [h, h2]
theorem mvX_le (e : Int) (X : Nat) : mvX e X ≤ X := by
  unfold mvX
  split
  · exact Nat.le_refl _
  · split
    · exact Nat.zero_le _
    · exact Nat.div_le_self _ _
theorem mvY_le (e : Int) (X : Nat) : mvY e X ≤ X := by
  unfold mvY
  split
  · exact Nat.zero_le _
  · split
    · exact Nat.le_refl _
    · exact Nat.mod_le _ _
theorem dnone {b x y : Nat} (h : dfoot b none 0 x y) : x = b := by
  rcases h with q | q
  · exact q
  · exact absurd q (foot_none _ _ _)
theorem DAp.fresh {b1 b : Nat} {a : Option Addr} {c : Nat} (h : ∀ x y, dfoot b a c x y → x ≠ b1) : DAp b1 none 0 b a c := fun x y q1 q2 => h x y q2 (dnone q1)
theorem modf_two {w : World} {b b1 b2 : Nat} {n n1 n2 : Bool} {e e1 e2 : Int} {a : Option Addr} {c X X1 X2 : Nat} (g : Gl w) (h : DA w b 0 n e a c X) (h1 : DA w b1 0 n1 e1 none 0 X1) (h2 : DA w b2 0 n2 e2 none 0 X2)
    (he : -2500 ≤ e) (hd : ndig X ≤ 400) (hX : bl X ≤ 1100) (hn : nlen X < 1000) (ap1 : ∀ x y, dfoot b a c x y → x ≠ b1) (ap2 : ∀ x y, dfoot b a c x y → x ≠ b2) (ap12 : b1 ≠ b2) :
    Calls Tryz.prog 35 #[.pointer (some ⟨b, 0, none⟩), .pointer (some ⟨b1, 0, none⟩), .pointer (some ⟨b2, 0, none⟩)] w fun ex w' => ∃ a3 c3 a4 c4, ex = .returned (.tuple #[]) ∧
      Aside (DA w' b1 0 n (mvE e) a3 c3 (mvX e X) ∧ DA w' b2 0 n (mvF e) a4 c4 (mvY e X) ∧ Fr (fun x _ => x = b1 ∨ x = b2) w w' ∧ Out w none 0 a3 c3 ∧ Out w none 0 a4 c4) := by
  have hap12 : DAp b1 none 0 b2 none 0 := fun x y q1 q2 => ap12 ((dnone q1).symm.trans (dnone q2))
  have hfr : ∀ {w w' : World}, Fr (fun x y => dfoot b1 none 0 x y ∨ dfoot b2 none 0 x y) w w' → Fr (fun x _ => x = b1 ∨ x = b2) w w' := fun f => f.mono (fun _ _ _ q => q.elim (fun q => .inl (dnone q)) (fun q => .inr (dnone q)))
  by_cases h0 : 0 < e
  · obtain ⟨q1, q2, q3, q4⟩ := mv_up h0 X
    rw [q1, q2, q3, q4]
    refine (modf_whole g.size h h1 h2 h0 (.fresh ap1) (.fresh ap2) hap12 (by omega)).mono ?_
    rintro ex w' ⟨a3, c3, a4, c4, rfl, k⟩
    exact ⟨a3, c3, a4, c4, rfl, ⟨k.out.1, k.out.2.1, hfr k.out.2.2.1, k.out.2.2.2.1, k.out.2.2.2.2⟩⟩
  · by_cases h3 : (ndig X : Int) < -e
    · obtain ⟨q1, q2, q3, q4⟩ := mv_lo h0 h3
      rw [q1, q2, q3, q4]
      refine (modf_small g h h1 h2 (by omega) (by omega) h3 hX (.fresh ap1) (.fresh ap2) hap12 (by omega)).mono ?_
      rintro ex w' ⟨a3, c3, a4, c4, rfl, k⟩
      exact ⟨a3, c3, a4, c4, rfl, ⟨k.out.1, k.out.2.1, hfr k.out.2.2.1, k.out.2.2.2.1, k.out.2.2.2.2⟩⟩
    · obtain ⟨q1, q2, q3, q4⟩ := mv_mid h0 h3
      rw [q1, q2, q3, q4]
      refine (modf_div (m := (-e).toNat) g h h1 h2 (by omega) (by omega) (by omega) hX (.fresh ap1) (.fresh ap2) hap12 hn).mono ?_
      rintro ex w' ⟨a3, c3, a4, c4, rfl, k⟩
      exact ⟨a3, c3, a4, c4, rfl, ⟨k.out.1, k.out.2.1, hfr k.out.2.2.1, k.out.2.2.2.1, k.out.2.2.2.2.1⟩⟩
theorem modf_int {w : World} {b b1 : Nat} {n n1 : Bool} {e e1 : Int} {a : Option Addr} {c X X1 : Nat} (g : Gl w) (h : DA w b 0 n e a c X) (h1 : DA w b1 0 n1 e1 none 0 X1)
    (he : -2500 ≤ e) (hd : ndig X ≤ 400) (hX : bl X ≤ 1100) (hn : nlen X < 1000) (ap1 : ∀ x y, dfoot b a c x y → x ≠ b1) :
    Calls Tryz.prog 35 #[.pointer (some ⟨b, 0, none⟩), .pointer (some ⟨b1, 0, none⟩), .pointer none] w fun ex w' => ∃ a3 c3, ex = .returned (.tuple #[]) ∧
      Aside (DA w' b1 0 n (mvE e) a3 c3 (mvX e X) ∧ Fr (fun x _ => x = b1) w w' ∧ Out w none 0 a3 c3) := by
  have hfr : ∀ {w w' : World}, Fr (dfoot b1 none 0) w w' → Fr (fun x _ => x = b1) w w' := fun f => f.mono (fun _ _ _ q => dnone q)
  by_cases h0 : 0 < e
  · obtain ⟨q1, q2, q3, q4⟩ := mv_up h0 X
    rw [q1, q3]
    refine (modf_whole_i g.size h h1 h0 (.fresh ap1) (by omega)).mono ?_
    rintro ex w' ⟨a3, c3, rfl, k⟩
    exact ⟨a3, c3, rfl, ⟨k.out.1, hfr k.out.2.1, k.out.2.2⟩⟩
  · by_cases h3 : (ndig X : Int) < -e
    · obtain ⟨q1, q2, q3, q4⟩ := mv_lo h0 h3
      rw [q1, q3]
      refine (modf_small_i g h h1 (by omega) (by omega) h3 hX (.fresh ap1)).mono ?_
      rintro ex w' ⟨a3, c3, rfl, k⟩
      exact ⟨a3, c3, rfl, ⟨k.out.1, hfr k.out.2.1, k.out.2.2⟩⟩
    · obtain ⟨q1, q2, q3, q4⟩ := mv_mid h0 h3
      rw [q1, q3]
      refine (modf_div_i (m := (-e).toNat) g h h1 (by omega) (by omega) (by omega) hX (.fresh ap1) hn).mono ?_
      rintro ex w' ⟨a3, c3, rfl, k⟩
      exact ⟨a3, c3, rfl, ⟨k.out.1, hfr k.out.2.1, k.out.2.2⟩⟩
theorem modf_frac {w : World} {b b2 : Nat} {n n2 : Bool} {e e2 : Int} {a : Option Addr} {c X X2 : Nat} (g : Gl w) (h : DA w b 0 n e a c X) (h2 : DA w b2 0 n2 e2 none 0 X2)
    (he : -2500 ≤ e) (hd : ndig X ≤ 400) (hX : bl X ≤ 1100) (hn : nlen X < 1000) (ap2 : ∀ x y, dfoot b a c x y → x ≠ b2) :
    Calls Tryz.prog 35 #[.pointer (some ⟨b, 0, none⟩), .pointer none, .pointer (some ⟨b2, 0, none⟩)] w fun ex w' => ∃ a4 c4, ex = .returned (.tuple #[]) ∧
      Aside (DA w' b2 0 n (mvF e) a4 c4 (mvY e X) ∧ Fr (fun x _ => x = b2) w w' ∧ Out w none 0 a4 c4) := by
  have hfr : ∀ {w w' : World}, Fr (dfoot b2 none 0) w w' → Fr (fun x _ => x = b2) w w' := fun f => f.mono (fun _ _ _ q => dnone q)
  by_cases h0 : 0 < e
  · obtain ⟨q1, q2, q3, q4⟩ := mv_up h0 X
    rw [q2, q4]
    refine (modf_whole_f g.size h h2 h0 (.fresh ap2)).mono ?_
    rintro ex w' ⟨a3, c3, rfl, k⟩
    exact ⟨a3, c3, rfl, ⟨k.out.1, hfr k.out.2.1, k.out.2.2⟩⟩
  · by_cases h3 : (ndig X : Int) < -e
    · obtain ⟨q1, q2, q3, q4⟩ := mv_lo h0 h3
      rw [q2, q4]
      refine (modf_small_f g h h2 (by omega) (by omega) h3 hX (.fresh ap2) (by omega)).mono ?_
      rintro ex w' ⟨a3, c3, rfl, k⟩
      exact ⟨a3, c3, rfl, ⟨k.out.1, hfr k.out.2.1, k.out.2.2⟩⟩
    · obtain ⟨q1, q2, q3, q4⟩ := mv_mid h0 h3
      rw [q2, q4]
      refine (modf_div_f (m := (-e).toNat) g h h2 (by omega) (by omega) (by omega) hX (.fresh ap2) hn).mono ?_
      rintro ex w' ⟨a3, c3, rfl, k⟩
      exact ⟨a3, c3, rfl, ⟨k.out.1, hfr k.out.2.1, k.out.2.2⟩⟩
end Go.Proofs.YtfhnkcdlphfbpaaGreatDoor
namespace Go.Proofs.YtfhnkcdlphfbpaaGreatDoor
open Go.RowKit

theorem Out.far {w' : World} {a : Option Addr} {c : Nat} (h : Out w' none 0 a c) {b : Nat} (hb : b < w'.heap.size) {p : Nat} (hp : p ≠ b) : ∀ x y, dfoot p a c x y → x ≠ b := fun x y q e => by
  rcases q with q | q
  · omega
  · rcases h with ⟨rfl, rfl⟩ | ⟨b', o', rfl, h'⟩
    · exact foot_none _ _ _ q
    · rw [foot_some] at q; omega
theorem bl_sm {X : Nat} (h : Sm X) : bl X ≤ 1100 := by
  obtain ⟨k, hk⟩ : ∃ k, k = 16 := ⟨_, rfl⟩
  obtain ⟨m, hm⟩ : ∃ m, m = 1100 := ⟨_, rfl⟩
  have h1 : X < B ^ k := Nat.lt_of_lt_of_le (nlen_lt X) (Nat.pow_le_pow_right B_pos (by rw [hk]; exact sm_len h))
  rw [B_two, ← Nat.pow_mul] at h1
  rw [← hm]
  exact (lt_two_iff X m).1 (Nat.lt_of_lt_of_le h1 (Nat.pow_le_pow_right (by omega) (by omega)))
theorem Sm.le {X Y : Nat} (h : Sm X) (k : Y ≤ X) : Sm Y := by
  unfold Sm at *
  exact Nat.lt_of_le_of_lt k h
theorem DA.under {w : World} {b : Nat} {f : Int} {n : Bool} {e : Int} {a : Option Addr} {c X : Nat} (h : DA w b f n e a c X) : ∀ x y, dfoot b a c x y → x < w.heap.size := fun x y q => by
  rcases q with rfl | q
  · exact h.lt
  · exact h.num.nt.reg.lt x y q
/-- Four new decimals. -/
theorem four_dec {w W : World} {t : TypeId} (hG : NG ≤ w.heap.size) (hW : (((w.alloc (.cells #[.int .i8 0, .bool false, .int .i32 0, .bool false, .slice none 0 0] t)).alloc (.cells #[.int .i8 0, .bool false, .int .i32 0, .bool false, .slice none 0 0] t)).alloc (.cells #[.int .i8 0, .bool false, .int .i32 0, .bool false, .slice none 0 0] t)).alloc (.cells #[.int .i8 0, .bool false, .int .i32 0, .bool false, .slice none 0 0] t) = W) :
    DA W w.heap.size 0 false 0 none 0 0 ∧ DA W (w.heap.size + 1) 0 false 0 none 0 0 ∧ DA W (w.heap.size + 1 + 1) 0 false 0 none 0 0 ∧ DA W (w.heap.size + 1 + 1 + 1) 0 false 0 none 0 0 ∧ Fr (fun _ _ => False) w W ∧ W.heap.size = w.heap.size + 4 := by
  obtain ⟨w1, h1⟩ : ∃ x, w.alloc (.cells #[.int .i8 0, .bool false, .int .i32 0, .bool false, .slice none 0 0] t) = x := ⟨_, rfl⟩
  obtain ⟨w2, h2⟩ : ∃ x, w1.alloc (.cells #[.int .i8 0, .bool false, .int .i32 0, .bool false, .slice none 0 0] t) = x := ⟨_, rfl⟩
  obtain ⟨w3, h3⟩ : ∃ x, w2.alloc (.cells #[.int .i8 0, .bool false, .int .i32 0, .bool false, .slice none 0 0] t) = x := ⟨_, rfl⟩
  rw [h1, h2, h3] at hW
  have s1 : w1.heap.size = w.heap.size + 1 := by rw [← h1]; simp
  have s2 : w2.heap.size = w.heap.size + 1 + 1 := by rw [← h2, ← s1]; simp
  have s3 : w3.heap.size = w.heap.size + 1 + 1 + 1 := by rw [← h3, ← s2]; simp
  have s4 : W.heap.size = w.heap.size + 1 + 1 + 1 + 1 := by rw [← hW, ← s3]; simp
  have f1 : Fr (fun _ _ => False) w w1 := by rw [← h1]; exact (Fr.refl _ w).alloc _
  have f2 : Fr (fun _ _ => False) w1 w2 := by rw [← h2]; exact (Fr.refl _ w1).alloc _
  have f3 : Fr (fun _ _ => False) w2 w3 := by rw [← h3]; exact (Fr.refl _ w2).alloc _
  have f4 : Fr (fun _ _ => False) w3 W := by rw [← hW]; exact (Fr.refl _ w3).alloc _
  have d1 := DA.new (w := w) hG t 0 false 0
  have d2 := DA.new (w := w1) (by omega) t 0 false 0
  have d3 := DA.new (w := w2) (by omega) t 0 false 0
  have d4 := DA.new (w := w3) (by omega) t 0 false 0
  rw [h1] at d1
  rw [h2, s1] at d2
  rw [h3, s2] at d3
  rw [hW, s3] at d4
  exact ⟨d1.fr (f2.trans (f3.trans f4)) (fun _ _ _ q => q), d2.fr (f3.trans f4) (fun _ _ _ q => q), d3.fr f4 (fun _ _ _ q => q), d4, f1.trans (f2.trans (f3.trans f4)), by omega⟩
set_option maxRecDepth 100000 in
set_option maxHeartbeats 4000000 in
theorem modf1_any {w : World} {pd p1 p2 p3 p4 : Nat} {e : Int} {n : Bool} {s : ByteArray} (g : Gv w) (hd : D4 w pd 0 n e s) (h1 : D4 w p1 0 false 0 ⟨#[]⟩) (h2 : D4 w p2 0 false 0 ⟨#[]⟩) (h3 : D4 w p3 0 false 0 ⟨#[]⟩) (h4 : D4 w p4 0 false 0 ⟨#[]⟩)
    (n12 : p1 ≠ p2) (n13 : p1 ≠ p3) (n14 : p1 ≠ p4) (n23 : p2 ≠ p3) (n24 : p2 ≠ p4) (n34 : p3 ≠ p4)
    (hdg : Digs s.data.toList) (h0 : 0 < s.size) (hs : s.size ≤ 300) (he0 : -2500 ≤ e) (he1 : e ≤ 2500) {X : Nat} (hX : numOf s.data.toList = X) :
    Calls Tryz.prog 33 #[.pointer (some ⟨pd, 0, none⟩), .pointer (some ⟨p1, 0, none⟩), .pointer (some ⟨p2, 0, none⟩), .pointer (some ⟨p3, 0, none⟩), .pointer (some ⟨p4, 0, none⟩)] w fun e1 w' =>
      e1 = .returned (.tuple #[]) ∧ D4 w' p1 0 n (mvE e) (mk (natText (mvX e X))) ∧ D4 w' p2 0 n (mvF e) (mk (natText (mvY e X))) ∧ D4 w' p3 0 n (mvE e) (mk (natText (mvX e X))) ∧ D4 w' p4 0 n (mvF e) (mk (natText (mvY e X))) ∧ Fr (fun b _ => b = p1 ∨ b = p2 ∨ b = p3 ∨ b = p4) w w' := by
  have hsl : s.data.toList.length = s.size := rfl
  have hXlt : X < 10 ^ s.size := by
    have h9 := numOf_lt hdg
    rw [hX, hsl] at h9
    exact h9
  have hsm : Sm X := by rw [← hX]; exact sm_digs hdg (by omega)
  have hnl := sm_len hsm
  have hnd : ndig X ≤ 400 := by
    by_cases z : X = 0
    · subst z
      have : ndig 0 = 1 := by unfold ndig; rw [dif_pos (by omega)]
      omega
    · have h9 := ndig_le z
      have h10 : 10 ^ (ndig X - 1) < 10 ^ s.size := Nat.lt_of_le_of_lt h9 hXlt
      have := (Nat.pow_lt_pow_iff_right (by decide : 1 < 10)).1 h10
      omega
  have hbl : bl X ≤ 1100 := bl_sm hsm
  have hmX : Sm (mvX e X) := hsm.le (mvX_le e X)
  have hmY : Sm (mvY e X) := hsm.le (mvY_le e X)
  obtain ⟨A, hA⟩ : ∃ v, Value.agg #[.int .i64 0, .bool n, .int .i32 (mvE e), .string (mk (natText (mvX e X)))] = v := ⟨_, rfl⟩
  obtain ⟨B', hB⟩ : ∃ v, Value.agg #[.int .i64 0, .bool n, .int .i32 (mvF e), .string (mk (natText (mvY e X)))] = v := ⟨_, rfl⟩
  have HR : Hid (Calls Tryz.prog 34 #[.agg #[.int .i64 0, .bool n, .int .i32 e, .string s]] w fun ex w2 => ∃ p z W, ex = .returned (.pointer (some ⟨p, 0, none⟩)) ∧ w2.heap.size = z ∧
      (((w2.alloc (.cells #[.int .i8 0, .bool false, .int .i32 0, .bool false, .slice none 0 0] 68)).alloc (.cells #[.int .i8 0, .bool false, .int .i32 0, .bool false, .slice none 0 0] 68)).alloc (.cells #[.int .i8 0, .bool false, .int .i32 0, .bool false, .slice none 0 0] 68)).alloc (.cells #[.int .i8 0, .bool false, .int .i32 0, .bool false, .slice none 0 0] 68) = W ∧
      Hid (Calls Tryz.prog 35 #[.pointer (some ⟨p, 0, none⟩), .pointer (some ⟨z, 0, none⟩), .pointer (some ⟨z + 1, 0, none⟩)] W fun ex w3 => ex = .returned (.tuple #[]) ∧
      Hid (Calls Tryz.prog 35 #[.pointer (some ⟨p, 0, none⟩), .pointer (some ⟨z + 1 + 1, 0, none⟩), .pointer none] w3 fun ex w4 => ex = .returned (.tuple #[]) ∧
      Hid (Calls Tryz.prog 35 #[.pointer (some ⟨p, 0, none⟩), .pointer none, .pointer (some ⟨z + 1 + 1 + 1, 0, none⟩)] w4 fun ex w5 => ex = .returned (.tuple #[]) ∧
      Hid (Calls Tryz.prog 36 #[.pointer (some ⟨z, 0, none⟩)] w5 fun ex w6 => ex = .returned (.agg #[.int .i64 0, .bool n, .int .i32 (mvE e), .string (mk (natText (mvX e X)))]) ∧
      Hid (Calls Tryz.prog 36 #[.pointer (some ⟨z + 1, 0, none⟩)] w6 fun ex w7 => ex = .returned (.agg #[.int .i64 0, .bool n, .int .i32 (mvF e), .string (mk (natText (mvY e X)))]) ∧
      Hid (Calls Tryz.prog 36 #[.pointer (some ⟨z + 1 + 1, 0, none⟩)] w7 fun ex w8 => ex = .returned (.agg #[.int .i64 0, .bool n, .int .i32 (mvE e), .string (mk (natText (mvX e X)))]) ∧
      Hid (Calls Tryz.prog 36 #[.pointer (some ⟨z + 1 + 1 + 1, 0, none⟩)] w8 fun ex w9 => ex = .returned (.agg #[.int .i64 0, .bool n, .int .i32 (mvF e), .string (mk (natText (mvY e X)))]) ∧ E8 w9 p1 0 false 0 ⟨#[]⟩ ∧ E8 w9 p2 0 false 0 ⟨#[]⟩ ∧ E8 w9 p3 0 false 0 ⟨#[]⟩ ∧ E8 w9 p4 0 false 0 ⟨#[]⟩ ∧ Aside (Fr (fun _ _ => False) w w9)))))))))
      := Lib.hid (by
    refine (dec_any 0 (by omega) g hdg h0 (by omega)).mono ?_
    rintro ex w2 ⟨p, a, c, rfl, k1, k2, k3, k4⟩
    rw [hX] at k1
    obtain ⟨W, hW⟩ : ∃ W, (((w2.alloc (.cells #[.int .i8 0, .bool false, .int .i32 0, .bool false, .slice none 0 0] 68)).alloc (.cells #[.int .i8 0, .bool false, .int .i32 0, .bool false, .slice none 0 0] 68)).alloc (.cells #[.int .i8 0, .bool false, .int .i32 0, .bool false, .slice none 0 0] 68)).alloc (.cells #[.int .i8 0, .bool false, .int .i32 0, .bool false, .slice none 0 0] 68) = W := ⟨_, rfl⟩
    have g2 := g.new k2
    obtain ⟨z1, z2, z3, z4, fW, sW⟩ := four_dec g2.g.size hW
    obtain ⟨z, hz⟩ : ∃ z, w2.heap.size = z := ⟨_, rfl⟩
    rw [hz] at z1 z2 z3 z4 sW
    have gW := g2.new fW
    have P := k1.fr fW (fun _ _ _ q => q)
    have plo : ∀ x y, dfoot p a c x y → x < z := fun x y q => by rw [← hz]; exact k1.under x y q
    have hsW : w2.heap.size ≤ W.heap.size := fW.size
    refine ⟨p, z, W, rfl, hz, hW, Lib.hid ?_⟩
    refine (modf_two gW.g P z1 z2 he0 hnd hbl (by omega) (fun x y q => by have := plo x y q; omega) (fun x y q => by have := plo x y q; omega) (by omega)).mono ?_
    rintro ex w3 ⟨a1, c1, a2, c2, rfl, K⟩
    obtain ⟨y1, y2, f3, o1, o2⟩ := K.out
    have f3' : Fr (fun _ _ => False) w2 w3 := fW.trans' f3 (fun _ _ _ q => q) (fun x y hx q => by omega)
    have g3 := g2.new f3'
    have P3 := k1.fr f3' (fun _ _ _ q => q)
    have y3 := z3.fr f3 (fun x y q1 q2 => by have := dnone q1; omega)
    have y4 := z4.fr f3 (fun x y q1 q2 => by have := dnone q1; omega)
    refine ⟨rfl, Lib.hid ?_⟩
    refine (modf_int g3.g P3 y3 he0 hnd hbl (by omega) (fun x y q => by have := plo x y q; omega)).mono ?_
    rintro ex w4 ⟨a3, c3, rfl, K⟩
    obtain ⟨x3, f4, o3⟩ := K.out
    have s3 := f3.size
    have f4' : Fr (fun _ _ => False) w2 w4 := f3'.trans' f4 (fun _ _ _ q => q) (fun x y hx q => by omega)
    have x1 := y1.fr f4 (o1.far (by omega) (by omega))
    have x2 := y2.fr f4 (o2.far (by omega) (by omega))
    have x4 := y4.fr f4 (fun x y q1 q2 => by have := dnone q1; omega)
    have P4 := k1.fr f4' (fun _ _ _ q => q)
    refine ⟨rfl, Lib.hid ?_⟩
    refine (modf_frac (g2.new f4').g P4 x4 he0 hnd hbl (by omega) (fun x y q => by have := plo x y q; omega)).mono ?_
    rintro ex w5 ⟨a4, c4, rfl, K⟩
    obtain ⟨v4, f5, o4⟩ := K.out
    have f5' : Fr (fun _ _ => False) w2 w5 := f4'.trans' f5 (fun _ _ _ q => q) (fun x y hx q => by omega)
    have v1 := x1.fr f5 (o1.far (by omega) (by omega))
    have v2 := x2.fr f5 (o2.far (by omega) (by omega))
    have v3 := x3.fr f5 (o3.far (by omega) (by omega))
    have g5 := g2.new f5'
    refine ⟨rfl, Lib.hid ?_⟩
    refine (plain_any 0 (by omega) g5 v1 hmX).mono ?_
    rintro ex w6 ⟨rfl, f6⟩
    refine ⟨rfl, Lib.hid ?_⟩
    refine (plain_any 0 (by omega) (g5.new f6) (v2.fr f6 (fun _ _ _ q => q)) hmY).mono ?_
    rintro ex w7 ⟨rfl, f7⟩
    refine ⟨rfl, Lib.hid ?_⟩
    refine (plain_any 0 (by omega) (g5.new (f6.trans f7)) (v3.fr (f6.trans f7) (fun _ _ _ q => q)) hmX).mono ?_
    rintro ex w8 ⟨rfl, f8⟩
    refine ⟨rfl, Lib.hid ?_⟩
    refine (plain_any 0 (by omega) (g5.new ((f6.trans f7).trans f8)) (v4.fr ((f6.trans f7).trans f8) (fun _ _ _ q => q)) hmY).mono ?_
    rintro ex w9 ⟨rfl, f9⟩
    have f := k2.trans (f5'.trans (((f6.trans f7).trans f8).trans f9))
    exact ⟨rfl, E8.of (h1.fr f (fun _ q => q)), E8.of (h2.fr f (fun _ q => q)), E8.of (h3.fr f (fun _ q => q)), E8.of (h4.fr f (fun _ q => q)), ⟨f⟩⟩)
  obtain ⟨d0, d1, d2, d3, _⟩ := E8.of hd
  have HC := Aside.mk (And.intro h1 (And.intro h2 (And.intro h3 h4)))
  obtain ⟨X1, hX1⟩ : ∃ v, mk (natText (mvX e X)) = v := ⟨_, rfl⟩
  obtain ⟨Y1, hY1⟩ : ∃ v, mk (natText (mvY e X)) = v := ⟨_, rfl⟩
  obtain ⟨eE, heE⟩ : ∃ v, mvE e = v := ⟨_, rfl⟩
  obtain ⟨eF, heF⟩ : ∃ v, mvF e = v := ⟨_, rfl⟩
  rw [hX1, hY1, heE, heF] at HR ⊢
  clear hd h1 h2 h3 h4 g hdg h0 hs he0 he1 hX hXlt hsm hnl hnd hbl hmX hmY hA hB hX1 hY1 heE heF hsl
  go_enter Tryz.func33, Tryz.ntmps33
  go_wp2_with fail
  refine HR.out.mono ?_
  rintro ex w2 ⟨p, z, W, rfl, hz, hW, q1⟩
  clear HR d0 d1 d2 d3
  go_wp2_with fail
  try rw [hz]
  refine q1.out.mono ?_
  rintro ex w3 ⟨rfl, q2⟩
  clear q1 hW hz
  go_wp2_with fail
  refine q2.out.mono ?_
  rintro ex w4 ⟨rfl, q3⟩
  clear q2
  go_wp2_with fail
  refine q3.out.mono ?_
  rintro ex w5 ⟨rfl, q4⟩
  clear q3
  go_wp2_with fail
  refine q4.out.mono ?_
  rintro ex w6 ⟨rfl, q5⟩
  clear q4
  go_wp2_with fail
  refine q5.out.mono ?_
  rintro ex w7 ⟨rfl, q6⟩
  clear q5
  go_wp2_with fail
  refine q6.out.mono ?_
  rintro ex w8 ⟨rfl, q7⟩
  clear q6
  go_wp2_with fail
  refine q7.out.mono ?_
  rintro ex w9 ⟨rfl, ⟨a0, a1, a2, a3, a4, a5, a6, a7⟩, ⟨b0, b1, b2, b3, b4, b5, b6, b7⟩, ⟨c0, c1, c2, c3, c4, c5, c6, c7⟩, ⟨e0, e1, e2, e3, e4, e5, e6, e7⟩, F⟩
  clear q7
  have m12 : ¬ p2 = p1 := fun q => n12 q.symm
  have m13 : ¬ p3 = p1 := fun q => n13 q.symm
  have m14 : ¬ p4 = p1 := fun q => n14 q.symm
  have m23 : ¬ p3 = p2 := fun q => n23 q.symm
  have m24 : ¬ p4 = p2 := fun q => n24 q.symm
  have m34 : ¬ p4 = p3 := fun q => n34 q.symm
  go_wp2_with fail
  go_end0
  clear a0 a1 a2 a3 a4 a5 a6 a7 b0 b1 b2 b3 b4 b5 b6 b7 c0 c1 c2 c3 c4 c5 c6 c7 e0 e1 e2 e3 e4 e5 e6 e7
  have D1 := ((((HC.out.1.fr F.out (fun _ q => q)).put (f' := 0) (n' := n) (e' := eE) (s' := X1)).oth (p := p2) m12 (.int .i64 0) (.bool n) (.int .i32 eF) (.string Y1)).oth (p := p3) m13 (.int .i64 0) (.bool n) (.int .i32 eE) (.string X1)).oth (p := p4) m14 (.int .i64 0) (.bool n) (.int .i32 eF) (.string Y1)
  have D2 := ((((HC.out.2.1.fr F.out (fun _ q => q)).oth (p := p1) n12 (.int .i64 0) (.bool n) (.int .i32 eE) (.string X1)).put (f' := 0) (n' := n) (e' := eF) (s' := Y1)).oth (p := p3) m23 (.int .i64 0) (.bool n) (.int .i32 eE) (.string X1)).oth (p := p4) m24 (.int .i64 0) (.bool n) (.int .i32 eF) (.string Y1)
  have D3 := ((((HC.out.2.2.1.fr F.out (fun _ q => q)).oth (p := p1) n13 (.int .i64 0) (.bool n) (.int .i32 eE) (.string X1)).oth (p := p2) n23 (.int .i64 0) (.bool n) (.int .i32 eF) (.string Y1)).put (f' := 0) (n' := n) (e' := eE) (s' := X1)).oth (p := p4) m34 (.int .i64 0) (.bool n) (.int .i32 eF) (.string Y1)
  have D4' := ((((HC.out.2.2.2.fr F.out (fun _ q => q)).oth (p := p1) n14 (.int .i64 0) (.bool n) (.int .i32 eE) (.string X1)).oth (p := p2) n24 (.int .i64 0) (.bool n) (.int .i32 eF) (.string Y1)).oth (p := p3) n34 (.int .i64 0) (.bool n) (.int .i32 eE) (.string X1)).put (f' := 0) (n' := n) (e' := eF) (s' := Y1)
  refine ⟨rfl, D1, D2, D3, D4', ?_⟩
  have F9 : Fr (fun b _ => b = p1 ∨ b = p2 ∨ b = p3 ∨ b = p4) w w9 := F.out.mono (fun _ _ _ k => k.elim)
  repeat' (first | with_reducible exact F9 | refine Fr.setCell ?_ _ _ _ (fun q => by first | exact .inl rfl | exact .inr (.inl rfl) | exact .inr (.inr (.inl rfl)) | exact .inr (.inr (.inr rfl))))
theorem enter_modf1 (caps : Array Value) (w : World) : (callFunc 33 caps).run Tryz.prog w = .ok (.enter 33 caps) w := by kernel_rfl
end Go.Proofs.YtfhnkcdlphfbpaaGreatDoor
namespace Go.Proofs.YtfhnkcdlphfbpaaGreatDoor
open Go.RowKit

set_option maxRecDepth 100000 in
theorem modf_results {W : World} {p1 p2 p3 p4 : Nat} {e e' : Int} {n : Bool} {s s' : ByteArray} (h1 : D4 W p1 0 n e s) (h2 : D4 W p2 0 n e' s') (h3 : D4 W p3 0 n e s) (h4 : D4 W p4 0 n e' s') (tmps : Array Value) (t1 : tmps.getD 2 undef = .pointer (some ⟨p1, 0, none⟩)) (t2 : tmps.getD 3 undef = .pointer (some ⟨p2, 0, none⟩)) (t3 : tmps.getD 4 undef = .pointer (some ⟨p3, 0, none⟩)) (t4 : tmps.getD 5 undef = .pointer (some ⟨p4, 0, none⟩)) :
    (results Tryz.f11 tmps).run Tryz.prog W = .ok (.tuple #[.agg #[.int .i64 0, .bool n, .int .i32 e, .string s], .agg #[.int .i64 0, .bool n, .int .i32 e', .string s'], .agg #[.int .i64 0, .bool n, .int .i32 e, .string s], .agg #[.int .i64 0, .bool n, .int .i32 e', .string s']]) W := by
  obtain ⟨a0, a1, a2, a3, _⟩ := E8.of h1
  obtain ⟨b0, b1, b2, b3, _⟩ := E8.of h2
  obtain ⟨c0, c1, c2, c3, _⟩ := E8.of h3
  obtain ⟨d0, d1, d2, d3, _⟩ := E8.of h4
  simp only [Array.getD_eq_getD_getElem?] at t1 t2 t3 t4
  simp [results, Tryz.results11, go_sem, a0, a1, a2, a3, b0, b1, b2, b3, c0, c1, c2, c3, d0, d1, d2, d3, t1, t2, t3, t4]
set_option maxRecDepth 100000 in
set_option maxHeartbeats 4000000 in
theorem modfI_any {w : World} {e : Int} {n : Bool} {s : ByteArray} (g : Gv w) (hdg : Digs s.data.toList) (h0 : 0 < s.size) (hs : s.size ≤ 300) (he0 : -2500 ≤ e) (he1 : e ≤ 2500) {X : Nat} (hX : numOf s.data.toList = X) :
    Calls Tryz.prog 11 #[.agg #[.int .i64 0, .bool n, .int .i32 e, .string s]] w fun e1 w' => e1 = .returned (.tuple #[.agg #[.int .i64 0, .bool n, .int .i32 (mvE e), .string (mk (natText (mvX e X)))], .agg #[.int .i64 0, .bool n, .int .i32 (mvF e), .string (mk (natText (mvY e X)))],
      .agg #[.int .i64 0, .bool n, .int .i32 (mvE e), .string (mk (natText (mvX e X)))], .agg #[.int .i64 0, .bool n, .int .i32 (mvF e), .string (mk (natText (mvY e X)))]]) ∧ Fr (fun _ _ => False) w w' := by
  have hG := g.g.size
  have hm := hmf
  obtain ⟨sz, hsz⟩ : ∃ x, w.heap.size = x := ⟨_, rfl⟩
  obtain ⟨wa, hwa⟩ : ∃ z, w.alloc (.cells #[.int .i64 0, .bool n, .int .i32 e, .string s] 23) = z := ⟨_, rfl⟩
  obtain ⟨wb, hwb⟩ : ∃ z, wa.alloc (.cells #[.int .i64 0, .bool false, .int .i32 0, .string ⟨#[]⟩] 23) = z := ⟨_, rfl⟩
  obtain ⟨wc, hwc⟩ : ∃ z, wb.alloc (.cells #[.int .i64 0, .bool false, .int .i32 0, .string ⟨#[]⟩] 23) = z := ⟨_, rfl⟩
  obtain ⟨wd, hwd⟩ : ∃ z, wc.alloc (.cells #[.int .i64 0, .bool false, .int .i32 0, .string ⟨#[]⟩] 23) = z := ⟨_, rfl⟩
  obtain ⟨w1, hw1⟩ : ∃ z, wd.alloc (.cells #[.int .i64 0, .bool false, .int .i32 0, .string ⟨#[]⟩] 23) = z := ⟨_, rfl⟩
  have fa : Fr (fun _ _ => False) w wa := by rw [← hwa]; exact (Fr.refl _ w).alloc _
  have fb : Fr (fun _ _ => False) wa wb := by rw [← hwb]; exact (Fr.refl _ wa).alloc _
  have fc : Fr (fun _ _ => False) wb wc := by rw [← hwc]; exact (Fr.refl _ wb).alloc _
  have fd : Fr (fun _ _ => False) wc wd := by rw [← hwd]; exact (Fr.refl _ wc).alloc _
  have fe : Fr (fun _ _ => False) wd w1 := by rw [← hw1]; exact (Fr.refl _ wd).alloc _
  have sa : wa.heap.size = sz + 1 := by rw [← hwa, ← hsz]; simp
  have sb : wb.heap.size = sz + 1 + 1 := by rw [← hwb, ← sa]; simp
  have sc : wc.heap.size = sz + 1 + 1 + 1 := by rw [← hwc, ← sb]; simp
  have sd : wd.heap.size = sz + 1 + 1 + 1 + 1 := by rw [← hwd, ← sc]; simp
  have hs1 : w1.heap.size = sz + 5 := by rw [← hw1]; simp; omega
  have F1 : Fr (fun _ _ => False) w w1 := fa.trans (fb.trans (fc.trans (fd.trans fe)))
  have cd : D4 w1 sz 0 n e s := by
    have := D4.new (w := w) 0 e n s 23
    rw [hwa, hsz] at this
    exact this.fr (fb.trans (fc.trans (fd.trans fe))) (fun _ q => q)
  have c1 : D4 w1 (sz + 1) 0 false 0 ⟨#[]⟩ := by
    have := D4.new (w := wa) 0 0 false ⟨#[]⟩ 23
    rw [hwb, sa] at this
    exact this.fr (fc.trans (fd.trans fe)) (fun _ q => q)
  have c2 : D4 w1 (sz + 1 + 1) 0 false 0 ⟨#[]⟩ := by
    have := D4.new (w := wb) 0 0 false ⟨#[]⟩ 23
    rw [hwc, sb] at this
    exact this.fr (fd.trans fe) (fun _ q => q)
  have c3 : D4 w1 (sz + 1 + 1 + 1) 0 false 0 ⟨#[]⟩ := by
    have := D4.new (w := wc) 0 0 false ⟨#[]⟩ 23
    rw [hwd, sc] at this
    exact this.fr fe (fun _ q => q)
  have c4 : D4 w1 (sz + 1 + 1 + 1 + 1) 0 false 0 ⟨#[]⟩ := by
    have := D4.new (w := wd) 0 0 false ⟨#[]⟩ 23
    rw [hw1, sd] at this
    exact this
  have a1 := (Fr.refl (fun _ _ => False) w1).alloc (.cells #[.bool false] 4)
  obtain ⟨X1, hX1⟩ : ∃ v, mk (natText (mvX e X)) = v := ⟨_, rfl⟩
  obtain ⟨Y1, hY1⟩ : ∃ v, mk (natText (mvY e X)) = v := ⟨_, rfl⟩
  obtain ⟨eE, heE⟩ : ∃ v, mvE e = v := ⟨_, rfl⟩
  obtain ⟨eF, heF⟩ : ∃ v, mvF e = v := ⟨_, rfl⟩
  have hS : Hid (Calls Tryz.prog 32 #[.func (.func 33) #[] #[.pointer (some ⟨sz, 0, none⟩), .pointer (some ⟨sz + 1, 0, none⟩), .pointer (some ⟨sz + 1 + 1, 0, none⟩), .pointer (some ⟨sz + 1 + 1 + 1, 0, none⟩), .pointer (some ⟨sz + 1 + 1 + 1 + 1, 0, none⟩)]] w1 fun e1 w' =>
      e1 = .returned (.bool true) ∧ Aside (D4 w' (sz + 1) 0 n eE X1 ∧ D4 w' (sz + 1 + 1) 0 n eF Y1 ∧ D4 w' (sz + 1 + 1 + 1) 0 n eE X1 ∧ D4 w' (sz + 1 + 1 + 1 + 1) 0 n eF Y1 ∧ Fr (fun _ _ => False) w w')) := Lib.hid (by
    have hp := modf1_any (g.new (F1.trans a1)) (cd.fr a1 (fun _ q => q)) (c1.fr a1 (fun _ q => q)) (c2.fr a1 (fun _ q => q)) (c3.fr a1 (fun _ q => q)) (c4.fr a1 (fun _ q => q)) (by omega) (by omega) (by omega) (by omega) (by omega) (by omega) hdg h0 hs he0 he1 hX
    rw [hX1, hY1, heE, heF] at hp
    refine (safe_any (P := fun w' => D4 w' (sz + 1) 0 n eE X1 ∧ D4 w' (sz + 1 + 1) 0 n eF Y1 ∧ D4 w' (sz + 1 + 1 + 1) 0 n eE X1 ∧ D4 w' (sz + 1 + 1 + 1 + 1) 0 n eF Y1 ∧ Fr (fun _ _ => False) w w') 33 _ w1 (enter_modf1 _) (hp.mono ?_)).mono ?_
    · rintro e w' ⟨rfl, k1, k2, k3, k4, k5⟩
      have hnew := Cl.new (w := w1) (by rw [hs1]; omega) (.bool false) 4
      have h4 := hnew.fr k5 (by rw [hs1]; omega)
      exact ⟨rfl, h4.cell, h4.free, k1, k2, k3, k4, (F1.trans a1).trans' k5 (fun _ _ _ k => k) (fun x y hx k => by rw [hsz] at hx; omega)⟩
    · rintro e w' ⟨rfl, w2, ⟨k1, k2, k3, k4, k5⟩, rfl⟩
      have f2 := ((Fr.refl (fun x _ => x = w1.heap.size) w2).setCell w1.heap.size 0 (.bool true) (fun _ => rfl)).setCell w1.heap.size 0 (.bool true) (fun _ => rfl)
      exact ⟨rfl, ⟨k1.fr f2 (fun _ => by rw [hs1]; omega), k2.fr f2 (fun _ => by rw [hs1]; omega), k3.fr f2 (fun _ => by rw [hs1]; omega), k4.fr f2 (fun _ => by rw [hs1]; omega), k5.trans' f2 (fun _ _ _ k => k) (fun x y hx k => by rw [hsz] at hx; rw [hs1] at k; omega)⟩⟩)
  rw [hX1, hY1, heE, heF]
  clear hdg h0 hs g F1 a1 cd c1 c2 c3 c4 hX he0 he1 hX1 hY1 heE heF fa fb fc fd fe
  go_enter Tryz.func11, Tryz.ntmps11
  go_wp2_with fail
  have HSZ := Aside.mk hsz
  clear hwa hwb hwc hwd hw1 hsz hG sa sb sc sd hs1
  refine hS.out.mono ?_
  rintro e1 w2 ⟨rfl, hA⟩
  obtain ⟨a0, a1, a2, a3, a4, a5, a6, a7⟩ := E8.of hA.out.1
  obtain ⟨b0, b1, b2, b3, b4, b5, b6, b7⟩ := E8.of hA.out.2.1
  obtain ⟨c0, c1, c2, c3, c4, c5, c6, c7⟩ := E8.of hA.out.2.2.1
  obtain ⟨d0, d1, d2, d3, d4, d5, d6, d7⟩ := E8.of hA.out.2.2.2.1
  clear hS
  go_wp2_with fail
  go_region
  clear a0 a1 a2 a3 a4 a5 a6 a7 b0 b1 b2 b3 b4 b5 b6 b7 c0 c1 c2 c3 c4 c5 c6 c7 d0 d1 d2 d3 d4 d5 d6 d7
  all_goals
    go_wp2_with fail
    have Q1 := D4.drew (((((hA.out.1).put (f' := 0) (n' := n) (e' := eE) (s' := X1)).oth (p := sz + 1 + 1) (by omega) (.int .i64 0) (.bool n) (.int .i32 eF) (.string Y1)).oth (p := sz + 1 + 1 + 1) (by omega) (.int .i64 0) (.bool n) (.int .i32 eE) (.string X1)).oth (p := sz + 1 + 1 + 1 + 1) (by omega) (.int .i64 0) (.bool n) (.int .i32 eF) (.string Y1))
    have Q2 := D4.drew (((((hA.out.2.1).oth (p := sz + 1) (by omega) (.int .i64 0) (.bool n) (.int .i32 eE) (.string X1)).put (f' := 0) (n' := n) (e' := eF) (s' := Y1)).oth (p := sz + 1 + 1 + 1) (by omega) (.int .i64 0) (.bool n) (.int .i32 eE) (.string X1)).oth (p := sz + 1 + 1 + 1 + 1) (by omega) (.int .i64 0) (.bool n) (.int .i32 eF) (.string Y1))
    have Q3 := D4.drew (((((hA.out.2.2.1).oth (p := sz + 1) (by omega) (.int .i64 0) (.bool n) (.int .i32 eE) (.string X1)).oth (p := sz + 1 + 1) (by omega) (.int .i64 0) (.bool n) (.int .i32 eF) (.string Y1)).put (f' := 0) (n' := n) (e' := eE) (s' := X1)).oth (p := sz + 1 + 1 + 1 + 1) (by omega) (.int .i64 0) (.bool n) (.int .i32 eF) (.string Y1))
    have Q4 := D4.drew (((((hA.out.2.2.2.1).oth (p := sz + 1) (by omega) (.int .i64 0) (.bool n) (.int .i32 eE) (.string X1)).oth (p := sz + 1 + 1) (by omega) (.int .i64 0) (.bool n) (.int .i32 eF) (.string Y1)).oth (p := sz + 1 + 1 + 1) (by omega) (.int .i64 0) (.bool n) (.int .i32 eE) (.string X1)).put (f' := 0) (n' := n) (e' := eF) (s' := Y1))
    have R : Fr (fun _ _ => False) w _ := (((((((((((((((((hA.out.2.2.2.2).setCell (sz + 1) 0 (.int .i64 0) (fun q => by rw [HSZ.out] at q; omega)).setCell (sz + 1) 1 (.bool n) (fun q => by rw [HSZ.out] at q; omega)).setCell (sz + 1) 2 (.int .i32 eE) (fun q => by rw [HSZ.out] at q; omega)).setCell (sz + 1) 3 (.string X1) (fun q => by rw [HSZ.out] at q; omega)).setCell (sz + 1 + 1) 0 (.int .i64 0) (fun q => by rw [HSZ.out] at q; omega)).setCell (sz + 1 + 1) 1 (.bool n) (fun q => by rw [HSZ.out] at q; omega)).setCell (sz + 1 + 1) 2 (.int .i32 eF) (fun q => by rw [HSZ.out] at q; omega)).setCell (sz + 1 + 1) 3 (.string Y1) (fun q => by rw [HSZ.out] at q; omega)).setCell (sz + 1 + 1 + 1) 0 (.int .i64 0) (fun q => by rw [HSZ.out] at q; omega)).setCell (sz + 1 + 1 + 1) 1 (.bool n) (fun q => by rw [HSZ.out] at q; omega)).setCell (sz + 1 + 1 + 1) 2 (.int .i32 eE) (fun q => by rw [HSZ.out] at q; omega)).setCell (sz + 1 + 1 + 1) 3 (.string X1) (fun q => by rw [HSZ.out] at q; omega)).setCell (sz + 1 + 1 + 1 + 1) 0 (.int .i64 0) (fun q => by rw [HSZ.out] at q; omega)).setCell (sz + 1 + 1 + 1 + 1) 1 (.bool n) (fun q => by rw [HSZ.out] at q; omega)).setCell (sz + 1 + 1 + 1 + 1) 2 (.int .i32 eF) (fun q => by rw [HSZ.out] at q; omega)).setCell (sz + 1 + 1 + 1 + 1) 3 (.string Y1) (fun q => by rw [HSZ.out] at q; omega)).drew
    with_reducible refine bodyPost_ret (modf_results Q1 Q2 Q3 Q4 _ ?_ ?_ ?_ ?_) ?_ ⟨rfl, R⟩
    all_goals rfl
end Go.Proofs.YtfhnkcdlphfbpaaGreatDoor
