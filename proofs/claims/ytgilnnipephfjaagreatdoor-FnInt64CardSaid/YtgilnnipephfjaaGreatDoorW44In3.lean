/- errors.New. Plain laws of a decimal as an int64. Int64 of whole numbers; the largest and the least int64 as decimals; an ErrDecimal that has seen nothing. Decimal.Int64 of a finite decimal. impl.Int64. -/
import Derived.Test.YtgilnnipephfjaaGreatDoorM02Nat0
import Derived.Test.YtgilnnipephfjaaGreatDoorW43Cq4
import Derived.Test.YtgilnnipephfjaaGreatDoorW38Md1
import Derived.Test.YtgilnnipephfjaaGreatDoorW42Im1
import Derived.Test.YtgilnnipephfjaaGreatDoorM33Eql
set_option linter.unusedSimpArgs false
set_option linter.unusedVariables false
namespace Go.Proofs.YtgilnnipephfjaaGreatDoor
open Go.RowKit

set_option maxRecDepth 100000 in
theorem errNew (t : ByteArray) (w : World) :
    Calls Tryz.prog 63 #[.string t] w fun e1 w' => e1 = .returned (.iface 144 (.pointer (some ⟨w.heap.size, 0, none⟩))) ∧ Fr (fun _ _ => False) w w' := by
  go_enter Tryz.func63, Tryz.ntmps63
  go_wp2_with fail
  go_ret
  exact ⟨rfl, (Fr.refl _ w).alloc _⟩
end Go.Proofs.YtgilnnipephfjaaGreatDoor
namespace Go.Proofs.YtgilnnipephfjaaGreatDoor
open Go.RowKit

/-- The largest size that an int64 has with that sign. -/
def lim64 (n : Bool) : Nat := if n then 2 ^ 63 else 2 ^ 63 - 1
/-- The size of the whole part. -/
def szI (e : Int) (X : Nat) : Nat := mvX e X * 10 ^ (mvE e).toNat
/-- Whether a finite decimal is a whole number of an int64: by its parts. -/
def isI (n : Bool) (e : Int) (X : Nat) : Bool := decide (mvY e X = 0) && decide (szI e X ≤ lim64 n)
theorem mvE_ge (e : Int) : 0 ≤ mvE e := by unfold mvE; split <;> omega
theorem mvE_le {e m : Int} (h : e ≤ m) (hm : 0 ≤ m) : mvE e ≤ m := by unfold mvE; split <;> omega
theorem dcm_int {n n' : Bool} {J : Int} {I M : Nat} (hJ : 0 ≤ J) : dcm n J I n' 0 M = zc (zv n (I * 10 ^ J.toNat)) (zv n' M) := by
  unfold dcm
  rw [show (J - min J 0).toNat = J.toNat by omega, show ((0 : Int) - min J 0).toNat = 0 by omega]
  simp
theorem too_big {n : Bool} {J : Int} {I M : Nat} (hJ : 0 ≤ J) : decide (0 < dcm n J I false 0 M) = (!n && decide (M < I * 10 ^ J.toNat)) := by
  rw [dcm_int hJ]
  generalize I * 10 ^ J.toNat = L
  unfold zc zv
  cases n <;> simp <;> (repeat' split) <;> omega
theorem too_small {n : Bool} {J : Int} {I M : Nat} (hJ : 0 ≤ J) : decide (dcm n J I true 0 M < 0) = (n && decide (M < I * 10 ^ J.toNat)) := by
  rw [dcm_int hJ]
  generalize I * 10 ^ J.toNat = L
  unfold zc zv
  cases n <;> simp <;> (repeat' split) <;> omega
theorem isI_parts (n : Bool) (e : Int) (X : Nat) : isI n e X = (decide (mvY e X = 0) && (!(!n && decide (2 ^ 63 - 1 < szI e X)) && !(n && decide (2 ^ 63 < szI e X)))) := by
  have k : ∀ a b : Nat, decide (a ≤ b) = !decide (b < a) := fun a b => by
    by_cases h : a ≤ b
    · have h2 : ¬ b < a := by omega
      rw [decide_eq_true h, decide_eq_false h2]; rfl
    · have h2 : b < a := by omega
      rw [decide_eq_false h, decide_eq_true h2]; rfl
  unfold isI lim64
  rw [k]
  cases n <;> simp
theorem w64_eq (x : Int) : IntKind.i64.wrap x = wrap64 x := by rw [IntKind.wrap_i64]; unfold wrap64; omega
theorem w64_mul (x : Int) : wrap64 (wrap64 x * 10) = wrap64 (x * 10) := by
  unfold wrap64; omega
theorem w64_wd (I : Nat) : wrap64 ((wd I 0 : Nat) : Int) = wrap64 (I : Int) := by
  have h : ((wd I 0 : Nat) : Int) = (I : Int) % 18446744073709551616 := by
    unfold wd
    rw [Nat.pow_zero, Nat.div_one, show B = 18446744073709551616 from by decide]
    omega
  rw [h]; unfold wrap64; omega
theorem w64_fin {n : Bool} {L : Nat} (h : L ≤ lim64 n) : (if n then wrap64 (-(wrap64 (L : Int))) else wrap64 (L : Int)) = flip n (L : Int) := by
  unfold lim64 at h
  unfold flip
  cases n
  · simp at h ⊢; unfold wrap64; omega
  · simp at h ⊢; unfold wrap64; omega
end Go.Proofs.YtgilnnipephfjaaGreatDoor
namespace Go.Proofs.YtgilnnipephfjaaGreatDoor
open Go.RowKit

set_option maxRecDepth 100000 in
theorem iInt64_pos {b o : Nat} {a : Option Addr} {c X : Nat} {w : World} (h : IA w b o false a c X) :
    Calls Tryz.prog 104 #[.pointer (some ⟨b, o, none⟩)] w fun e w' => e = .returned (.int .i64 (wrap64 ((wd X 0 : Nat) : Int))) ∧ w' = w := by
  have ha := h.abs
  have hn := h.neg
  have H := Lib.hid (low64_any h.nt)
  obtain ⟨x, hx⟩ : ∃ x, wd X 0 = x := ⟨_, rfl⟩
  rw [hx] at H ⊢
  clear h hx
  go_enter Tryz.func104, Tryz.ntmps104
  go_wp2_with fail
  refine H.out.mono ?_
  rintro e w1 ⟨rfl, rfl⟩
  go_wp2_with fail
  go_ret
  exact ⟨rfl, rfl⟩
set_option maxRecDepth 100000 in
theorem bInt64_pos {b o : Nat} {a : Option Addr} {c X : Nat} {w : World} (h : IA w b o false a c X) :
    Calls Tryz.prog 70 #[.pointer (some ⟨b, o, none⟩)] w fun e w' => e = .returned (.int .i64 (wrap64 ((wd X 0 : Nat) : Int))) ∧ w' = w := by
  have H := Lib.hid (iInt64_pos h)
  clear h
  go_enter Tryz.func70, Tryz.ntmps70
  go_wp2_with fail
  refine H.out.mono ?_
  rintro e w1 ⟨rfl, rfl⟩
  go_wp2_with fail
  go_ret
  exact ⟨rfl, rfl⟩
set_option maxRecDepth 100000 in
theorem maxD (w : World) (hG : NG ≤ w.heap.size) :
    Calls Tryz.prog 67 #[] w fun e1 w' => ∃ a' c', e1 = .returned (.pointer (some ⟨w.heap.size, 0, none⟩)) ∧ DA w' w.heap.size 0 false 0 a' c' (2 ^ 63 - 1) ∧ Fr (fun _ _ => False) w w' := by
  have H := Lib.hid (dNew_any (w := w) 9223372036854775807 0 hG (by omega) (by omega))
  go_enter Tryz.func67, Tryz.ntmps67
  go_wp2_with fail
  refine H.out.mono ?_
  rintro e1 w1 ⟨a', c', rfl, s⟩
  have S := Aside.mk s
  clear s H
  go_wp2_with fail
  go_ret
  exact ⟨a', c', rfl, S.out⟩
set_option maxRecDepth 100000 in
theorem minD (w : World) (hG : NG ≤ w.heap.size) :
    Calls Tryz.prog 68 #[] w fun e1 w' => ∃ a' c', e1 = .returned (.pointer (some ⟨w.heap.size, 0, none⟩)) ∧ DA w' w.heap.size 0 true 0 a' c' (2 ^ 63) ∧ Fr (fun _ _ => False) w w' := by
  have H := Lib.hid (dNew_any (w := w) (-9223372036854775808) 0 hG (by omega) (by omega))
  go_enter Tryz.func68, Tryz.ntmps68
  go_wp2_with fail
  refine H.out.mono ?_
  rintro e1 w1 ⟨a', c', rfl, s⟩
  have S := Aside.mk s
  clear s H
  go_wp2_with fail
  go_ret
  exact ⟨a', c', rfl, S.out⟩
set_option maxRecDepth 100000 in
theorem noErr {w : World} {b : Nat} (h0 : w.cell? ⟨b, 0, none⟩ = some .nilIface) (h1 : w.cell? ⟨b, 1, none⟩ = some (.pointer none)) :
    Calls Tryz.prog 69 #[.pointer (some ⟨b, 0, none⟩)] w fun e1 w' => e1 = .returned .nilIface ∧ w' = w := by
  go_enter Tryz.func69, Tryz.ntmps69
  go_wp2_with fail
  go_ret
  exact ⟨rfl, rfl⟩
end Go.Proofs.YtgilnnipephfjaaGreatDoor
namespace Go.Proofs.YtgilnnipephfjaaGreatDoor
open Go.RowKit

theorem ndig_mono {X Y : Nat} (h : X ≤ Y) : ndig X ≤ ndig Y := by
  by_cases h0 : X = 0
  · subst h0
    have e : ndig 0 = 1 := by unfold ndig; rw [dif_pos (by omega)]
    have := ndig_pos Y
    omega
  · have h1 := ndig_le h0
    have h2 := lt_ndig Y
    have h3 : 10 ^ (ndig X - 1) < 10 ^ ndig Y := by omega
    have := (Nat.pow_lt_pow_iff_right (by decide : 1 < 10)).1 h3
    omega
theorem bl_mono {X Y m : Nat} (h : X ≤ Y) (hY : bl Y ≤ m) : bl X ≤ m := (lt_two_iff X m).1 (Nat.lt_of_le_of_lt h ((lt_two_iff Y m).2 hY))
theorem bl_63 : bl (2 ^ 63) ≤ 1100 ∧ bl (2 ^ 63 - 1) ≤ 1100 ∧ ndig (2 ^ 63) ≤ 400 ∧ ndig (2 ^ 63 - 1) ≤ 400 := by
  have h1 : bl (2 ^ 63) ≤ 64 := (lt_two_iff _ _).1 (by decide)
  have h2 : bl (2 ^ 63 - 1) ≤ 64 := (lt_two_iff _ _).1 (by decide)
  have h3 : ndig (2 ^ 63) = 18 + 1 := ndig_eq_of (by decide) (by decide)
  have h4 : ndig (2 ^ 63 - 1) = 18 + 1 := ndig_eq_of (by decide) (by decide)
  omega
theorem two_dec {w W : World} {t : TypeId} (hG : NG ≤ w.heap.size) (hW : (w.alloc (.cells #[.int .i8 0, .bool false, .int .i32 0, .bool false, .slice none 0 0] t)).alloc (.cells #[.int .i8 0, .bool false, .int .i32 0, .bool false, .slice none 0 0] t) = W) :
    DA W w.heap.size 0 false 0 none 0 0 ∧ DA W (w.heap.size + 1) 0 false 0 none 0 0 ∧ Fr (fun _ _ => False) w W ∧ W.heap.size = w.heap.size + 2 := by
  obtain ⟨w1, h1⟩ : ∃ x, w.alloc (.cells #[.int .i8 0, .bool false, .int .i32 0, .bool false, .slice none 0 0] t) = x := ⟨_, rfl⟩
  rw [h1] at hW
  have s1 : w1.heap.size = w.heap.size + 1 := by rw [← h1]; simp
  have s4 : W.heap.size = w.heap.size + 1 + 1 := by rw [← hW, ← s1]; simp
  have f1 : Fr (fun _ _ => False) w w1 := by rw [← h1]; exact (Fr.refl _ w).alloc _
  have f2 : Fr (fun _ _ => False) w1 W := by rw [← hW]; exact (Fr.refl _ w1).alloc _
  have d1 := DA.new (w := w) hG t 0 false 0
  have d2 := DA.new (w := w1) (by omega) t 0 false 0
  rw [h1] at d1
  rw [hW, s1] at d2
  exact ⟨d1.fr f2 (fun _ _ _ q => q), d2, f1.trans f2, by omega⟩
set_option maxRecDepth 100000 in
set_option maxHeartbeats 4000000 in
theorem dInt64_any {w : World} {b : Nat} {n : Bool} {e : Int} {a : Option Addr} {c X : Nat} (g : Gl w) (h : DA w b 0 n e a c X) (he0 : -2500 ≤ e) (he1 : e ≤ 2500) (hd : ndig X ≤ 400) (hb : bl X ≤ 1100) :
    Calls Tryz.prog 32 #[.pointer (some ⟨b, 0, none⟩)] w fun ex w' => ∃ v er, ex = .returned (.tuple #[.int .i64 v, er]) ∧ Aside ((isI n e X = true ∧ er = .nilIface ∧ v = flip n (szI e X : Nat)) ∨ (isI n e X = false ∧ ∃ p, er = .iface 144 (.pointer (some p)))) ∧ Aside (Fr (fun _ _ => False) w w') := by
  have hG := g.size
  obtain ⟨yz, hyz⟩ : ∃ x, decide (mvY e X = 0) = x := ⟨_, rfl⟩
  obtain ⟨p1, hp1⟩ : ∃ x, (!n && decide (2 ^ 63 - 1 < szI e X)) = x := ⟨_, rfl⟩
  obtain ⟨p2, hp2⟩ : ∃ x, (n && decide (2 ^ 63 < szI e X)) = x := ⟨_, rfl⟩
  have HI : Aside (isI n e X = (yz && (!p1 && !p2))) := ⟨by rw [isI_parts, hyz, hp1, hp2]⟩
  have HL : Aside (isI n e X = true → szI e X ≤ lim64 n) := ⟨fun q => by unfold isI at q; simp at q; exact q.2⟩
  obtain ⟨sz, hsz⟩ : ∃ x, w.heap.size = x := ⟨_, rfl⟩
  obtain ⟨J, hJ⟩ : ∃ x, mvE e = x := ⟨_, rfl⟩
  obtain ⟨I, hI⟩ : ∃ x, mvX e X = x := ⟨_, rfl⟩
  have hJ0 : 0 ≤ J := by rw [← hJ]; exact mvE_ge e
  have hJ1 : J ≤ 2500 := by rw [← hJ]; exact mvE_le he1 (by omega)
  have hIX : I ≤ X := by rw [← hI]; exact mvX_le e X
  have hsI : szI e X = I * 10 ^ J.toNat := by unfold szI; rw [hI, hJ]
  have hbl := h.lt
  have HR : Hid (∀ W, (w.alloc (.cells #[.int .i8 0, .bool false, .int .i32 0, .bool false, .slice none 0 0] 71)).alloc (.cells #[.int .i8 0, .bool false, .int .i32 0, .bool false, .slice none 0 0] 71) = W →
      Calls Tryz.prog 64 #[.pointer (some ⟨b, 0, none⟩), .pointer (some ⟨sz, 0, none⟩), .pointer (some ⟨sz + 1, 0, none⟩)] W fun ex w1 => ex = .returned (.tuple #[]) ∧ Aside (Fr (fun _ _ => False) w w1) ∧
      Hid (Calls Tryz.prog 65 #[.pointer (some ⟨sz + 1, 0, none⟩)] w1 fun ex w2 => ex = .returned (.bool yz) ∧ w2 = w1) ∧
      Hid (∀ W3, w1.alloc (.cells #[.nilIface, .pointer none, .int .u32 0] 114) = W3 →
      Calls Tryz.prog 67 #[] W3 fun ex w4 => ∃ p, ex = .returned (.pointer (some ⟨p, 0, none⟩)) ∧
      Hid (Calls Tryz.prog 66 #[.pointer (some ⟨sz, 0, none⟩), .pointer (some ⟨p, 0, none⟩)] w4 fun ex w5 => ∃ r, ex = .returned (.int .i64 r) ∧ decide (0 < r) = p1 ∧ Aside (Fr (fun _ _ => False) w w5) ∧
      Hid (Calls Tryz.prog 68 #[] w5 fun ex w6 => ∃ p, ex = .returned (.pointer (some ⟨p, 0, none⟩)) ∧
      Hid (Calls Tryz.prog 66 #[.pointer (some ⟨sz, 0, none⟩), .pointer (some ⟨p, 0, none⟩)] w6 fun ex w7 => ∃ r, ex = .returned (.int .i64 r) ∧ decide (r < 0) = p2 ∧ Aside (Fr (fun _ _ => False) w w7) ∧
      Hid (Calls Tryz.prog 69 #[.pointer (some ⟨w1.heap.size, 0, none⟩)] w7 fun ex w8 => ex = .returned .nilIface ∧ w8 = w7) ∧
      Hid (Calls Tryz.prog 70 #[.pointer (some ⟨sz, 3, none⟩)] w7 fun ex w9 => ex = .returned (.int .i64 (wrap64 ((wd I 0 : Nat) : Int))) ∧ w9 = w7) ∧
      w7.cell? ⟨sz, 2, none⟩ = some (.int .i32 J) ∧ w7.cell? ⟨b, 1, none⟩ = some (.bool n)))))) := Lib.hid (fun W hW => by
    obtain ⟨z1, z2, fW, sW⟩ := two_dec hG hW
    rw [hsz] at z1 z2 sW
    rw [hsz] at hbl
    have P := h.fr fW (fun _ _ _ q => q)
    have lo : ∀ x y, dfoot b a c x y → x < sz := fun x y q => by
      rw [← hsz]
      rcases q with rfl | q
      · exact h.lt
      · exact h.num.nt.reg.lt x y q
    refine (modf_two (g.fr fW (fun _ _ q => q.elim)) P z1 z2 he0 hd hb (by have := nlen_bl (X := X) (m := 18) (by omega); omega) (fun x y q => by have := lo x y q; omega) (fun x y q => by have := lo x y q; omega) (by omega)).mono ?_
    rintro ex w1 ⟨a3, c3, a4, c4, rfl, K⟩
    obtain ⟨y1, y2, f3, o1, o2⟩ := K.out
    rw [hJ, hI] at y1
    have F1 : Fr (fun _ _ => False) w w1 := fW.trans' f3 (fun _ _ _ q => q) (fun x y hx q => by omega)
    refine ⟨rfl, ⟨F1⟩, Lib.hid ?_, Lib.hid (fun W3 hW3 => ?_)⟩
    · refine (dIsZero_any y2).mono ?_
      rintro ex w2 ⟨rfl, rfl⟩
      refine ⟨?_, rfl⟩
      rw [← hyz, dsgn_fin]
      by_cases q : mvY e X = 0
      · simp [q]
      · cases n <;> simp [q]
    · have g3 : Fr (fun _ _ => False) w1 W3 := by rw [← hW3]; exact (Fr.refl _ w1).alloc _
      have e0 : W3.cell? ⟨w1.heap.size, 0, none⟩ = some .nilIface := by rw [← hW3, World.cell?_alloc_new]; rfl
      have e1 : W3.cell? ⟨w1.heap.size, 1, none⟩ = some (.pointer none) := by rw [← hW3, World.cell?_alloc_new]; rfl
      have s3 : W3.heap.size = w1.heap.size + 1 := by rw [← hW3]; simp
      have F3 := F1.trans g3
      refine (maxD W3 (Nat.le_trans hG F3.size)).mono ?_
      rintro ex w4 ⟨a5, c5, rfl, m1, m2⟩
      have F4 := F3.trans m2
      have i4 := (y1.fr g3 (fun _ _ _ q => q)).fr m2 (fun _ _ _ q => q)
      have n1 : sz ≠ W3.heap.size := by have := F3.size; have := F1.size; have := f3.size; omega
      refine ⟨_, rfl, Lib.hid ?_⟩
      refine (dCmp_any (g.fr F4 (fun _ _ q => q.elim)) i4 m1 n1 (bl_mono hIX hb) bl_63.2.1 (Nat.le_trans (ndig_mono hIX) hd) bl_63.2.2.2 ⟨by omega, by omega⟩ ⟨by omega, by omega⟩).mono ?_
      rintro ex w5 ⟨rfl, m5⟩
      have F5 := F4.trans m5
      refine ⟨_, rfl, by rw [too_big hJ0, ← hsI, hp1], ⟨F5⟩, Lib.hid ?_⟩
      refine (minD w5 (Nat.le_trans hG F5.size)).mono ?_
      rintro ex w6 ⟨a6, c6, rfl, k1, k2⟩
      have F6 := F5.trans k2
      have i6 := (i4.fr m5 (fun _ _ _ q => q)).fr k2 (fun _ _ _ q => q)
      refine ⟨_, rfl, Lib.hid ?_⟩
      have n2 : sz ≠ w5.heap.size := by have := F4.size; have := m5.size; have := m2.size; have := F3.size; have := F1.size; have := f3.size; omega
      refine (dCmp_any (g.fr F6 (fun _ _ q => q.elim)) i6 k1 n2 (bl_mono hIX hb) bl_63.1 (Nat.le_trans (ndig_mono hIX) hd) bl_63.2.2.1 ⟨by omega, by omega⟩ ⟨by omega, by omega⟩).mono ?_
      rintro ex w7 ⟨rfl, m7⟩
      have F7 := F6.trans m7
      have i7 := i6.fr m7 (fun _ _ _ q => q)
      have g7 := ((m2.trans m5).trans k2).trans m7
      refine ⟨_, rfl, by rw [too_small hJ0, ← hsI, hp2], ⟨F7⟩, Lib.hid ?_, Lib.hid (bInt64_pos i7.num), i7.exp, (h.fr F7 (fun _ _ _ q => q)).neg⟩
      exact noErr ((g7.cell _ 0 (by omega) (fun q => q)).trans e0) ((g7.cell _ 1 (by omega) (fun q => q)).trans e1))
  have hf := h.form
  have HX := Aside.mk (And.intro hsI (And.intro hJ0 hJ1))
  clear h g hd hb hyz hp1 hp2 hJ hI hIX hsI he0 he1 hG hJ0 hJ1
  go_enter Tryz.func32, Tryz.ntmps32
  go_wp2_with fail
  try rw [hsz]
  obtain ⟨W, hW⟩ : ∃ W, (w.alloc (.cells #[.int .i8 0, .bool false, .int .i32 0, .bool false, .slice none 0 0] 71)).alloc (.cells #[.int .i8 0, .bool false, .int .i32 0, .bool false, .slice none 0 0] 71) = W := ⟨_, rfl⟩
  rw [hW]
  refine (HR.out W hW).mono ?_
  rintro ex w1 ⟨rfl, F1, Hz, HC⟩
  clear HR hW
  go_wp2_with fail
  refine Hz.out.mono ?_
  rintro ex w2 ⟨rfl, rfl⟩
  clear Hz
  cases yz
  · clear HC
    go_wp2_with fail
    refine (errNew _ _).mono ?_
    rintro ex w3 ⟨rfl, F⟩
    have FF := Aside.mk F
    clear F
    go_wp2_with fail
    go_ret2
    exact ⟨_, _, rfl, ⟨.inr ⟨by rw [HI.out]; rfl, _, rfl⟩⟩, ⟨F1.out.trans FF.out⟩⟩
  · go_wp2_with fail
    obtain ⟨W3, hW3⟩ : ∃ W, w2.alloc (.cells #[.nilIface, .pointer none, .int .u32 0] 114) = W := ⟨_, rfl⟩
    rw [hW3]
    refine (HC.out W3 hW3).mono ?_
    rintro ex w4 ⟨p, rfl, H5⟩
    clear HC hW3
    go_wp2_with fail
    refine H5.out.mono ?_
    rintro ex w5 ⟨r, rfl, hr, F5, H6⟩
    clear H5
    cases p1
    case true =>
      clear H6
      go_wp2_with fail
      refine (errNew _ _).mono ?_
      rintro ex w6 ⟨rfl, F⟩
      have FF := Aside.mk F
      clear F
      go_wp2_with fail
      go_ret2
      exact ⟨_, _, rfl, ⟨.inr ⟨by rw [HI.out]; rfl, _, rfl⟩⟩, ⟨F5.out.trans FF.out⟩⟩
    case false =>
      go_wp2_with fail
      refine H6.out.mono ?_
      rintro ex w6 ⟨p, rfl, H7⟩
      clear H6 hr
      go_wp2_with fail
      refine H7.out.mono ?_
      rintro ex w7 ⟨r, rfl, hr, F7, HE, HN, x2, y1⟩
      clear H7
      cases p2
      case true =>
        clear HE HN
        go_wp2_with fail
        refine (errNew _ _).mono ?_
        rintro ex w8 ⟨rfl, F⟩
        have FF := Aside.mk F
        clear F
        go_wp2_with fail
        go_ret2
        exact ⟨_, _, rfl, ⟨.inr ⟨by rw [HI.out]; rfl, _, rfl⟩⟩, ⟨F7.out.trans FF.out⟩⟩
      case false =>
        have HI2 : Aside (isI n e X = true) := ⟨by rw [HI.out]; rfl⟩
        clear HI
        go_wp2_with fail
        refine HE.out.mono ?_
        rintro ex w8 ⟨rfl, rfl⟩
        clear HE hr
        go_wp2_with fail
        refine HN.out.mono ?_
        rintro ex w9 ⟨rfl, rfl⟩
        clear HN
        have hv0 : wrap64 ((wd I 0 : Nat) : Int) = wrap64 (((I * 10 ^ 0 : Nat) : Nat) : Int) := by rw [w64_wd]; simp
        obtain ⟨v0, hv0'⟩ : ∃ v, wrap64 ((wd I 0 : Nat) : Int) = v := ⟨_, rfl⟩
        rw [hv0'] at hv0 ⊢
        have HV := Aside.mk hv0
        clear hv0 hv0'
        go_wp2_with fail
        go_loopw [8, 9] (fun vv iv wr => wr = w9 ∧ ∃ (k : Nat) (v : Int), vv = .int .i64 v ∧ iv = .int .i32 (k : Nat) ∧ (k : Int) ≤ J ∧ Aside (v = wrap64 ((I * 10 ^ k : Nat) : Int))) (fun _ iv _ => (J - intOf iv).toNat)
        case atStart => exact ⟨rfl, 0, v0, rfl, rfl, HX.out.2.1, HV⟩
        case round =>
          obtain ⟨rfl, k, v, rfl, rfl, hk, hv⟩ := hrel
          by_cases hkJ : (k : Int) < J
          · have q1 : decide ((k : Int) < J) = true := by simpa using hkJ
            have q2 : IntKind.i32.wrap ((k : Int) + 1) = ((k + 1 : Nat) : Int) := by have := HX.out.2.2; rw [IntKind.wrap_i32]; omega
            have hst : wrap64 (v * 10) = wrap64 ((I * 10 ^ (k + 1) : Nat) : Int) := by
              rw [hv.out, w64_mul, Nat.pow_succ, ← Nat.mul_assoc]
              rfl
            have HST := Aside.mk hst
            have HK := Aside.mk hkJ
            clear hkJ hst
            go_wp2_with fail
            go_roundw
            case rel => exact ⟨trivial, k + 1, wrap64 (v * 10), rfl, by go_num, by have := HK.out; omega, ⟨HST.out⟩⟩
            case measure => have := HK.out; simp [intOf]; omega
          · have q1 : decide ((k : Int) < J) = false := by simpa using hkJ
            have hfin : (if n then wrap64 (-v) else v) = flip n (szI e X : Nat) := by
              rw [hv.out, show k = J.toNat by omega, ← HX.out.1]
              exact w64_fin (HL.out HI2.out)
            have HFI := Aside.mk hfin
            clear hkJ hfin
            cases n
            · go_wp2_with fail
              go_ret2
              exact ⟨_, _, rfl, ⟨.inl ⟨HI2.out, rfl, by have := HFI.out; simpa using this⟩⟩, F7⟩
            · go_wp2_with fail
              go_ret2
              exact ⟨_, _, rfl, ⟨.inl ⟨HI2.out, rfl, by have := HFI.out; simpa using this⟩⟩, F7⟩
end Go.Proofs.YtgilnnipephfjaaGreatDoor
namespace Go.Proofs.YtgilnnipephfjaaGreatDoor
open Go.RowKit

set_option maxRecDepth 100000 in
theorem dInt64_nf {w : World} {b : Nat} {f : Int} {n : Bool} {e : Int} {a : Option Addr} {c X : Nat} (h : DA w b f n e a c X) (hf : f ≠ 0) :
    Calls Tryz.prog 32 #[.pointer (some ⟨b, 0, none⟩)] w fun ex w' => ∃ v er, ex = .returned (.tuple #[.int .i64 v, er]) ∧ (∃ p, er = .iface 144 (.pointer (some p))) ∧ Aside (Fr (fun _ _ => False) w w') := by
  have h0 := h.form
  have q : (f != 0) = true := by simpa using hf
  clear h hf
  go_enter Tryz.func32, Tryz.ntmps32
  go_wp2_with fail
  refine (errNew _ _).mono ?_
  rintro ex w3 ⟨rfl, F⟩
  have FF := Aside.mk F
  clear F
  go_wp2_with fail
  go_ret2
  exact ⟨_, _, rfl, ⟨_, rfl⟩, FF⟩
/-- Whether impl.Int64 gives a number. -/
def okI (f : Nat) (n : Bool) (e : Int) (X : Nat) : Bool := decide (f = 0) && isI n e X
theorem dInt64_f {w : World} {b : Nat} {f : Nat} {n : Bool} {e : Int} {a : Option Addr} {c X : Nat} (g : Gl w) (h : DA w b f n e a c X) (he0 : -2500 ≤ e) (he1 : e ≤ 2500) (hd : ndig X ≤ 400) (hb : bl X ≤ 1100) :
    Calls Tryz.prog 32 #[.pointer (some ⟨b, 0, none⟩)] w fun ex w' => ∃ v er, ex = .returned (.tuple #[.int .i64 v, er]) ∧ ((er = .nilIface ∧ Aside (okI f n e X = true ∧ v = flip n (szI e X : Nat))) ∨ ((∃ p, er = .iface 144 (.pointer (some p))) ∧ Aside (okI f n e X = false))) ∧ Aside (Fr (fun _ _ => False) w w') := by
  by_cases hf : f = 0
  · subst hf
    refine (dInt64_any g h he0 he1 hd hb).mono ?_
    rintro ex w' ⟨v, er, rfl, k, F⟩
    refine ⟨v, er, rfl, ?_, F⟩
    rcases k.out with ⟨k1, k2, k3⟩ | ⟨k1, k2⟩
    · exact .inl ⟨k2, ⟨by unfold okI; rw [k1]; rfl, k3⟩⟩
    · exact .inr ⟨k2, ⟨by unfold okI; rw [k1]; rfl⟩⟩
  · refine (dInt64_nf h (by omega)).mono ?_
    rintro ex w' ⟨v, er, rfl, k, F⟩
    exact ⟨v, er, rfl, .inr ⟨k, ⟨by unfold okI; rw [decide_eq_false hf]; rfl⟩⟩, F⟩
theorem dig_bounds {s : ByteArray} (hdg : Digs s.data.toList) (hs : s.size ≤ 300) : ndig (numOf s.data.toList) ≤ 400 ∧ bl (numOf s.data.toList) ≤ 1100 := by
  have hsl : s.data.toList.length = s.size := rfl
  obtain ⟨X, hX⟩ : ∃ X, numOf s.data.toList = X := ⟨_, rfl⟩
  have hlt := numOf_lt hdg
  rw [hX, hsl] at hlt
  have hsm : Sm X := by rw [← hX]; exact sm_digs hdg (by omega)
  have hnl := sm_len hsm
  rw [hX]
  constructor
  · by_cases z : X = 0
    · subst z
      have : ndig 0 = 1 := by unfold ndig; rw [dif_pos (by omega)]
      omega
    · have h9 := ndig_le z
      have h10 : 10 ^ (ndig X - 1) < 10 ^ s.size := Nat.lt_of_le_of_lt h9 hlt
      have := (Nat.pow_lt_pow_iff_right (by decide : 1 < 10)).1 h10
      omega
  · obtain ⟨k, hk⟩ : ∃ k, k = 16 := ⟨_, rfl⟩
    obtain ⟨m, hm⟩ : ∃ m, m = 1100 := ⟨_, rfl⟩
    have h1 : X < B ^ k := Nat.lt_of_lt_of_le (nlen_lt X) (Nat.pow_le_pow_right B_pos (by rw [hk]; exact hnl))
    rw [B_two, ← Nat.pow_mul] at h1
    rw [← hm]
    exact (lt_two_iff X m).1 (Nat.lt_of_lt_of_le h1 (Nat.pow_le_pow_right (by omega) (by omega)))
set_option maxRecDepth 100000 in
set_option maxHeartbeats 2000000 in
theorem int641_any {w : World} {pd pn po f : Nat} {e : Int} {n : Bool} {s : ByteArray} (g : Gv w) (hf : f ≤ 3) (hd : D4 w pd f n e s) (hk : Cl w pn 0 (.int .i64 0)) (ho : Cl w po 0 (.bool false)) (hno : pn ≠ po)
    (hdg : Digs s.data.toList) (h0 : 0 < s.size) (hs : s.size ≤ 300) (he0 : -2500 ≤ e) (he1 : e ≤ 2500) :
    Calls Tryz.prog 30 #[.pointer (some ⟨pd, 0, none⟩), .pointer (some ⟨pn, 0, none⟩), .pointer (some ⟨po, 0, none⟩)] w fun e1 w' =>
      e1 = .returned (.tuple #[]) ∧ (∃ v, (okI f n e (numOf s.data.toList) = true → v = flip n (szI e (numOf s.data.toList) : Nat)) ∧ Cl w' pn 0 (.int .i64 v)) ∧ Cl w' po 0 (.bool (okI f n e (numOf s.data.toList))) ∧ Fr (fun b _ => b = pn ∨ b = po) w w' := by
  obtain ⟨hb1, hb2⟩ := dig_bounds hdg hs
  obtain ⟨X, hX⟩ : ∃ X, numOf s.data.toList = X := ⟨_, rfl⟩
  rw [hX] at hb1 hb2 ⊢
  have HR : Hid (Calls Tryz.prog 31 #[.agg #[.int .i64 f, .bool n, .int .i32 e, .string s]] w fun ex w2 => ∃ p, ex = .returned (.pointer (some ⟨p, 0, none⟩)) ∧
      Hid (Calls Tryz.prog 32 #[.pointer (some ⟨p, 0, none⟩)] w2 fun ex w3 => ∃ v er, ex = .returned (.tuple #[.int .i64 v, er]) ∧ ((er = .nilIface ∧ Aside (okI f n e X = true ∧ v = flip n (szI e X : Nat))) ∨ ((∃ p, er = .iface 144 (.pointer (some p))) ∧ Aside (okI f n e X = false))) ∧
        (w3.cell? ⟨pn, 0, none⟩ = some (.int .i64 0) ∧ w3.frozen? ⟨pn, 0, none⟩ = false ∧ w3.cell? ⟨po, 0, none⟩ = some (.bool false) ∧ w3.frozen? ⟨po, 0, none⟩ = false) ∧ Aside (Fr (fun _ _ => False) w w3))) := Lib.hid (by
    refine (dec_any f hf g hdg h0 (by omega)).mono ?_
    rintro ex w2 ⟨p, a, c, rfl, k1, k2, k3, k4⟩
    rw [hX] at k1
    refine ⟨p, rfl, Lib.hid ?_⟩
    refine (dInt64_f (g.new k2).g k1 he0 he1 hb1 hb2).mono ?_
    rintro ex w3 ⟨v, er, rfl, k, F⟩
    have f3 := k2.trans F.out
    have n5 := hk.fr f3 (fun q => q)
    have o5 := ho.fr f3 (fun q => q)
    exact ⟨v, er, rfl, k, ⟨n5.cell, n5.free, o5.cell, o5.free⟩, ⟨f3⟩⟩)
  obtain ⟨d0, d1, d2, d3, _⟩ := E8.of hd
  have HK := Aside.mk hk
  have HO := Aside.mk ho
  have HN := Aside.mk hno
  have hno1 : ¬ pn = po := hno
  have hno2 : ¬ po = pn := fun q => hno q.symm
  clear hd hk ho hno g hdg h0 hs hX hb1 hb2 he0 he1 hf
  go_enter Tryz.func30, Tryz.ntmps30
  go_wp2_with fail
  refine HR.out.mono ?_
  rintro ex w2 ⟨p, rfl, q1⟩
  clear HR
  go_wp2_with fail
  refine q1.out.mono ?_
  rintro ex w3 ⟨v, er, rfl, K, ⟨m0, m1, m2, m3⟩, F⟩
  clear q1 d0 d1 d2 d3
  rcases K with ⟨rfl, K⟩ | ⟨⟨p2, rfl⟩, K⟩
  all_goals
    go_wp2_with fail
    go_region_with (fail)
    all_goals
      go_wp2_with fail
      go_end0
      have F3 := F.out.drew
      have k3 := HK.out.fr F3 (fun q => q)
      have o3 := HO.out.fr F3 (fun q => q)
      refine ⟨rfl, ⟨v, ?_, ?_⟩, ?_, ?_⟩
      · first | exact fun _ => K.out.2 | exact fun q => by rw [K.out] at q; cases q
      · exact (k3.set _).other po 0 _ (.inl hno2)
      · first | (rw [K.out.1]; exact (o3.other pn 0 _ (.inl hno1)).set _) | (rw [K.out]; exact (o3.other pn 0 _ (.inl hno1)).set _)
      · exact ((F3.mono (fun _ _ _ q => q.elim)).setCell pn 0 _ (fun _ => .inl rfl)).setCell po 0 _ (fun _ => .inr rfl)
theorem enter_int641 (caps : Array Value) (w : World) : (callFunc 30 caps).run Tryz.prog w = .ok (.enter 30 caps) w := by kernel_rfl
set_option maxRecDepth 100000 in
theorem int64_results {W : World} {p q : Nat} {k : Int} {b : Bool} (hP : Cl W p 0 (.int .i64 k)) (hM : Cl W q 0 (.bool b)) (tmps : Array Value) (h4 : tmps.getD 2 undef = .pointer (some ⟨p, 0, none⟩)) (h5 : tmps.getD 3 undef = .pointer (some ⟨q, 0, none⟩)) :
    (results Tryz.f11 tmps).run Tryz.prog W = .ok (.tuple #[.int .i64 k, .bool b]) W := by
  have m0 := hP.cell
  have m1 := hM.cell
  simp only [Array.getD_eq_getD_getElem?] at h4 h5
  simp [results, Tryz.results11, go_sem, m0, m1, h4, h5]
set_option maxRecDepth 100000 in
set_option maxHeartbeats 2000000 in
theorem int64_any {w : World} {f : Nat} {e : Int} {n : Bool} {s : ByteArray} (g : Gv w) (hf : f ≤ 3) (hdg : Digs s.data.toList) (h0 : 0 < s.size) (hs : s.size ≤ 300) (he0 : -2500 ≤ e) (he1 : e ≤ 2500) :
    Calls Tryz.prog 11 #[.agg #[.int .i64 f, .bool n, .int .i32 e, .string s]] w fun e1 w' => ∃ v, e1 = .returned (.tuple #[.int .i64 v, .bool (okI f n e (numOf s.data.toList))]) ∧ Aside (okI f n e (numOf s.data.toList) = true → v = flip n (szI e (numOf s.data.toList) : Nat)) ∧ Aside (Fr (fun _ _ => False) w w') := by
  have hG := g.g.size
  have hm := hmf
  obtain ⟨sz, hsz⟩ : ∃ x, w.heap.size = x := ⟨_, rfl⟩
  obtain ⟨w1, hw1⟩ : ∃ z, ((w.alloc (.cells #[.int .i64 f, .bool n, .int .i32 e, .string s] 24)).alloc (.cells #[.int .i64 0] 2)).alloc (.cells #[.bool false] 4) = z := ⟨_, rfl⟩
  have F1 : Fr (fun _ _ => False) w w1 := by rw [← hw1]; exact ((((Fr.refl _ w).alloc _).alloc _).alloc _)
  have hs1 : w1.heap.size = sz + 3 := by rw [← hw1, ← hsz]; simp
  have cd : D4 w1 sz f n e s := by
    rw [← hw1, ← hsz]; exact (D4.new (w := w) f e n s 24).fr (((Fr.refl (fun _ _ => False) _).alloc _).alloc _) (fun _ q => q)
  have cn : Cl w1 (sz + 1) 0 (.int .i64 0) := by
    have := (Cl.new (w := w.alloc (.cells #[.int .i64 f, .bool n, .int .i32 e, .string s] 24)) (by simp; omega) (.int .i64 0) 2).fr ((Fr.refl (fun _ _ => False) _).alloc (.cells #[.bool false] 4)) (fun q => q)
    rw [hw1, World.size_alloc, hsz] at this; exact this
  have co : Cl w1 (sz + 2) 0 (.bool false) := by
    have := Cl.new (w := (w.alloc (.cells #[.int .i64 f, .bool n, .int .i32 e, .string s] 24)).alloc (.cells #[.int .i64 0] 2)) (by simp; omega) (.bool false) 4
    rw [hw1, World.size_alloc, World.size_alloc, hsz] at this; exact this
  have a1 := (Fr.refl (fun _ _ => False) w1).alloc (.cells #[.bool false] 4)
  obtain ⟨X, hX⟩ : ∃ X, numOf s.data.toList = X := ⟨_, rfl⟩
  obtain ⟨ok, hok⟩ : ∃ x, okI f n e X = x := ⟨_, rfl⟩
  obtain ⟨Z, hZ⟩ : ∃ x : Int, flip n (szI e X : Nat) = x := ⟨_, rfl⟩
  have hS : Hid (Calls Tryz.prog 23 #[.func (.func 30) #[] #[.pointer (some ⟨sz, 0, none⟩), .pointer (some ⟨sz + 1, 0, none⟩), .pointer (some ⟨sz + 2, 0, none⟩)]] w1 fun e1 w' =>
      e1 = .returned (.bool true) ∧ Aside (∃ v, (ok = true → v = Z) ∧ Cl w' (sz + 1) 0 (.int .i64 v) ∧ Cl w' (sz + 2) 0 (.bool ok) ∧ Fr (fun _ _ => False) w w')) := Lib.hid (by
    have hp := int641_any (g.new (F1.trans a1)) hf (cd.fr a1 (fun _ q => q)) (cn.fr a1 (fun q => q)) (co.fr a1 (fun q => q)) (by omega) hdg h0 hs he0 he1
    rw [hX, hok, hZ] at hp
    refine (safe_any (P := fun w' => (∃ v, (ok = true → v = Z) ∧ Cl w' (sz + 1) 0 (.int .i64 v)) ∧ Cl w' (sz + 2) 0 (.bool ok) ∧ Fr (fun _ _ => False) w w') 30 _ w1 (enter_int641 _) (hp.mono ?_)).mono ?_
    · rintro e w' ⟨rfl, k1, k2, k3⟩
      have hnew := Cl.new (w := w1) (by rw [hs1]; omega) (.bool false) 4
      have h4 := hnew.fr k3 (by rw [hs1]; omega)
      exact ⟨rfl, h4.cell, h4.free, k1, k2, (F1.trans a1).trans' k3 (fun _ _ _ k => k) (fun x y hx k => by rw [hsz] at hx; omega)⟩
    · rintro e w' ⟨rfl, w2, ⟨⟨v, kv, k1⟩, k2, k3⟩, rfl⟩
      have f2 := ((Fr.refl (fun x _ => x = w1.heap.size) w2).setCell w1.heap.size 0 (.bool true) (fun _ => rfl)).setCell w1.heap.size 0 (.bool true) (fun _ => rfl)
      exact ⟨rfl, ⟨v, kv, k1.fr f2 (by rw [hs1]; omega), k2.fr f2 (by rw [hs1]; omega), k3.trans' f2 (fun _ _ _ k => k) (fun x y hx k => by rw [hsz] at hx; rw [hs1] at k; omega)⟩⟩)
  rw [hX, hok, hZ]
  clear hdg h0 hs g F1 a1 cd cn co hs1 hX hok hZ he0 he1 hf
  go_enter Tryz.func11, Tryz.ntmps11
  go_wp2_with fail
  try rw [show sz + 1 + 1 = sz + 2 from rfl]
  have HSZ := Aside.mk hsz
  clear hw1 hsz hG
  refine hS.out.mono ?_
  rintro e1 w2 ⟨rfl, hA⟩
  obtain ⟨v, hv, hP, hM, hfr⟩ := hA.out
  have HA := Aside.mk (And.intro hv (And.intro hP (And.intro hM hfr)))
  have m0 := hP.cell
  have m1 := hP.free
  have m2 := hM.cell
  have m3 := hM.free
  clear hS hA hv hP hM hfr
  have hne1 : ¬ sz + 1 = sz + 2 := by omega
  have hne2 : ¬ sz + 2 = sz + 1 := by omega
  cases ok
  · go_wp2_with fail
    obtain ⟨hv, hP, hM, hfr⟩ := HA.out
    have P := (hP.set (.int .i64 0)).other (sz + 2) 0 (.bool false) (.inl hne2)
    have M := (hM.other (sz + 1) 0 (.int .i64 0) (.inl hne1)).set (.bool false)
    have R : Fr (fun _ _ => False) w _ := (hfr.setCell (sz + 1) 0 (.int .i64 0) (fun q => by rw [HSZ.out] at q; omega)).setCell (sz + 2) 0 (.bool false) (fun q => by rw [HSZ.out] at q; omega)
    with_reducible refine bodyPost_ret (int64_results P M _ ?_ ?_) ?_ ⟨0, rfl, ⟨fun q => by cases q⟩, ⟨R⟩⟩
    all_goals rfl
  · go_wp2_with fail
    obtain ⟨hv, hP, hM, hfr⟩ := HA.out
    have P := (hP.set (.int .i64 v)).other (sz + 2) 0 (.bool true) (.inl hne2)
    have M := (hM.other (sz + 1) 0 (.int .i64 v) (.inl hne1)).set (.bool true)
    have R : Fr (fun _ _ => False) w _ := (hfr.setCell (sz + 1) 0 (.int .i64 v) (fun q => by rw [HSZ.out] at q; omega)).setCell (sz + 2) 0 (.bool true) (fun q => by rw [HSZ.out] at q; omega)
    with_reducible refine bodyPost_ret (int64_results P M _ ?_ ?_) ?_ ⟨v, rfl, ⟨by simpa using hv⟩, ⟨R⟩⟩
    all_goals rfl
end Go.Proofs.YtgilnnipephfjaaGreatDoor
