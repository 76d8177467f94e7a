/- impl.FromInt whole. laws.textAlive is true. The reference's numbers: OfUint, Of, Abs, Text. The reference's numbers: Of, Abs, Text. The text of a number of the reference's that is not below 0. -/
import Derived.Test.YtkfephcllglkkaaGreatDoorM23Impl4
set_option linter.unusedSimpArgs false
set_option linter.unusedVariables false
namespace Go.Proofs.YtkfephcllglkkaaGreatDoor
open Go.RowKit

theorem enter_fromInt1 (caps : Array Value) (w : World) : (callFunc 22 caps).run Tryz.prog w = .ok (.enter 22 caps) w := by kernel_rfl
theorem D4.drew {w : World} {b : Nat} {f e : Int} {n : Bool} {s : ByteArray} (h : D4 w b f n e s) : D4 w.drew b f n e s := h.fr ((Fr.refl (fun _ _ => False) w).drew) (fun _ q => q)
set_option maxRecDepth 100000 in
theorem fromInt_results {W : World} {p q : Nat} {bx : Bool} {y : Int} {T : ByteArray} (hP : D4 W p 0 bx 0 T) (hM : D4 W q 0 bx y T) (tmps : Array Value) (h4 : tmps.getD 4 undef = .pointer (some ⟨p, 0, none⟩)) (h5 : tmps.getD 5 undef = .pointer (some ⟨q, 0, none⟩)) :
    (results Tryz.f9 tmps).run Tryz.prog W = .ok (.tuple #[.agg #[.int .i64 0, .bool bx, .int .i32 0, .string T], .agg #[.int .i64 0, .bool bx, .int .i32 y, .string T]]) W := by
  obtain ⟨s0, s1, s2, s3, _⟩ := E8.of hP
  obtain ⟨m0, m1, m2, m3, _⟩ := E8.of hM
  simp only [Array.getD_eq_getD_getElem?] at h4 h5
  simp [results, Tryz.results9, go_sem, s0, s1, s2, s3, m0, m1, m2, m3, h4, h5]
set_option maxRecDepth 100000 in
set_option maxHeartbeats 1000000 in
theorem fromInt_any {w : World} {x y : Int} (g : Gv w) (h0 : -9223372036854775808 ≤ x) (h1 : x ≤ 9223372036854775807) :
    Calls Tryz.prog 9 #[.int .i64 x, .int .i32 y] w fun e1 w' => e1 = .returned (.tuple #[.agg #[.int .i64 0, .bool (decide (x < 0)), .int .i32 0, .string (mk (natText x.natAbs))], .agg #[.int .i64 0, .bool (decide (x < 0)), .int .i32 y, .string (mk (natText x.natAbs))]]) ∧ Fr (fun _ _ => False) w w' := by
  have hG := g.g.size
  have hm := hmf
  obtain ⟨T, hT⟩ : ∃ T, mk (natText x.natAbs) = T := ⟨_, rfl⟩
  obtain ⟨bx, hbx⟩ : ∃ b, decide (x < 0) = b := ⟨_, rfl⟩
  obtain ⟨sz, hsz⟩ : ∃ x, w.heap.size = x := ⟨_, rfl⟩
  obtain ⟨w1, hw1⟩ : ∃ z, (((w.alloc (.cells #[.int .i64 x] 2)).alloc (.cells #[.int .i32 y] 21)).alloc (.cells #[.int .i64 0, .bool false, .int .i32 0, .string ⟨#[]⟩] 23)).alloc (.cells #[.int .i64 0, .bool false, .int .i32 0, .string ⟨#[]⟩] 23) = z := ⟨_, rfl⟩
  have F1 : Fr (fun _ _ => False) w w1 := by rw [← hw1]; exact (((((Fr.refl _ w).alloc _).alloc _).alloc _).alloc _)
  have hs1 : w1.heap.size = sz + 4 := by rw [← hw1, ← hsz]; simp
  have cn : Cl w1 sz 0 (.int .i64 x) := by
    rw [← hw1, ← hsz]; exact (Cl.new hG (.int .i64 x) 2).fr ((((Fr.refl (fun _ _ => False) _).alloc _).alloc _).alloc _) (fun q => q)
  have ce : Cl w1 (sz + 1) 0 (.int .i32 y) := by
    have := (Cl.new (w := w.alloc (.cells #[.int .i64 x] 2)) (by simp; omega) (.int .i32 y) 21).fr (((Fr.refl (fun _ _ => False) _).alloc (.cells #[.int .i64 0, .bool false, .int .i32 0, .string ⟨#[]⟩] 23)).alloc (.cells #[.int .i64 0, .bool false, .int .i32 0, .string ⟨#[]⟩] 23)) (fun q => q)
    rw [hw1, World.size_alloc, hsz] at this; exact this
  have cs : D4 w1 (sz + 2) 0 false 0 ⟨#[]⟩ := by
    have := (D4.new (w := (w.alloc (.cells #[.int .i64 x] 2)).alloc (.cells #[.int .i32 y] 21)) 0 0 false ⟨#[]⟩ 23).fr ((Fr.refl (fun _ _ => False) _).alloc (.cells #[.int .i64 0, .bool false, .int .i32 0, .string ⟨#[]⟩] 23)) (fun _ q => q)
    rw [hw1, World.size_alloc, World.size_alloc, hsz] at this; exact this
  have cm : D4 w1 (sz + 3) 0 false 0 ⟨#[]⟩ := by
    have := D4.new (w := ((w.alloc (.cells #[.int .i64 x] 2)).alloc (.cells #[.int .i32 y] 21)).alloc (.cells #[.int .i64 0, .bool false, .int .i32 0, .string ⟨#[]⟩] 23)) 0 0 false ⟨#[]⟩ 23
    rw [hw1, World.size_alloc, World.size_alloc, World.size_alloc, hsz] at this; exact this
  have a1 := (Fr.refl (fun _ _ => False) w1).alloc (.cells #[.bool false] 4)
  have hS : Hid (Calls Tryz.prog 16 #[.func (.func 22) #[] #[.pointer (some ⟨sz, 0, none⟩), .pointer (some ⟨sz + 2, 0, none⟩), .pointer (some ⟨sz + 1, 0, none⟩), .pointer (some ⟨sz + 3, 0, none⟩)]] w1 fun e w' =>
      e = .returned (.bool true) ∧ Aside (D4 w' (sz + 2) 0 bx 0 T ∧ D4 w' (sz + 3) 0 bx y T ∧ Fr (fun _ _ => False) w w')) := Lib.hid (by
    have hp := fromInt1_any (g.new (F1.trans a1)) (cn.fr a1 (fun q => q)) (cs.fr a1 (fun _ q => q)) (ce.fr a1 (fun q => q)) (cm.fr a1 (fun _ q => q)) (by omega) ⟨by omega, by omega⟩ (by omega) h0 h1
    rw [hT, hbx] at hp
    refine (safe_any (P := fun w' => D4 w' (sz + 2) 0 bx 0 T ∧ D4 w' (sz + 3) 0 bx y T ∧ Fr (fun _ _ => False) w w') 22 _ w1 (enter_fromInt1 _) (hp.mono ?_)).mono ?_
    · rintro e w' ⟨rfl, k1, k2, k3⟩
      have hnew := Cl.new (w := w1) (by rw [hs1]; omega) (.bool false) 4
      have h4 := hnew.fr k3 (by rw [hs1]; omega)
      exact ⟨rfl, h4.cell, h4.free, k1, k2, (F1.trans a1).trans' k3 (fun _ _ _ k => k) (fun x y hx k => by rw [hsz] at hx; omega)⟩
    · rintro e w' ⟨rfl, w2, ⟨k1, k2, k3⟩, rfl⟩
      have f2 := ((Fr.refl (fun x _ => x = w1.heap.size) w2).setCell w1.heap.size 0 (.bool true) (fun _ => rfl)).setCell w1.heap.size 0 (.bool true) (fun _ => rfl)
      exact ⟨rfl, ⟨k1.fr f2 (fun _ => by rw [hs1]; omega), k2.fr f2 (fun _ => by rw [hs1]; omega), k3.trans' f2 (fun _ _ _ k => k) (fun x y hx k => by rw [hsz] at hx; rw [hs1] at k; omega)⟩⟩)
  rw [hT, hbx]
  clear hT hbx h0 h1 g F1 a1 cn ce cs cm hs1
  go_enter Tryz.func9, Tryz.ntmps9
  go_wp2_with fail
  rw [show sz + 1 + 1 + 1 = sz + 3 from rfl, show sz + 1 + 1 = sz + 2 from rfl]
  have HSZ := Aside.mk hsz
  clear hw1 hsz hG
  refine hS.out.mono ?_
  rintro e w2 ⟨rfl, hA⟩
  obtain ⟨s0, s1, s2, s3, s4, s5, s6, s7⟩ := E8.of hA.out.1
  obtain ⟨m0, m1, m2, m3, m4, m5, m6, m7⟩ := E8.of hA.out.2.1
  clear hS
  go_wp2_with fail
  go_region
  clear s0 s1 s2 s3 s4 s5 s6 s7 m0 m1 m2 m3 m4 m5 m6 m7
  all_goals
    go_wp2_with fail
    have P := D4.drew ((hA.out.1.put (f' := 0) (n' := bx) (e' := 0) (s' := T)).oth (p := sz + 3) (by omega) (.int .i64 0) (.bool bx) (.int .i32 y) (.string T))
    have M := D4.drew ((hA.out.2.1.oth (p := sz + 2) (by omega) (.int .i64 0) (.bool bx) (.int .i32 0) (.string T)).put (f' := 0) (n' := bx) (e' := y) (s' := T))
    have hfr := hA.out.2.2
    have R : Fr (fun _ _ => False) w _ := ((((((((hfr.setCell (sz + 2) 0 (.int .i64 0) (fun q => by rw [HSZ.out] at q; omega)).setCell (sz + 2) 1 (.bool bx) (fun q => by rw [HSZ.out] at q; omega)).setCell (sz + 2) 2 (.int .i32 0) (fun q => by rw [HSZ.out] at q; omega)).setCell (sz + 2) 3 (.string T) (fun q => by rw [HSZ.out] at q; omega)).setCell (sz + 3) 0 (.int .i64 0) (fun q => by rw [HSZ.out] at q; omega)).setCell (sz + 3) 1 (.bool bx) (fun q => by rw [HSZ.out] at q; omega)).setCell (sz + 3) 2 (.int .i32 y) (fun q => by rw [HSZ.out] at q; omega)).setCell (sz + 3) 3 (.string T) (fun q => by rw [HSZ.out] at q; omega)).drew
    with_reducible refine bodyPost_ret (fromInt_results P M _ ?_ ?_) ?_ ⟨rfl, R⟩
    all_goals rfl
end Go.Proofs.YtkfephcllglkkaaGreatDoor
namespace Go.Proofs.YtkfephcllglkkaaGreatDoor
open Go.RowKit

theorem nat1250 : natText 1250 = [49, 50, 53, 48] := by
  have h : numOf [49, 50, 53, 48] = 1250 := by decide
  rw [← h]
  exact natText_numOf (by intro c hc; simp at hc; rcases hc with rfl | rfl | rfl | rfl <;> decide) (by simp) (.inr (fun _ => by simp))
theorem digs1250 : Digs ([49, 50] ++ [53, 48]) := by intro c hc; simp at hc; rcases hc with rfl | rfl | rfl | rfl <;> decide
theorem bl1250 : bl 1250 ≤ 1100 := Nat.le_trans ((lt_two_iff 1250 11).1 (by decide)) (by omega)
theorem nlen1250 : nlen 1250 ≤ 8 := nlen_le (Nat.lt_of_lt_of_le (show 1250 < B ^ 1 by decide) (Nat.pow_le_pow_right B_pos (by omega)))
theorem ndig1250 : ndig 1250 = 4 := by rw [← natText_length, nat1250]; rfl
theorem parse_alive {w : World} (g : Gv w) : Calls Tryz.prog 14 #[.string ⟨#[45, 49, 50, 46, 53, 48]⟩, .int .i64 0] w fun e1 w' => e1 = .returned (.tuple #[.agg #[.int .i64 0, .bool true, .int .i32 (-2), .string ⟨#[49, 50, 53, 48]⟩], .bool true]) ∧ Fr (fun _ _ => False) w w' := by
  have h : numOf ([49, 50] ++ [53, 48]) = 1250 := by decide
  have := parse_neg (A := [49, 50]) (B := [53, 48]) (s := ⟨#[45, 49, 50, 46, 53, 48]⟩) g rfl (fun c hc => digs1250 c (List.mem_append_left _ hc)) (fun c hc => digs1250 c (List.mem_append_right _ hc)) (by simp) (by simp) (by rw [h]; exact bl1250) (by rw [h]; exact nlen1250)
  rw [h, nat1250] at this
  exact this
theorem says_alive : Says 0 true (-2) 1250 71 ⟨#[45, 49, 50, 46, 53, 48]⟩ := by
  intro w p a c g h
  have := dText_mid (q := 2) g h (by omega) nlen1250 bl1250 (by omega) (by rw [ndig1250]; omega) (by rw [ndig1250]; omega)
  rw [nat1250] at this
  exact this
theorem text_alive {w : World} (g : Gv w) : Calls Tryz.prog 15 #[.agg #[.int .i64 0, .bool true, .int .i32 (-2), .string ⟨#[49, 50, 53, 48]⟩], .int .u8 71, .int .i64 0] w fun e1 w' => e1 = .returned (.string ⟨#[45, 49, 50, 46, 53, 48]⟩) ∧ Fr (fun _ _ => False) w w' :=
  text_any (f := 0) (fm := 71) (by omega) g (fun c hc => digs1250 c hc) (by decide) (by decide) says_alive
theorem eql_alive (w : World) : (binOp .eql 23 (.agg #[.int .i64 0, .bool true, .int .i32 (-2), .string ⟨#[49, 50, 53, 48]⟩]) (.agg #[.int .i64 0, .bool true, .int .i32 (-2), .string ⟨#[49, 50, 53, 48]⟩])).run Tryz.prog w = .ok (.bool true) w := by kernel_rfl
set_option maxRecDepth 100000 in
theorem alive {w : World} (g : Gv w) : Calls Tryz.prog 7 #[] w fun e1 w' => e1 = .returned (.bool true) ∧ Fr (fun _ _ => False) w w' := by
  have hP := Lib.hid (parse_alive g)
  have hT := Lib.hid (fun w1 (f : Fr (fun _ _ => False) w w1) => text_alive (g.new f))
  have he := eql_alive
  clear g
  go_enter Tryz.func7, Tryz.ntmps7
  go_wp2_with fail
  refine hP.out.mono ?_
  rintro e1 w1 ⟨rfl, k1⟩
  have K1 := Aside.mk k1
  clear k1 hP
  go_wp2_with fail
  refine (hT.out _ (by repeat first | exact K1.out | refine Fr.drewN ?_ _ | refine Fr.drew ?_ | refine Fr.alloc ?_ _)).mono ?_
  rintro e1 w2 ⟨rfl, k2⟩
  have K2 := Aside.mk k2
  clear k2 hT
  go_wp2_with fail
  go_ret
  exact ⟨rfl, (K1.out.alloc _).trans K2.out⟩
end Go.Proofs.YtkfephcllglkkaaGreatDoor
namespace Go.Proofs.YtkfephcllglkkaaGreatDoor
open Go.RowKit

/-- Decimal digits, the lowest one first. -/
def dlow (n : Nat) : List UInt8 := if h : n = 0 then [] else UInt8.ofNat (n % 10) :: dlow (n / 10)
  termination_by n
theorem dlow_zero : dlow 0 = [] := by rw [dlow]; simp
theorem dlow_pos {n : Nat} (h : n ≠ 0) : dlow n = UInt8.ofNat (n % 10) :: dlow (n / 10) := by rw [dlow, dif_neg h]
theorem dlow_length {n : Nat} (h : n ≠ 0) : (dlow n).length = ndig n := by
  induction n using Nat.strongRecOn with
  | _ n ih =>
    rw [dlow_pos h, List.length_cons, ndig]
    by_cases h1 : n < 10
    · rw [dif_pos h1, Nat.div_eq_of_lt h1, dlow_zero]; rfl
    · rw [dif_neg h1, ih (n / 10) (by omega) (by omega)]
theorem dlow_get : ∀ (n i : Nat) (h : i < (dlow n).length), ((dlow n)[i]).toNat = dg n i := by
  intro n
  induction n using Nat.strongRecOn with
  | _ n ih =>
    intro i h
    by_cases h0 : n = 0
    · subst h0; simp [dlow_zero] at h
    · have e := dlow_pos h0
      cases i with
      | zero =>
        simp only [e, List.getElem_cons_zero, UInt8.toNat_ofNat']
        simp [dg]; omega
      | succ i =>
        simp only [e, List.getElem_cons_succ]
        rw [ih (n / 10) (by omega) i (by rw [e] at h; simpa using h)]
        unfold dg
        rw [Nat.div_div_eq_div_mul, ← Nat.pow_succ']
theorem dlow_len_le {n : Nat} (h : n < 2 ^ 64) : (dlow n).length ≤ 65 := by
  by_cases h0 : n = 0
  · subst h0; simp [dlow_zero]
  · rw [dlow_length h0]
    have := ndig_bl n
    have := (lt_two_iff n 64).1 h
    omega
theorem Src.oneZ (w : World) {z : Int} (x : UInt8) (hz : z = ((x.toNat : Nat) : Int)) (t : TypeId) : Src Tryz.prog 1 31 (.slice (some ⟨w.heap.size, 0, none⟩) 1 1) 1 (bv [x]) (w.alloc (.cells #[.int .u8 z] t)) := by
  rw [hz]; exact Src.one w x t
set_option maxRecDepth 100000 in
set_option maxHeartbeats 1000000 in
theorem ofUint_any {w : World} (u : Nat) (hG : NG ≤ w.heap.size) (hu : u < B) :
    Calls Tryz.prog 26 #[.int .u64 u] w fun e1 w' => ∃ a n c, e1 = .returned (.agg #[.bool false, .slice a n c]) ∧ Bf w' a n c (dlow u) ∧ Fr (fun _ _ => False) w w' := by
  have F0 := Aside.mk ((Fr.refl (fun _ _ => False) w).alloc (.cells #[.bool false, .slice none 0 0] 33))
  have hlu := dlow_len_le (n := u) (by rw [B_two] at hu; exact hu)
  obtain ⟨w1, hw1⟩ : ∃ x, w.alloc (.cells #[.bool false, .slice none 0 0] 33) = x := ⟨_, rfl⟩
  have k0 : w1.cell? ⟨w.heap.size, 0, none⟩ = some (.bool false) := by rw [← hw1, World.cell?_alloc_new]; rfl
  have k1 : w1.cell? ⟨w.heap.size, 1, none⟩ = some (.slice none 0 0) := by rw [← hw1, World.cell?_alloc_new]; rfl
  have kk : kind? w1 w.heap.size = some (33, (0, 0)) := by rw [← hw1]; exact kind_alloc_new _ _ _ _
  rw [hw1] at F0
  have hs1 : w1.heap.size = w.heap.size + 1 := by rw [← hw1]; simp
  have HK := Aside.mk (And.intro k0 (And.intro k1 kk))
  have HS1 := Aside.mk hs1
  have B0 := Aside.mk (BW.start (Bf.nil w1))
  have hHU := Aside.mk hu
  clear k0 k1 kk hs1
  go_enter Tryz.func26, Tryz.ntmps26
  go_wp2_with fail
  clear hw1
  go_loopw [0, 3] (fun nv dv wr => ∃ (m n : Nat) (a : Option Addr) (c : Nat) (dl : List UInt8), m ≤ u ∧ nv = .int .u64 m ∧ dv = .slice a n c ∧ Aside (BW w1 wr none 0 a n c dl) ∧ Aside (dl ++ dlow m = dlow u)) (fun nv _ _ => (intOf nv).toNat)
  case atStart => exact ⟨u, 0, none, 0, [], Nat.le_refl _, rfl, rfl, B0, ⟨rfl⟩⟩
  case round =>
    obtain ⟨m, n, a, c, dl, hm, rfl, rfl, hB, hD⟩ := hrel
    by_cases h0 : m = 0
    · subst h0
      have hd2 : dl = dlow u := by rw [← hD.out, dlow_zero, List.append_nil]
      have r0 := (hB.out.fr.cell w.heap.size 0 (by rw [HS1.out]; omega) (foot_zero _ _ _)).trans HK.out.1
      have r1 := (hB.out.fr.cell w.heap.size 1 (by rw [HS1.out]; omega) (foot_zero _ _ _)).trans HK.out.2.1
      have rf := free_of_kind ((hB.out.fr.kind w.heap.size (by rw [HS1.out]; omega)).trans HK.out.2.2)
      have HD2 := Aside.mk hd2
      clear hd2
      go_wp2_with fail
      refine bodyPost_ret (v := .agg #[.bool false, .slice a n c]) (by simp [results, Tryz.results26, go_sem, r0, r1]) rfl ⟨a, n, c, rfl, ?_, ?_⟩
      · have hbf := hB.out.bf
        rw [HD2.out] at hbf
        refine hbf.fr (((Fr.refl (fun x _ => x = w.heap.size) wr).setCell w.heap.size 0 _ (fun _ => rfl)).setCell w.heap.size 1 _ (fun _ => rfl)) (fun x y k1 k2 => ?_)
        rcases hB.out.out with ⟨rfl, rfl⟩ | ⟨b2, o2, rfl, h2⟩
        · exact foot_none _ _ _ k1
        · rw [foot_some] at k1; rw [HS1.out] at h2; omega
      · exact ((F0.out.trans' hB.out.fr (fun _ _ _ k => k) (fun x y _ k => (foot_none _ _ _ k).elim)).setCell w.heap.size 0 _ (fun q => by omega)).setCell w.heap.size 1 _ (fun q => by omega)
    · have hpos : (0 : Int) < m := by omega
      have hlm := hD.out
      rw [dlow_pos h0] at hlm
      have hn1 : n + 1 ≤ 65 := by
        have h1 := congrArg List.length hlm
        simp at h1
        have := hB.out.bf.len
        omega
      have hD1 : Aside ((dl ++ [UInt8.ofNat (m % 10)]) ++ dlow (m / 10) = dlow u) := ⟨by rw [← hlm]; simp⟩
      clear hlm hlu
      have hz : (m : Int) % 10 = (((UInt8.ofNat (m % 10)).toNat : Nat) : Int) := by rw [UInt8.toNat_ofNat']; omega
      have HZ := Aside.mk hz
      have HW : Aside (IntKind.u64.wrap ((m : Int) / 10) = ((m / 10 : Nat) : Int)) := ⟨by
        have := wrapU (n := m / 10) (Nat.lt_of_le_of_lt (Nat.le_trans (Nat.div_le_self _ _) hm) hu)
        rwa [Int.natCast_ediv] at this ⊢⟩
      clear hz
      go_upto_region 3 with (at_builtin; go_must (refine wpList_appendB _ rfl (.tmp 8) (.tmp 12) 31 rfl ((hB.out.alloc _).size (Nat.le_trans hG F0.out.size)) (hB.out.alloc _).bf rfl rfl (Src.oneZ wr _ HZ.out 5) rfl (by omega) ?_; intro a2 c2 w2 k1 k2 k3; have B2 := Aside.mk ((hB.out.alloc _).append k1 k2 k3); clear k1 k2 k3))
      go_wp2_with fail
      go_roundw
      case rel => exact ⟨m / 10, n + 1, a2, c2, _, by omega, by rw [HW.out], rfl, B2, hD1⟩
      case measure => have := HW.out; simp [intOf]; omega

/-- The text of a number of the reference's. -/
theorem natText_low {n : Nat} (h : n ≠ 0) : natText n = (dlow n).reverse.map fun c => UInt8.ofNat (48 + c.toNat) := by
  apply List.ext_getElem
  · rw [natText_length, List.length_map, List.length_reverse, dlow_length h]
  · intro i h1 h2
    rw [natText_length] at h1
    simp only [natText, List.getElem_map, List.getElem_range, List.getElem_reverse]
    rw [dlow_get, dlow_length h]
end Go.Proofs.YtkfephcllglkkaaGreatDoor
namespace Go.Proofs.YtkfephcllglkkaaGreatDoor
open Go.RowKit

/-- The result's block, behind a call. -/
theorem res2 {w w1 : World} (f : Fr (fun _ _ => False) (w.alloc (.cells #[.bool false, .slice none 0 0] 33)) w1) :
    w1.cell? ⟨w.heap.size, 0, none⟩ = some (.bool false) ∧ w1.cell? ⟨w.heap.size, 1, none⟩ = some (.slice none 0 0) ∧ w1.frozen? ⟨w.heap.size, 0, none⟩ = false ∧ w1.frozen? ⟨w.heap.size, 1, none⟩ = false ∧ w.heap.size < w1.heap.size := by
  have hk := (f.kind w.heap.size (by simp)).trans (kind_alloc_new w _ 33 (0, 0))
  refine ⟨(f.cell _ 0 (by simp) (fun q => q)).trans (by rw [World.cell?_alloc_new]; rfl), (f.cell _ 1 (by simp) (fun q => q)).trans (by rw [World.cell?_alloc_new]; rfl), free_of_kind hk 0, free_of_kind hk 1, ?_⟩
  have := f.size; simp at this; omega
theorem Bf.cell_u8 {w : World} {a : Option Addr} {n c b o : Nat} {l : List UInt8} (h : Bf w a n c l) (k : foot a c b o) : ∃ x : Nat, w.cell? ⟨b, o, none⟩ = some (.int .u8 (x : Nat)) := by
  obtain ⟨b', o', e, rfl, h1, h2⟩ := k
  rcases h.reg with ⟨q, _⟩ | ⟨b2, o2, q, ho, _⟩
  · rw [q] at e; cases e
  · rw [q] at e; cases e
    obtain ⟨x, _, hx⟩ := ho.cell (o - o') (by omega)
    exact ⟨x, by rwa [show o' + (o - o') = o from by omega] at hx⟩
theorem Bf.res {w : World} {a : Option Addr} {n c r : Nat} {l : List UInt8} (h : Bf w a n c l) {x : Bool} {y : Value} (hy : ∀ z : Int, y ≠ .int .u8 z) (r0 : w.cell? ⟨r, 0, none⟩ = some (.bool x)) (r1 : w.cell? ⟨r, 1, none⟩ = some y) (v0 v1 : Value) :
    Bf ((w.setCell ⟨r, 0, none⟩ v0).setCell ⟨r, 1, none⟩ v1) a n c l := by
  refine h.fr (((Fr.refl (fun b o => b = r ∧ (o = 0 ∨ o = 1)) w).setCell r 0 v0 (fun _ => ⟨rfl, .inl rfl⟩)).setCell r 1 v1 (fun _ => ⟨rfl, .inr rfl⟩)) ?_
  rintro b o k ⟨rfl, rfl | rfl⟩
  · obtain ⟨z, hz⟩ := h.cell_u8 k; rw [r0] at hz; cases hz
  · obtain ⟨z, hz⟩ := h.cell_u8 k; rw [r1] at hz; cases hz; exact hy _ rfl
set_option maxRecDepth 100000 in
set_option maxHeartbeats 1000000 in
theorem of_any {w : World} (n : Int) (hG : NG ≤ w.heap.size) (h0 : -9223372036854775808 ≤ n) (h1 : n ≤ 9223372036854775807) :
    Calls Tryz.prog 10 #[.int .i64 n] w fun e1 w' => ∃ s a m c, e1 = .returned (.agg #[.bool s, .slice a m c]) ∧ Bf w' a m c (dlow n.natAbs) ∧ Fr (fun _ _ => False) w w' := by
  have hlt := abs_lt n h0 h1
  have F0 := Aside.mk ((Fr.refl (fun _ _ => False) w).alloc (.cells #[.bool false, .slice none 0 0] 33))
  have H := Lib.hid (ofUint_any (w := w.alloc (.cells #[.bool false, .slice none 0 0] 33)) n.natAbs (by simp; omega) hlt)
  by_cases hn : n < 0
  · have hw : IntKind.u64.wrap (IntKind.u64.wrap (wrap64 (-wrap64 (n + 1))) + 1) = (n.natAbs : Int) := by
      rw [IntKind.wrap_u64, IntKind.wrap_u64]; unfold wrap64; omega
    have HW := Aside.mk hw
    clear h0 h1 hw hlt
    go_enter Tryz.func10, Tryz.ntmps10
    go_wp2_with fail
    rw [HW.out]
    refine H.out.mono ?_
    rintro e1 w1 ⟨a, m, c, rfl, k1, k2⟩
    obtain ⟨r0, r1, r2, r3, r4⟩ := res2 k2
    have K1 := Aside.mk k1
    have K2 := Aside.mk (F0.out.trans k2)
    have HR := Aside.mk r4
    clear k1 k2 H
    go_wp2_with fail
    refine bodyPost_ret (v := .agg #[.bool true, .slice a m c]) (by simp [results, Tryz.results10, go_sem, r0, r1, HR.out]) rfl ⟨true, a, m, c, rfl, ?_, ?_⟩
    · exact (K1.out.res (by intro z q; cases q) r0 r1 _ _).fr ((Fr.refl (fun _ _ => False) _).alloc _) (fun _ _ _ q => q)
    · exact ((K2.out.setCell w.heap.size 0 _ (fun q => by omega)).setCell w.heap.size 1 _ (fun q => by omega)).alloc _
  · have hw : IntKind.u64.wrap n = (n.natAbs : Int) := by rw [IntKind.wrap_u64]; omega
    have HW := Aside.mk hw
    clear h0 h1 hw hlt
    go_enter Tryz.func10, Tryz.ntmps10
    go_wp2_with fail
    rw [HW.out]
    refine H.out.mono ?_
    rintro e1 w1 ⟨a, m, c, rfl, k1, k2⟩
    obtain ⟨r0, r1, r2, r3, r4⟩ := res2 k2
    have K1 := Aside.mk k1
    have K2 := Aside.mk (F0.out.trans k2)
    clear k1 k2 H
    go_wp2_with fail
    refine bodyPost_ret (v := .agg #[.bool false, .slice a m c]) (by simp [results, Tryz.results10, go_sem, r0, r1]) rfl ⟨false, a, m, c, rfl, ?_, ?_⟩
    · exact K1.out.res (by intro z q; cases q) r0 r1 _ _
    · exact (K2.out.setCell w.heap.size 0 _ (fun q => by omega)).setCell w.heap.size 1 _ (fun q => by omega)
set_option maxRecDepth 100000 in
theorem numAbs_any {w : World} {s : Bool} {a : Option Addr} {m c : Nat} {l : List UInt8} (hB : Bf w a m c l) :
    Calls Tryz.prog 11 #[.agg #[.bool s, .slice a m c]] w fun e1 w' => e1 = .returned (.agg #[.bool false, .slice a m c]) ∧ Bf w' a m c l ∧ Fr (fun _ _ => False) w w' := by
  have HB := Aside.mk hB
  clear hB
  go_enter Tryz.func11, Tryz.ntmps11
  go_wp2_with fail
  have f : Fr (fun _ _ => False) w ((w.alloc (.cells #[.bool s, .slice a m c] 33)).alloc (.cells #[.bool false, .slice a m c] 33)) := ((Fr.refl _ w).alloc _).alloc _
  exact bodyPost_ret (v := .agg #[.bool false, .slice a m c]) (by simp [results, Tryz.results11, go_sem]) rfl ⟨rfl, HB.out.fr f (fun _ _ _ q => q), f⟩
end Go.Proofs.YtkfephcllglkkaaGreatDoor
namespace Go.Proofs.YtkfephcllglkkaaGreatDoor
open Go.RowKit

/-- Digits, the lowest one first, as text from place r on. -/
def upT (l : List UInt8) (r : Nat) : List UInt8 := ((l.drop r).reverse).map fun c => UInt8.ofNat (48 + c.toNat)
theorem upT_step {l : List UInt8} {k : Nat} (h : k < l.length) : upT l k = upT l (k + 1) ++ [UInt8.ofNat (48 + l[k].toNat)] := by
  unfold upT
  rw [List.drop_eq_getElem_cons h]
  simp only [List.reverse_cons, List.map_append, List.map_cons, List.map_nil]
theorem upT_zero {X : Nat} (h : X ≠ 0) : upT (dlow X) 0 = natText X := by rw [natText_low h]; simp [upT]
theorem upT_length (l : List UInt8) (r : Nat) : (upT l r).length = l.length - r := by simp [upT]
set_option maxRecDepth 100000 in
set_option maxHeartbeats 1000000 in
theorem numText_any {w : World} {a : Option Addr} {m c X : Nat} (hG : NG ≤ w.heap.size) (hB : Bf w a m c (dlow X)) (hm : m ≤ 100000) :
    Calls Tryz.prog 12 #[.agg #[.bool false, .slice a m c]] w fun e1 w' => e1 = .returned (.string (mk (natText X))) ∧ Fr (fun _ _ => False) w w' := by
  by_cases h0 : X = 0
  · subst h0
    have hm0 : m = 0 := by rw [← hB.len, dlow_zero]; rfl
    subst hm0
    rw [natText_zero]
    clear hB hm
    go_enter Tryz.func12, Tryz.ntmps12
    go_wp2_with fail
    go_ret
    exact ⟨rfl, (Fr.refl _ w).alloc _⟩
  · have hlen : (dlow X).length = m := hB.len
    have hp : 0 < m := by rw [← hlen, dlow_length h0]; exact ndig_pos X
    obtain ⟨db, dO, rfl, hbs, hdlt⟩ := hB.pos hp
    have hm0 : ((m : Int) == 0) = false := by rw [beq_eq_false_iff_ne]; omega
    obtain ⟨w1, hw1⟩ : ∃ x, w.alloc (.cells #[.bool false, .slice (some ⟨db, dO, none⟩) m c] 33) = x := ⟨_, rfl⟩
    have F1 : Aside (Fr (fun _ _ => False) w w1) := ⟨by rw [← hw1]; exact (Fr.refl _ w).alloc _⟩
    have xd : Aside (w1.cell? ⟨w.heap.size, 1, none⟩ = some (.slice (some ⟨db, dO, none⟩) m c)) := ⟨by rw [← hw1, World.cell?_alloc_new]; rfl⟩
    have hs1 : Aside (w1.heap.size = w.heap.size + 1) := ⟨by rw [← hw1]; simp⟩
    have x0 : w1.cell? ⟨w.heap.size, 0, none⟩ = some (.bool false) := by rw [← hw1, World.cell?_alloc_new]; rfl
    have x1 : w1.cell? ⟨w.heap.size, 1, none⟩ = some (.slice (some ⟨db, dO, none⟩) m c) := xd.out
    have B0 := Aside.mk (BW.start (Bf.nil w1))
    have HL := Aside.mk hlen
    have HBS := Aside.mk hbs
    have hd10 : Aside (∀ i (h : i < (dlow X).length), ((dlow X)[i]).toNat < 10) := ⟨fun i h => by rw [dlow_get]; exact dg_lt _ _⟩
    have H0 := Aside.mk h0
    clear hB hbs hlen h0
    go_enter Tryz.func12, Tryz.ntmps12
    go_wp2_with fail
    clear hw1
    go_loopw [3, 4] (fun sv iv wr => ∃ (r n : Nat) (a2 : Option Addr) (c2 : Nat), r ≤ m ∧ sv = .slice a2 n c2 ∧ iv = .int .i64 ((r : Int) - 1) ∧ Aside (BW w1 wr none 0 a2 n c2 (upT (dlow X) r))) (fun _ iv _ => (intOf iv + 1).toNat)
    case atStart => exact ⟨m, 0, none, 0, Nat.le_refl _, rfl, rfl, ⟨by
      have e : upT (dlow X) m = [] := List.eq_nil_of_length_eq_zero (by rw [upT_length, HL.out]; omega)
      rw [e]; exact B0.out⟩⟩
    case round =>
      obtain ⟨r, n, a2, c2, hr, rfl, rfl, hB⟩ := hrel
      have hn : n = m - r := by rw [← hB.out.bf.len, upT_length, HL.out]
      cases r with
      | zero =>
        have hcv := run_str hB.out.bf (by omega)
        rw [upT_zero H0.out] at hcv
        clear hn
        go_wp2_with fail
        go_ret
        exact ⟨rfl, F1.out.trans' hB.out.fr (fun _ _ _ k => k) (fun x y _ k => (foot_none _ _ _ k).elim)⟩
      | succ k =>
        have hk : k < (dlow X).length := by rw [HL.out]; omega
        have hc : wr.cell? ⟨w.heap.size, 1, none⟩ = some (.slice (some ⟨db, dO, none⟩) m c) := (hB.out.fr.cell _ 1 (by rw [hs1.out]; omega) (foot_zero _ _ _)).trans xd.out
        have hcd : wr.cell? ⟨db, dO + k, none⟩ = some (.int .u8 (((dlow X)[k].toNat : Nat) : Int)) := (hB.out.fr.cell db _ (by rw [hs1.out]; omega) (foot_zero _ _ _)).trans ((F1.out.cell db _ hdlt (fun q => q)).trans (HBS.out k hk))
        have h10 := hd10.out k hk
        obtain ⟨d, hd⟩ : ∃ d, ((dlow X)[k]).toNat = d := ⟨_, rfl⟩
        have hst := upT_step hk
        rw [hd] at hcd h10 hst
        have HST := Aside.mk hst
        have hz : Aside (48 + (d : Int) = (((UInt8.ofNat (48 + d)).toNat : Nat) : Int)) := ⟨by rw [UInt8.toNat_ofNat']; omega⟩
        rw [show ((k + 1 : Nat) : Int) - 1 = (k : Int) from by omega]
        have hn2 : n + 1 ≤ 100001 := by omega
        clear hst hn hd
        go_upto_region 8 with (at_builtin; go_must (refine wpList_appendB _ rfl (.tmp 22) (.tmp 29) 31 rfl ((hB.out.alloc _).size (Nat.le_trans hG F1.out.size)) (hB.out.alloc _).bf rfl rfl (Src.oneZ wr _ hz.out 5) rfl (by omega) ?_; intro a3 c3 w3 k1 k2 k3; have B2 := Aside.mk ((hB.out.alloc _).append k1 k2 k3); clear k1 k2 k3))
        go_wp2_with fail
        go_roundw
        case rel => exact ⟨k, n + 1, a3, c3, by omega, rfl, by go_num, ⟨by rw [HST.out]; exact B2.out⟩⟩
        case measure => simp [intOf]
end Go.Proofs.YtkfephcllglkkaaGreatDoor
