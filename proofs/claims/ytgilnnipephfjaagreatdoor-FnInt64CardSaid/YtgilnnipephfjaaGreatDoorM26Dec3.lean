/- Decimals in memory; Sign, IsZero, NumDigits, setCoefficient, SetFinite, SetInt64, New. Decimals: SetFinite, SetInt64, New, Set. setExponent, where the exponent stays in its bounds. -/
import Derived.Test.YtgilnnipephfjaaGreatDoorM25Dig
set_option linter.unusedSimpArgs false
set_option linter.unusedVariables false
namespace Go.Proofs.YtgilnnipephfjaaGreatDoor
open Go.RowKit

/-- A decimal in block b: its form, mark, exponent, and its coefficient's words in the array at a. -/
structure DA (w : World) (b : Nat) (f : Int) (n : Bool) (e : Int) (a : Option Addr) (c X : Nat) : Prop where
  form : w.cell? ⟨b, 0, none⟩ = some (.int .i8 f)
  neg : w.cell? ⟨b, 1, none⟩ = some (.bool n)
  exp : w.cell? ⟨b, 2, none⟩ = some (.int .i32 e)
  num : IA w b 3 false a c X
/-- The cells of a decimal, and of its array. -/
def dfoot (b : Nat) (a : Option Addr) (c : Nat) (b' o' : Nat) : Prop := b' = b ∨ foot a c b' o'
theorem ifoot_d {b : Nat} {a : Option Addr} {c : Nat} (x y : Nat) (h : ifoot b 3 a c x y) : dfoot b a c x y := by
  rcases h with ⟨rfl, _⟩ | k
  · exact .inl rfl
  · exact .inr k
theorem Reg.cell_u64 {w : World} {a : Option Addr} {c b o : Nat} (h : Reg w a c) (k : foot a c b o) : ∃ x : Nat, w.cell? ⟨b, o, none⟩ = some (.int .u64 (x : Nat)) := by
  obtain ⟨b', o', e, rfl, h1, h2⟩ := k
  rcases h.2 with ⟨k, _⟩ | ⟨b2, o2, k, hown⟩
  · rw [k] at e; cases e
  · rw [k] at e; cases e
    obtain ⟨x, _, hx⟩ := hown.cell (o - o') (by omega)
    exact ⟨x, by rwa [show o' + (o - o') = o from by omega] at hx⟩
theorem DA.apart {w : World} {b : Nat} {f : Int} {n : Bool} {e : Int} {a : Option Addr} {c X : Nat} (h : DA w b f n e a c X) : ¬ foot a c b 0 ∧ ¬ foot a c b 1 ∧ ¬ foot a c b 2 := by
  refine ⟨fun k => ?_, fun k => ?_, fun k => ?_⟩
  · obtain ⟨x, hx⟩ := h.num.nt.reg.cell_u64 k; rw [h.form] at hx; cases hx
  · obtain ⟨x, hx⟩ := h.num.nt.reg.cell_u64 k; rw [h.neg] at hx; cases hx
  · obtain ⟨x, hx⟩ := h.num.nt.reg.cell_u64 k; rw [h.exp] at hx; cases hx
theorem DA.lt {w : World} {b : Nat} {f : Int} {n : Bool} {e : Int} {a : Option Addr} {c X : Nat} (h : DA w b f n e a c X) : b < w.heap.size := h.num.blk.lt
theorem DA.fr {S : Nat → Nat → Prop} {w w' : World} {b : Nat} {f : Int} {n : Bool} {e : Int} {a : Option Addr} {c X : Nat} (h : DA w b f n e a c X) (k : Fr S w w') (hs : ∀ b' o', dfoot b a c b' o' → ¬ S b' o') : DA w' b f n e a c X :=
  ⟨(k.cell b 0 h.lt (hs _ _ (.inl rfl))).trans h.form, (k.cell b 1 h.lt (hs _ _ (.inl rfl))).trans h.neg, (k.cell b 2 h.lt (hs _ _ (.inl rfl))).trans h.exp, h.num.fr k (fun x y q => hs x y (ifoot_d x y q))⟩
theorem DA.drewN {w : World} {b : Nat} {f : Int} {n : Bool} {e : Int} {a : Option Addr} {c X : Nat} (h : DA w b f n e a c X) (d : Nat) : DA (w.drewN d) b f n e a c X := ⟨h.form, h.neg, h.exp, h.num.drewN d⟩
/-- The coefficient written anew. -/
theorem DA.put {w w1 : World} {b : Nat} {f : Int} {n : Bool} {e : Int} {a : Option Addr} {c X : Nat} (h : DA w b f n e a c X) {a' : Option Addr} {c' Y : Nat} (hn : IA w1 b 3 false a' c' Y) (k : Fr (ifoot b 3 a c) w w1) : DA w1 b f n e a' c' Y := by
  have hap := h.apart
  refine ⟨(k.cell b 0 h.lt ?_).trans h.form, (k.cell b 1 h.lt ?_).trans h.neg, (k.cell b 2 h.lt ?_).trans h.exp, hn⟩
  · rintro (⟨_, q | q⟩ | q); cases q; cases q; exact hap.1 q
  · rintro (⟨_, q | q⟩ | q); cases q; cases q; exact hap.2.1 q
  · rintro (⟨_, q | q⟩ | q); cases q; cases q; exact hap.2.2 q
theorem DA.num_cell {w : World} {b : Nat} {f : Int} {n : Bool} {e : Int} {a : Option Addr} {c X : Nat} (h : DA w b f n e a c X) (i : Nat) (hi : i < 3) (v : Value) : IA (w.setCell ⟨b, i, none⟩ v) b 3 false a c X := by
  have g := (Fr.refl (fun b' o' => b' = b ∧ o' = i) w).setCell b i v (fun _ => ⟨rfl, rfl⟩)
  refine h.num.fr g ?_
  rintro b' o' k ⟨rfl, rfl⟩
  rcases k with ⟨_, k | k⟩ | k
  · omega
  · omega
  · have hap := h.apart
    match o', hi with
    | 0, _ => exact hap.1 k
    | 1, _ => exact hap.2.1 k
    | 2, _ => exact hap.2.2 k
theorem DA.setForm {w : World} {b : Nat} {f : Int} {n : Bool} {e : Int} {a : Option Addr} {c X : Nat} (h : DA w b f n e a c X) (f' : Int) : DA (w.setCell ⟨b, 0, none⟩ (.int .i8 f')) b f' n e a c X :=
  ⟨World.cell?_setCell_same _ _ _ h.form, (World.cell?_setCell_other _ _ _ _ (by simp)).trans h.neg, (World.cell?_setCell_other _ _ _ _ (by simp)).trans h.exp, h.num_cell 0 (by omega) _⟩
theorem DA.setNeg {w : World} {b : Nat} {f : Int} {n : Bool} {e : Int} {a : Option Addr} {c X : Nat} (h : DA w b f n e a c X) (n' : Bool) : DA (w.setCell ⟨b, 1, none⟩ (.bool n')) b f n' e a c X :=
  ⟨(World.cell?_setCell_other _ _ _ _ (by simp)).trans h.form, World.cell?_setCell_same _ _ _ h.neg, (World.cell?_setCell_other _ _ _ _ (by simp)).trans h.exp, h.num_cell 1 (by omega) _⟩
theorem DA.setExp {w : World} {b : Nat} {f : Int} {n : Bool} {e : Int} {a : Option Addr} {c X : Nat} (h : DA w b f n e a c X) (e' : Int) : DA (w.setCell ⟨b, 2, none⟩ (.int .i32 e')) b f n e' a c X :=
  ⟨(World.cell?_setCell_other _ _ _ _ (by simp)).trans h.form, (World.cell?_setCell_other _ _ _ _ (by simp)).trans h.neg, World.cell?_setCell_same _ _ _ h.exp, h.num_cell 2 (by omega) _⟩
theorem Fr.setD {w w1 : World} {b : Nat} {a : Option Addr} {c : Nat} (h : Fr (dfoot b a c) w w1) (i : Nat) (v : Value) : Fr (dfoot b a c) w (w1.setCell ⟨b, i, none⟩ v) := h.setCell b i v (fun _ => .inl rfl)

/-- A new decimal. -/
theorem DA.new {w : World} (hG : NG ≤ w.heap.size) (t : TypeId) (f : Int) (n : Bool) (e : Int) : DA (w.alloc (.cells #[.int .i8 f, .bool n, .int .i32 e, .bool false, .slice none 0 0] t)) w.heap.size f n e none 0 0 :=
  ⟨by rw [World.cell?_alloc_new]; rfl, by rw [World.cell?_alloc_new]; rfl, by rw [World.cell?_alloc_new]; rfl,
   ⟨by rw [World.cell?_alloc_new]; rfl, by rw [World.cell?_alloc_new]; rfl, Nt.zero (Reg.nil _), ⟨hG, t, kind_alloc_new _ _ _ _⟩⟩⟩

/-- What a decimal says of its sign. -/
def dsgn (f : Int) (n : Bool) (X : Nat) : Int := if f = 0 ∧ X = 0 then 0 else if n then -1 else 1
theorem sgn_pos (X : Nat) : sgn false X = if X = 0 then 0 else 1 := by unfold sgn; simp
set_option maxRecDepth 100000 in
theorem dSign_any {w : World} {b : Nat} {f : Int} {n : Bool} {e : Int} {a : Option Addr} {c X : Nat} (h : DA w b f n e a c X) :
    Calls Tryz.prog 99 #[.pointer (some ⟨b, 0, none⟩)] w fun e w' => e = .returned (.int .i64 (dsgn f n X)) ∧ w' = w := by
  have hf := h.form
  have hn := h.neg
  have H := Lib.hid (bSign_any h.num)
  rw [sgn_pos] at H
  by_cases h0 : f = 0
  · subst h0
    by_cases hX : X = 0
    · subst hX
      have hd : dsgn 0 n 0 = 0 := by unfold dsgn; simp
      rw [hd]
      clear h hd
      go_enter Tryz.func99, Tryz.ntmps99
      go_wp2_with fail
      refine H.out.mono ?_
      rintro e w1 ⟨rfl, rfl⟩
      go_wp2_with fail
      go_ret
      exact ⟨rfl, rfl⟩
    · have hd : dsgn 0 n X = if n then -1 else 1 := by unfold dsgn; rw [if_neg (fun k => hX k.2)]
      rw [if_neg hX] at H
      rw [hd]
      clear h hd
      cases n <;>
      · go_enter Tryz.func99, Tryz.ntmps99
        go_wp2_with fail
        refine H.out.mono ?_
        rintro e w1 ⟨rfl, rfl⟩
        go_wp2_with fail
        go_ret
        exact ⟨rfl, rfl⟩
  · have hd : dsgn f n X = if n then -1 else 1 := by unfold dsgn; rw [if_neg (fun k => h0 k.1)]
    have q0 : (f == 0) = false := by simpa using h0
    rw [hd]
    clear h hd h0
    cases n <;>
    · go_enter Tryz.func99, Tryz.ntmps99
      go_wp2_with fail
      go_ret
      exact ⟨rfl, rfl⟩
set_option maxRecDepth 100000 in
theorem dIsZero_any {w : World} {b : Nat} {f : Int} {n : Bool} {e : Int} {a : Option Addr} {c X : Nat} (h : DA w b f n e a c X) :
    Calls Tryz.prog 65 #[.pointer (some ⟨b, 0, none⟩)] w fun e w' => e = .returned (.bool (dsgn f n X == 0)) ∧ w' = w := by
  have H := Lib.hid (dSign_any h)
  clear h
  go_enter Tryz.func65, Tryz.ntmps65
  go_wp2_with fail
  refine H.out.mono ?_
  rintro e w1 ⟨rfl, rfl⟩
  go_wp2_with fail
  go_ret
  exact ⟨rfl, rfl⟩
set_option maxRecDepth 100000 in
theorem dNumDigits_any {w : World} {b : Nat} {f : Int} {n : Bool} {e : Int} {a : Option Addr} {c X : Nat} (g : Gl w) (h : DA w b f n e a c X) (hX : bl X ≤ 1100) :
    Calls Tryz.prog 95 #[.pointer (some ⟨b, 0, none⟩)] w fun e w' => e = .returned (.int .i64 (ndig X : Nat)) ∧ Fr (fun _ _ => False) w w' := by
  have H := Lib.hid (numDigits_any g h.num hX)
  clear h
  go_enter Tryz.func95, Tryz.ntmps95
  go_wp2_with fail
  refine H.out.mono ?_
  rintro e w1 ⟨rfl, s⟩
  have S := Aside.mk s
  clear s
  go_wp2_with fail
  go_ret
  exact ⟨rfl, S.out⟩

set_option maxRecDepth 100000 in
theorem setCoefficient_any {w : World} {b : Nat} {f : Int} {n : Bool} {e : Int} {a : Option Addr} {c X : Nat} (x : Int) (hG : NG ≤ w.heap.size) (h : DA w b f n e a c X) (h0 : -9223372036854775808 ≤ x) (h1 : x ≤ 9223372036854775807) :
    Calls Tryz.prog 186 #[.pointer (some ⟨b, 0, none⟩), .int .i64 x] w fun e1 w' => ∃ a' c', e1 = .returned (.tuple #[]) ∧ DA w' b 0 (decide (x < 0)) e a' c' x.natAbs ∧ Fr (dfoot b a c) w w' ∧ Out w a c a' c' := by
  have hn := h.neg
  have hf := h.num.blk.free 1
  have HD1 := Aside.mk (h.setNeg (decide (x < 0)))
  have F1 := Aside.mk ((Fr.refl (dfoot b a c) w).setD 1 (.bool (decide (x < 0))))
  have H := Lib.hid (bSetInt64 x (Nat.le_trans hG F1.out.size) HD1.out.num h0 h1)
  clear h h0 h1
  go_enter Tryz.func186, Tryz.ntmps186
  go_wp2_with fail
  refine H.out.mono ?_
  rintro e1 w1 ⟨a1, c1, rfl, s1, s2, s3⟩
  have K := Lib.hid (fun d => bAbs_self (s1.drewN d))
  have N1 : Aside (Fr (dfoot b a c) w w1) := ⟨F1.out.trans' s2 (fun _ _ _ k => k) (fun x y _ k => ifoot_d x y k)⟩
  have hc1 := HD1.out.apart
  have hcf : w1.cell? ⟨b, 0, none⟩ = some (.int .i8 f) := (s2.cell b 0 HD1.out.lt (by rintro (⟨_, q | q⟩ | q); cases q; cases q; exact hc1.1 q)).trans HD1.out.form
  have hce : w1.cell? ⟨b, 1, none⟩ = some (.bool (decide (x < 0))) := (s2.cell b 1 HD1.out.lt (by rintro (⟨_, q | q⟩ | q); cases q; cases q; exact hc1.2.1 q)).trans HD1.out.neg
  have hcx : w1.cell? ⟨b, 2, none⟩ = some (.int .i32 e) := (s2.cell b 2 HD1.out.lt (by rintro (⟨_, q | q⟩ | q); cases q; cases q; exact hc1.2.2 q)).trans HD1.out.exp
  have C := Aside.mk (And.intro hcf (And.intro hce hcx))
  have S3 := Aside.mk s3
  clear s1 s2 s3 H hcf hce hcx hc1 hn hf
  go_wp2_with fail
  go_region_with (go_at_call 180; go_must (refine (K.out _).mono ?_; rintro e2 w2 ⟨rfl, k1, k2⟩))
  all_goals
    have D2 : DA w2 b f (decide (x < 0)) e a1 c1 x.natAbs := ⟨(k2.cell b 0 (Nat.lt_of_lt_of_le HD1.out.lt (by simpa using N1.out.size)) (by omega)).trans C.out.1,
      (k2.cell b 1 (Nat.lt_of_lt_of_le HD1.out.lt (by simpa using N1.out.size)) (by omega)).trans C.out.2.1, (k2.cell b 2 (Nat.lt_of_lt_of_le HD1.out.lt (by simpa using N1.out.size)) (by omega)).trans C.out.2.2, k1⟩
    have F2 : Aside (Fr (dfoot b a c) w w2) := ⟨(N1.out.drewN _).trans' k2 (fun _ _ _ k => k) (fun _ _ _ k => .inl k.1)⟩
    have hf0 := D2.form
    have hff := D2.num.blk.free 0
    have DD := Aside.mk D2
    clear D2 k1 k2 K
    go_wp2_with fail
    go_end0
    exact ⟨a1, c1, rfl, DD.out.setForm 0, F2.out.setD 0 _, S3.out.older (by simp)⟩
end Go.Proofs.YtgilnnipephfjaaGreatDoor
namespace Go.Proofs.YtgilnnipephfjaaGreatDoor
open Go.RowKit

set_option maxRecDepth 100000 in
theorem setFinite_any {w : World} {b : Nat} {f : Int} {n : Bool} {e : Int} {a : Option Addr} {c X : Nat} (x y : Int) (hG : NG ≤ w.heap.size) (h : DA w b f n e a c X) (h0 : -9223372036854775808 ≤ x) (h1 : x ≤ 9223372036854775807) :
    Calls Tryz.prog 144 #[.pointer (some ⟨b, 0, none⟩), .int .i64 x, .int .i32 y] w fun e1 w' => ∃ a' c', e1 = .returned (.pointer (some ⟨b, 0, none⟩)) ∧ DA w' b 0 (decide (x < 0)) y a' c' x.natAbs ∧ Fr (dfoot b a c) w w' ∧ Out w a c a' c' := by
  have H := Lib.hid (setCoefficient_any x hG h h0 h1)
  clear h h0 h1
  go_enter Tryz.func144, Tryz.ntmps144
  go_wp2_with fail
  refine H.out.mono ?_
  rintro e1 w1 ⟨a1, c1, rfl, s1, s2, s3⟩
  have he := s1.exp
  have hf := s1.num.blk.free 2
  have S1 := Aside.mk s1
  have S2 := Aside.mk s2
  have S3 := Aside.mk s3
  clear s1 s2 s3 H
  go_wp2_with fail
  go_ret
  exact ⟨a1, c1, rfl, S1.out.setExp y, S2.out.setD 2 _, S3.out⟩
set_option maxRecDepth 100000 in
theorem dNew_any {w : World} (x y : Int) (hG : NG ≤ w.heap.size) (h0 : -9223372036854775808 ≤ x) (h1 : x ≤ 9223372036854775807) :
    Calls Tryz.prog 103 #[.int .i64 x, .int .i32 y] w fun e1 w' => ∃ a' c', e1 = .returned (.pointer (some ⟨w.heap.size, 0, none⟩)) ∧ DA w' w.heap.size 0 (decide (x < 0)) y a' c' x.natAbs ∧ Fr (fun _ _ => False) w w' := by
  have HN := Aside.mk (DA.new hG 71 0 false 0)
  have F1 := Aside.mk ((Fr.refl (fun _ _ => False) w).alloc (.cells #[.int .i8 0, .bool false, .int .i32 0, .bool false, .slice none 0 0] 71))
  have H := Lib.hid (setFinite_any x y (Nat.le_trans hG F1.out.size) HN.out h0 h1)
  clear h0 h1
  go_enter Tryz.func103, Tryz.ntmps103
  go_wp2_with fail
  refine H.out.mono ?_
  rintro e1 w1 ⟨a1, c1, rfl, s1, s2, s3⟩
  have S1 := Aside.mk s1
  have S2 := Aside.mk (F1.out.trans' s2 (U := fun _ _ => False) (fun _ _ _ k => k) (fun b o hb k => by
    rcases k with rfl | k
    · omega
    · exact foot_none _ _ _ k))
  clear s1 s2 s3 H
  go_wp2_with fail
  go_ret
  exact ⟨a1, c1, rfl, S1.out, S2.out⟩

theorem infoD : (Tryz.prog.info? 71).map (fun i => i.size) = some 5 := by kernel_rfl
theorem run_eqlD_same (a : Addr) (w : World) :
    (binOp .eql 58 (.pointer (some a)) (.pointer (some a))).run Tryz.prog w = .ok (.bool true) w := by
  obtain ⟨i, hi, hs⟩ := Option.map_eq_some_iff.1 infoD
  have h : ∀ d : Nat, (Op.equalIn (d + 1) 58 (.pointer (some a)) (.pointer (some a))).run Tryz.prog w = .ok true w := fun d => by
    simp [Op.equalIn, run_underlying Tryz.underlying58, sizeOf, typeInfo, hi, run_sameAddr_same]
  simp only [binOp]
  simp [Op.equal, Op.maxDepth, h 9999]
theorem run_eqlD_other {a x : Addr} {w : World} (ha : Blk w a.block) (hx : Blk w x.block) (hne : a ≠ x) :
    (binOp .eql 58 (.pointer (some a)) (.pointer (some x))).run Tryz.prog w = .ok (.bool false) w := by
  obtain ⟨i, hi, hs⟩ := Option.map_eq_some_iff.1 infoD
  obtain ⟨_, t, h1⟩ := ha
  obtain ⟨_, t', h2⟩ := hx
  obtain ⟨c1, b1⟩ := block_of_kind h1
  obtain ⟨c2, b2⟩ := block_of_kind h2
  exact run_eql_ptr_other w Tryz.underlying58 hi (by rw [hs]; simp) hne b1 b2
set_option maxRecDepth 100000 in
theorem dSet_self {w : World} {b : Nat} :
    Calls Tryz.prog 94 #[.pointer (some ⟨b, 0, none⟩), .pointer (some ⟨b, 0, none⟩)] w fun e1 w' => e1 = .returned (.pointer (some ⟨b, 0, none⟩)) ∧ w' = w := by
  have hp := run_eqlD_same ⟨b, 0, none⟩ w
  go_enter Tryz.func94, Tryz.ntmps94
  go_wp2_with fail
  go_ret
  exact ⟨rfl, rfl⟩
/-- Two decimals that have no cell in common. -/
def DAp (b : Nat) (a : Option Addr) (c : Nat) (b' : Nat) (a' : Option Addr) (c' : Nat) : Prop := ∀ x y, dfoot b a c x y → ¬ dfoot b' a' c' x y
set_option maxRecDepth 100000 in
set_option maxHeartbeats 1000000 in
theorem setSlow_any {w : World} {b b' : Nat} {f f' : Int} {n n' : Bool} {e e' : Int} {a a' : Option Addr} {c c' X X' : Nat} (hG : NG ≤ w.heap.size) (h : DA w b f n e a c X) (h' : DA w b' f' n' e' a' c' X') (hap : DAp b a c b' a' c') (hn : nlen X' < 900000) :
    Calls Tryz.prog 136 #[.pointer (some ⟨b, 0, none⟩), .pointer (some ⟨b', 0, none⟩)] w fun e1 w' => ∃ a2 c2, e1 = .returned (.pointer (some ⟨b, 0, none⟩)) ∧ DA w' b f' n' e' a2 c2 X' ∧ Fr (dfoot b a c) w w' ∧ Out w a c a2 c2 := by
  have hbb : b ≠ b' := fun k => hap b 0 (.inl rfl) (.inl k)
  have hbb' : ¬ b' = b := fun k => hbb k.symm
  have D1 := Aside.mk (((h.setForm f').setNeg n').setExp e')
  have F1 := Aside.mk ((((Fr.refl (dfoot b a c) w).setD 0 (.int .i8 f')).setD 1 (.bool n')).setD 2 (.int .i32 e'))
  have D2 := Aside.mk (h'.fr F1.out (fun x y k1 k2 => hap x y k2 k1))
  have H := Lib.hid (fun d => bSet_other (w := (((w.setCell ⟨b, 0, none⟩ (.int .i8 f')).setCell ⟨b, 1, none⟩ (.bool n')).setCell ⟨b, 2, none⟩ (.int .i32 e')).drewN d) (Nat.le_trans hG (F1.out.drewN d).size) (D1.out.num.drewN d) (D2.out.num.drewN d) (.inl hbb) hn)
  have z0 := h.form
  have z1 := h.neg
  have z2 := h.exp
  have y0 := h'.form
  have y1 := h'.neg
  have y2 := h'.exp
  have g0 := h.num.blk.free 0
  have g1 := h.num.blk.free 1
  have g2 := h.num.blk.free 2
  clear h h' hap
  go_enter Tryz.func136, Tryz.ntmps136
  go_wp2_with fail
  go_region_with (go_at_call 101; go_must (refine (H.out _).mono ?_; rintro e2 w2 ⟨a2, c2, rfl, k⟩))
  all_goals
    have K := Aside.mk k
    clear k
    go_wp2_with fail
    go_ret
    refine ⟨a2, c2, rfl, (D1.out.drewN _).put K.out.1 K.out.2.1, (F1.out.drewN _).trans' K.out.2.1 (fun _ _ _ k => k) (fun x y _ k => ifoot_d x y k), K.out.2.2.older (by simp)⟩
set_option maxRecDepth 100000 in
theorem dSet_other {w : World} {b b' : Nat} {f f' : Int} {n n' : Bool} {e e' : Int} {a a' : Option Addr} {c c' X X' : Nat} (hG : NG ≤ w.heap.size) (h : DA w b f n e a c X) (h' : DA w b' f' n' e' a' c' X') (hap : DAp b a c b' a' c') (hn : nlen X' < 900000) :
    Calls Tryz.prog 94 #[.pointer (some ⟨b, 0, none⟩), .pointer (some ⟨b', 0, none⟩)] w fun e1 w' => ∃ a2 c2, e1 = .returned (.pointer (some ⟨b, 0, none⟩)) ∧ DA w' b f' n' e' a2 c2 X' ∧ Fr (dfoot b a c) w w' ∧ Out w a c a2 c2 := by
  have hbb : b ≠ b' := fun k => hap b 0 (.inl rfl) (.inl k)
  have H := Lib.hid (setSlow_any hG h h' hap hn)
  have hp := run_eqlD_other (a := ⟨b, 0, none⟩) (x := ⟨b', 0, none⟩) h.num.blk h'.num.blk (by simp only [ne_eq, Addr.mk.injEq, and_true]; exact hbb)
  clear h h' hap
  go_enter Tryz.func94, Tryz.ntmps94
  go_wp2_with fail
  refine H.out.mono ?_
  rintro e2 w2 ⟨a2, c2, rfl, k⟩
  have K := Aside.mk k
  clear k H
  go_wp2_with fail
  go_ret
  exact ⟨a2, c2, rfl, K.out⟩
end Go.Proofs.YtgilnnipephfjaaGreatDoor
namespace Go.Proofs.YtgilnnipephfjaaGreatDoor
open Go.RowKit

/-- A context at (b, 0). -/
structure CA (w : World) (b : Nat) (p mx mn t : Int) (r : ByteArray) : Prop where
  prec : w.cell? ⟨b, 0, none⟩ = some (.int .u32 p)
  mx : w.cell? ⟨b, 1, none⟩ = some (.int .i32 mx)
  mn : w.cell? ⟨b, 2, none⟩ = some (.int .i32 mn)
  traps : w.cell? ⟨b, 3, none⟩ = some (.int .u32 t)
  rnd : w.cell? ⟨b, 4, none⟩ = some (.string r)
  lt : b < w.heap.size
theorem CA.fr {S : Nat → Nat → Prop} {w w' : World} {b : Nat} {p mx mn t : Int} {r : ByteArray} (h : CA w b p mx mn t r) (f : Fr S w w') (hs : ∀ o, ¬ S b o) : CA w' b p mx mn t r :=
  ⟨(f.cell b _ h.lt (hs _)).trans h.prec, (f.cell b _ h.lt (hs _)).trans h.mx, (f.cell b _ h.lt (hs _)).trans h.mn, (f.cell b _ h.lt (hs _)).trans h.traps, (f.cell b _ h.lt (hs _)).trans h.rnd, Nat.lt_of_lt_of_le h.lt f.size⟩
/-- Numbers handed on as a slice. -/
def Xs (w : World) (xa : Option Addr) (L : List Int) : Prop := ∀ k (h : k < L.length), ∃ b o, xa = some ⟨b, o, none⟩ ∧ w.cell? ⟨b, o + k, none⟩ = some (.int .i64 L[k])
/-- The sum of the first numbers. -/
def sumTo (L : List Int) : Nat → Int
  | 0 => 0
  | k + 1 => sumTo L k + L.getD k 0
theorem sumTo_bd (L : List Int) (h : ∀ x ∈ L, -100000 ≤ x ∧ x ≤ 100000) (k : Nat) : -100000 * (k : Int) ≤ sumTo L k ∧ sumTo L k ≤ 100000 * (k : Int) := by
  induction k with
  | zero => simp [sumTo]
  | succ k ih =>
    have : -100000 ≤ L.getD k 0 ∧ L.getD k 0 ≤ 100000 := by
      rw [List.getD_eq_getElem?_getD]
      cases hq : L[k]? with
      | none => simp
      | some v => exact h v (List.mem_of_getElem? hq)
    simp only [sumTo]
    omega

theorem inexact_any (r : Int) (w : World) : Calls Tryz.prog 128 #[.int .u32 r] w fun e w' => e = .returned (.bool (bits .and .u32 r 16 != 0)) ∧ w' = w := by
  go_enter Tryz.func128, Tryz.ntmps128
  go_wp2_with fail
  go_ret
  exact ⟨rfl, rfl⟩
theorem subnormal_any (r : Int) (w : World) : Calls Tryz.prog 129 #[.int .u32 r] w fun e w' => e = .returned (.bool (bits .and .u32 r 32 != 0)) ∧ w' = w := by
  go_enter Tryz.func129, Tryz.ntmps129
  go_wp2_with fail
  go_ret
  exact ⟨rfl, rfl⟩
theorem inexact_at {r : Int} (s : Bool) (h : (bits .and .u32 r 16 != 0) = s) (w : World) : Calls Tryz.prog 128 #[.int .u32 r] w fun e w' => e = .returned (.bool s) ∧ w' = w := by rw [← h]; exact inexact_any r w
theorem subnormal_at {r : Int} (s : Bool) (h : (bits .and .u32 r 32 != 0) = s) (w : World) : Calls Tryz.prog 129 #[.int .u32 r] w fun e w' => e = .returned (.bool s) ∧ w' = w := by rw [← h]; exact subnormal_any r w
theorem ndig_bl (X : Nat) : ndig X ≤ bl X + 1 := by
  refine ndig_le_of (by omega) (Nat.lt_of_lt_of_le ((lt_two_iff X (bl X)).2 (Nat.le_refl _)) ?_)
  exact Nat.le_trans (Nat.pow_le_pow_left (by omega) _) (Nat.pow_le_pow_right (by omega) (by omega))
set_option maxRecDepth 100000 in
set_option maxHeartbeats 2000000 in
theorem setExponent_ok {w : World} {b cb : Nat} {f e nd p mx mn t r : Int} {n : Bool} {a xa : Option Addr} {c X xc : Nat} {ro : ByteArray} {L : List Int} (g : Gl w) (h : DA w b f n e a c X) (hX : bl X ≤ 1100) (hc : CA w cb p mx mn t ro) (hcb : cb ≠ b)
    (hx : Xs w xa L) (hL : L.length ≤ 4) (hxc : L.length ≤ xc) (hb : ∀ x ∈ L, -100000 ≤ x ∧ x ≤ 100000) (hnd : nd = -1 ∨ nd = ndig X) (hmn : -100000 ≤ mn) (hmx : mx ≤ 100000)
    (h1 : mn ≤ sumTo L L.length + ndig X - 1) (h2 : sumTo L L.length + ndig X - 1 ≤ mx) (hr : r = 0 ∨ r = 64 ∨ r = 80) :
    Calls Tryz.prog 89 #[.pointer (some ⟨b, 0, none⟩), .pointer (some ⟨cb, 0, none⟩), .int .i64 nd, .int .u32 r, .slice xa L.length xc] w fun e1 w' =>
      e1 = .returned (.int .u32 r) ∧ DA w' b f n (sumTo L L.length) a c X ∧ Fr (fun b' _ => b' = b) w w' := by
  have hbd := sumTo_bd L hb
  have hND := Lib.hid (dNumDigits_any g h hX)
  have hd0 : (ndig X : Int) ≤ 1200 := by have := ndig_bl X; omega
  have hd1 : 0 < ndig X := ndig_pos X
  obtain ⟨N, hN⟩ : ∃ N, ndig X = N := ⟨_, rfl⟩
  rw [hN] at h1 h2 hnd hND hd0 hd1
  have HD := Aside.mk h
  have HC := Aside.mk hc
  have HX := Aside.mk hx
  have HB := Lib.hid hb
  have HBD := Lib.hid hbd
  obtain ⟨M, hM⟩ : ∃ M, L.length = M := ⟨_, rfl⟩
  rw [hM] at h1 h2 hL hxc ⊢
  clear h hc hx hb hbd hN
  go_enter Tryz.func89, Tryz.ntmps89
  go_wp2_with fail
  go_loop [11, 13, 23] (fun sm _ ix => ∃ k : Nat, k ≤ M ∧ sm = .int .i64 (sumTo L k) ∧ ix = .int .i64 k) (fun _ _ ix => M - (intOf ix).toNat)
  case atStart => exact ⟨0, by omega, rfl, rfl⟩
  case round =>
    obtain ⟨k, hk, rfl, rfl⟩ := hrel
    have hsb := HBD.out k
    by_cases hl : k < M
    · obtain ⟨xb, xo, rfl, hcell⟩ := HX.out k (by omega)
      have hxb := HB.out _ (List.getElem_mem (show k < L.length by omega))
      have hst : sumTo L (k + 1) = sumTo L k + L[k]'(by omega) := by
        simp only [sumTo]
        rw [List.getD_eq_getElem?_getD, List.getElem?_eq_getElem (by omega)]; rfl
      have HST := Aside.mk hst
      obtain ⟨v, hv⟩ : ∃ v, L[k]'(by omega) = v := ⟨_, rfl⟩
      rw [hv] at hcell hxb HST
      obtain ⟨hv1, hv2⟩ := hxb
      obtain ⟨hs1, hs2⟩ := hsb
      have hs3 : -400000 ≤ sumTo L k := by omega
      have hs4 : sumTo L k ≤ 400000 := by omega
      clear hst hv hs1 hs2 h1 h2
      go_wp2_with fail
      go_round
      case rel => exact ⟨k + 1, by omega, by rw [HST.out], by go_num⟩
      case measure => simp [intOf]; omega
    · obtain rfl : k = M := by omega
      obtain ⟨hs1, hs2⟩ := hsb
      have hs3 : -400000 ≤ sumTo L k := by omega
      have hs4 : sumTo L k ≤ 400000 := by omega
      obtain ⟨S, hS⟩ : ∃ S, sumTo L k = S := ⟨_, rfl⟩
      rw [hS] at h1 h2 hs3 hs4 ⊢
      have HS := Aside.mk hS
      have ha1 : -100000 ≤ S + (N : Int) - 1 := by omega
      have ha2 : S + (N : Int) - 1 ≤ 100000 := by omega
      have hm1 : ¬ S + (N : Int) - 1 < mn := by omega
      have hm2 : ¬ mx < S + (N : Int) - 1 := by omega
      have hq : ((N : Int) == -1) = false := by rw [beq_eq_false_iff_ne]; omega
      have HHB := Aside.mk hcb
      have hcb' : ¬ cb = b := hcb
      clear hs1 hs2 hS h1 h2 hcb
      have fin : ∀ w', Fr (fun _ _ => False) w w' → DA w' b f n e a c X ∧ CA w' cb p mx mn t ro := fun w' f => ⟨HD.out.fr f (fun _ _ _ k => k), HC.out.fr f (fun _ k => k)⟩
      have HF := Lib.hid fin
      clear fin
      rcases hnd with rfl | rfl
      · go_wp2_with fail
        refine hND.out.mono ?_
        rintro e1 w1 ⟨rfl, f1⟩
        obtain ⟨D1, C1⟩ := HF.out w1 f1
        have hmnc := C1.mn
        have hmxc := C1.mx
        have hde := D1.exp
        have hdf := D1.num.blk.free 2
        have HD1 := Aside.mk D1
        have F1 := Aside.mk f1
        clear D1 C1 f1 hND HF
        rcases hr with rfl | rfl | rfl
        · go_wp2_with fail
          refine (inexact_at (r := 0) false (by decide) _).mono ?_
          rintro e1 w2 ⟨rfl, rfl⟩
          go_wp2_with fail
          go_ret
          exact ⟨rfl, by rw [HS.out]; exact HD1.out.setExp S, (F1.out.mono (fun _ _ _ k => k.elim)).setCell b 2 _ (fun _ => rfl)⟩
        · go_wp2_with fail
          refine (inexact_at (r := 64) false (by decide) _).mono ?_
          rintro e1 w2 ⟨rfl, rfl⟩
          go_wp2_with fail
          go_ret
          exact ⟨rfl, by rw [HS.out]; exact HD1.out.setExp S, (F1.out.mono (fun _ _ _ k => k.elim)).setCell b 2 _ (fun _ => rfl)⟩
        · go_wp2_with fail
          refine (inexact_at (r := 80) true (by decide) _).mono ?_
          rintro e1 w2 ⟨rfl, rfl⟩
          go_wp2_with fail
          refine (subnormal_at (r := 80) false (by decide) _).mono ?_
          rintro e1 w2 ⟨rfl, rfl⟩
          go_wp2_with fail
          go_ret
          exact ⟨rfl, by rw [HS.out]; exact HD1.out.setExp S, (F1.out.mono (fun _ _ _ k => k.elim)).setCell b 2 _ (fun _ => rfl)⟩
      · obtain ⟨D1, C1⟩ := HF.out w (Fr.refl _ _)
        have hmnc := C1.mn
        have hmxc := C1.mx
        have hde := D1.exp
        have hdf := D1.num.blk.free 2
        have HD1 := Aside.mk D1
        clear D1 C1 hND HF
        rcases hr with rfl | rfl | rfl
        · go_wp2_with fail
          refine (inexact_at (r := 0) false (by decide) _).mono ?_
          rintro e1 w2 ⟨rfl, rfl⟩
          go_wp2_with fail
          go_ret
          exact ⟨rfl, by rw [HS.out]; exact HD1.out.setExp S, (Fr.refl _ _).setCell b 2 _ (fun _ => rfl)⟩
        · go_wp2_with fail
          refine (inexact_at (r := 64) false (by decide) _).mono ?_
          rintro e1 w2 ⟨rfl, rfl⟩
          go_wp2_with fail
          go_ret
          exact ⟨rfl, by rw [HS.out]; exact HD1.out.setExp S, (Fr.refl _ _).setCell b 2 _ (fun _ => rfl)⟩
        · go_wp2_with fail
          refine (inexact_at (r := 80) true (by decide) _).mono ?_
          rintro e1 w2 ⟨rfl, rfl⟩
          go_wp2_with fail
          refine (subnormal_at (r := 80) false (by decide) _).mono ?_
          rintro e1 w2 ⟨rfl, rfl⟩
          go_wp2_with fail
          go_ret
          exact ⟨rfl, by rw [HS.out]; exact HD1.out.setExp S, (Fr.refl _ _).setCell b 2 _ (fun _ => rfl)⟩
end Go.Proofs.YtgilnnipephfjaaGreatDoor
