/- Whole numbers in memory, and the methods of Int that set one: SetInt64, Set, Abs, Sign, BitLen. Methods of Int that read: Sign, BitLen, Cmp; Set of another one. Int.Exp of a word above 1, and what apd makes of it: powers of 10. apd's BigInt: SetInt64, Exp, BitLen, Cmp; powers of 10. Powers of 10, the number of digits. -/
import Derived.Test.YtgilnnipephfjaaGreatDoorM11Cmp
import Derived.Test.YtgilnnipephfjaaGreatDoorM07DivW
set_option linter.unusedSimpArgs false
set_option linter.unusedVariables false
namespace Go.Proofs.YtgilnnipephfjaaGreatDoor
open Go.RowKit

theorem setUint64_any {a : Option Addr} {zl zc x : Nat} {w : World} (hG : NG ≤ w.heap.size) (hz : Reg w a zc) (hx : x < B) :
    Calls Tryz.prog 158 #[.slice a zl zc, .int .u64 x] w fun e w' => ∃ a' c', e = .returned (.slice a' (nlen x) c') ∧ Nt w' a' c' x ∧ Fr (foot a zc) w w' ∧ Out w a zc a' c' := by
  have H := Lib.hid (setWord_any a zl zc x w hG hz hx)
  go_enter Tryz.func158, Tryz.ntmps158
  go_wp2_with fail
  refine H.out.mono ?_
  rintro e w' ⟨a', c', rfl, h1, h2, h3⟩
  go_wp2_with fail
  go_ret
  exact ⟨a', c', rfl, h1, h2, h3⟩

/-- A whole number at (b, o): its mark, and its words in the array at a. -/
structure IA (w : World) (b o : Nat) (neg : Bool) (a : Option Addr) (c X : Nat) : Prop where
  neg : w.cell? ⟨b, o, none⟩ = some (.bool neg)
  abs : w.cell? ⟨b, o + 1, none⟩ = some (.slice a (nlen X) c)
  nt : Nt w a c X
  blk : Blk w b
/-- The cells of a whole number, and of its array. -/
def ifoot (b o : Nat) (a : Option Addr) (c : Nat) (b' o' : Nat) : Prop := (b' = b ∧ (o' = o ∨ o' = o + 1)) ∨ foot a c b' o'
theorem IA.apart {w : World} {b o : Nat} {neg : Bool} {a : Option Addr} {c X : Nat} (h : IA w b o neg a c X) {a' : Option Addr} {c' : Nat} (hr : Reg w a' c') : ¬ foot a' c' b o ∧ ¬ foot a' c' b (o + 1) := by
  have key : ∀ o', foot a' c' b o' → ∃ x : Nat, w.cell? ⟨b, o', none⟩ = some (.int .u64 (x : Nat)) := by
    rintro o' ⟨b', o'', e, rfl, h1, h2⟩
    rcases hr.2 with ⟨k, _⟩ | ⟨b2, o2, k, hown⟩
    · rw [k] at e; cases e
    · rw [k] at e; cases e
      obtain ⟨x, _, hx⟩ := hown.cell (o' - o'') (by omega)
      exact ⟨x, by rwa [show o'' + (o' - o'') = o' from by omega] at hx⟩
  constructor
  · intro k; obtain ⟨x, hx⟩ := key _ k; rw [h.neg] at hx; cases hx
  · intro k; obtain ⟨x, hx⟩ := key _ k; rw [h.abs] at hx; cases hx
theorem IA.fr {S : Nat → Nat → Prop} {w w' : World} {b o : Nat} {neg : Bool} {a : Option Addr} {c X : Nat} (h : IA w b o neg a c X) (f : Fr S w w') (hs : ∀ b' o', ifoot b o a c b' o' → ¬ S b' o') : IA w' b o neg a c X :=
  ⟨(f.cell b o h.blk.lt (hs _ _ (.inl ⟨rfl, .inl rfl⟩))).trans h.neg, (f.cell b (o + 1) h.blk.lt (hs _ _ (.inl ⟨rfl, .inr rfl⟩))).trans h.abs, f.nt h.nt (fun b' o' k => hs _ _ (.inr k)), f.blk h.blk⟩
/-- The number is written anew: its mark, and a slice. -/
theorem IA.made {w w1 : World} {b o : Nat} {neg : Bool} {a : Option Addr} {c X : Nat} (h : IA w b o neg a c X) {a' : Option Addr} {c' Y : Nat} (neg' : Bool) (hn : Nt w1 a' c' Y) (f : Fr (foot a c) w w1) (ho : Out w a c a' c') :
    IA ((w1.setCell ⟨b, o + 1, none⟩ (.slice a' (nlen Y) c')).setCell ⟨b, o, none⟩ (.bool neg')) b o neg' a' c' Y ∧
    Fr (ifoot b o a c) w ((w1.setCell ⟨b, o + 1, none⟩ (.slice a' (nlen Y) c')).setCell ⟨b, o, none⟩ (.bool neg')) := by
  have h1 : w1.cell? ⟨b, o, none⟩ = some (.bool neg) := (f.cell b o h.blk.lt (h.apart h.nt.reg).1).trans h.neg
  have h2 : w1.cell? ⟨b, o + 1, none⟩ = some (.slice a (nlen X) c) := (f.cell b (o + 1) h.blk.lt (h.apart h.nt.reg).2).trans h.abs
  have hi : IA w1 b o neg a c X → True := fun _ => trivial
  have hap : ¬ foot a' c' b o ∧ ¬ foot a' c' b (o + 1) := by
    rcases ho with ⟨rfl, rfl⟩ | ⟨b', o', rfl, k⟩
    · exact h.apart h.nt.reg
    · have := h.blk.lt
      constructor <;> (rw [foot_some]; omega)
  have g := (((Fr.refl (fun b' o' => b' = b ∧ (o' = o ∨ o' = o + 1)) w1).setCell b (o + 1) (.slice a' (nlen Y) c') (fun _ => ⟨rfl, .inr rfl⟩)).setCell b o (.bool neg') (fun _ => ⟨rfl, .inl rfl⟩))
  refine ⟨⟨?_, ?_, g.nt hn ?_, g.blk (f.blk h.blk)⟩, ?_⟩
  · exact World.cell?_setCell_same _ _ _ ((World.cell?_setCell_other _ _ _ _ (by simp)).trans h1)
  · rw [World.cell?_setCell_other _ _ _ _ (by simp)]
    exact World.cell?_setCell_same _ _ _ h2
  · rintro b' o' k ⟨rfl, rfl | rfl⟩
    · exact hap.1 k
    · exact hap.2 k
  · exact f.trans' g (fun _ _ _ k => .inr k) (fun _ _ _ k => .inl k)
theorem IA.open {w w1 : World} {b o : Nat} {neg : Bool} {a : Option Addr} {c X : Nat} (h : IA w b o neg a c X) {a2 : Option Addr} {c2 : Nat} (hr : Reg w a2 c2) (f : Fr (foot a2 c2) w w1) :
    w1.cell? ⟨b, o, none⟩ = some (.bool neg) ∧ w1.cell? ⟨b, o + 1, none⟩ = some (.slice a (nlen X) c) ∧ w1.frozen? ⟨b, o, none⟩ = false ∧ w1.frozen? ⟨b, o + 1, none⟩ = false :=
  ⟨(f.cell b o h.blk.lt (h.apart hr).1).trans h.neg, (f.cell b (o + 1) h.blk.lt (h.apart hr).2).trans h.abs, (f.blk h.blk).free _, (f.blk h.blk).free _⟩
theorem abs_neg (x : Int) (h0 : -9223372036854775808 ≤ x) (h : x < 0) : IntKind.u64.wrap (wrap64 (-x)) = (x.natAbs : Int) := by
  rw [IntKind.wrap_u64]
  unfold wrap64
  omega
theorem abs_pos (x : Int) (h0 : 0 ≤ x) (h : x ≤ 9223372036854775807) : IntKind.u64.wrap x = (x.natAbs : Int) := by
  rw [IntKind.wrap_u64]
  omega
theorem abs_lt (x : Int) (h0 : -9223372036854775808 ≤ x) (h : x ≤ 9223372036854775807) : x.natAbs < B := by
  unfold B; omega

theorem setInt64_any {b o : Nat} {neg : Bool} {a : Option Addr} {c X : Nat} {w : World} (x : Int) (hG : NG ≤ w.heap.size) (h : IA w b o neg a c X) (h0 : -9223372036854775808 ≤ x) (h1 : x ≤ 9223372036854775807) :
    Calls Tryz.prog 117 #[.pointer (some ⟨b, o, none⟩), .int .i64 x] w fun e w' => ∃ a' c', e = .returned (.pointer (some ⟨b, o, none⟩)) ∧ IA w' b o (decide (x < 0)) a' c' x.natAbs ∧ Fr (ifoot b o a c) w w' ∧ Out w a c a' c' := by
  have hS := Lib.hid (setUint64_any (zl := nlen X) hG h.nt.reg (abs_lt x h0 h1))
  have hn := h.neg
  have ha := h.abs
  have HI := Aside.mk h
  have hlt := h.blk.lt
  by_cases hx : x < 0
  · have e := abs_neg x h0 hx
    have hd : decide (x < 0) = true := by simpa using hx
    clear h0 h1 h hx
    go_enter Tryz.func117, Tryz.ntmps117
    go_wp2_with fail
    refine hS.out.mono ?_
    rintro e w1 ⟨a', c', rfl, s1, s2, s3⟩
    have M := Aside.mk (HI.out.made true s1 s2 s3)
    have HO := Aside.mk s3
    obtain ⟨k1, k2, k3, k4⟩ := HI.out.open HI.out.nt.reg s2
    clear s1 s2 s3 hn ha
    go_wp2_with fail
    go_ret
    rw [hd]
    exact ⟨a', c', rfl, M.out.1, M.out.2, HO.out⟩
  · have e := abs_pos x (by omega) h1
    have hd : decide (x < 0) = false := by simpa using hx
    clear h0 h1 h hx
    go_enter Tryz.func117, Tryz.ntmps117
    go_wp2_with fail
    refine hS.out.mono ?_
    rintro e w1 ⟨a', c', rfl, s1, s2, s3⟩
    have M := Aside.mk (HI.out.made false s1 s2 s3)
    have HO := Aside.mk s3
    obtain ⟨k1, k2, k3, k4⟩ := HI.out.open HI.out.nt.reg s2
    clear s1 s2 s3 hn ha
    go_wp2_with fail
    go_ret
    rw [hd]
    exact ⟨a', c', rfl, M.out.1, M.out.2, HO.out⟩

theorem infoI : (Tryz.prog.info? 67).map (fun i => i.size) = some 2 := by kernel_rfl
theorem run_neqI_same (a : Addr) (w : World) :
    (binOp .neq 141 (.pointer (some a)) (.pointer (some a))).run Tryz.prog w = .ok (.bool false) w := by
  obtain ⟨i, hi, hs⟩ := Option.map_eq_some_iff.1 infoI
  have h : ∀ d : Nat, (Op.equalIn (d + 1) 141 (.pointer (some a)) (.pointer (some a))).run Tryz.prog w = .ok true w := fun d => by
    simp [Op.equalIn, run_underlying Tryz.underlying141, sizeOf, typeInfo, hi, run_sameAddr_same]
  simp only [binOp]
  simp [Op.equal, Op.maxDepth, h 9999]
theorem run_neqI_other {a x : Addr} {w : World} (ha : Blk w a.block) (hx : Blk w x.block) (hne : a ≠ x) :
    (binOp .neq 141 (.pointer (some a)) (.pointer (some x))).run Tryz.prog w = .ok (.bool true) w := by
  obtain ⟨i, hi, hs⟩ := Option.map_eq_some_iff.1 infoI
  obtain ⟨_, t, h1⟩ := ha
  obtain ⟨_, t', h2⟩ := hx
  obtain ⟨c1, b1⟩ := block_of_kind h1
  obtain ⟨c2, b2⟩ := block_of_kind h2
  have h : ∀ d : Nat, (Op.equalIn (d + 1) 141 (.pointer (some a)) (.pointer (some x))).run Tryz.prog w = .ok false w := fun d => by
    simp [Op.equalIn, run_underlying Tryz.underlying141, sizeOf, typeInfo, hi, hs, run_sameAddr_other w hne b1 b2]
  simp only [binOp]
  simp [Op.equal, Op.maxDepth, h 9999]

set_option maxRecDepth 10000 in
theorem setI_self {b o : Nat} {w : World} :
    Calls Tryz.prog 142 #[.pointer (some ⟨b, o, none⟩), .pointer (some ⟨b, o, none⟩)] w fun e w' => e = .returned (.pointer (some ⟨b, o, none⟩)) ∧ w' = w := by
  have hp := run_neqI_same ⟨b, o, none⟩ w
  go_enter Tryz.func142, Tryz.ntmps142
  go_wp2_with fail
  go_ret
  exact ⟨rfl, rfl⟩

set_option maxRecDepth 10000 in
theorem abs_self {b o : Nat} {neg : Bool} {a : Option Addr} {c X : Nat} {w : World} (h : IA w b o neg a c X) :
    Calls Tryz.prog 214 #[.pointer (some ⟨b, o, none⟩), .pointer (some ⟨b, o, none⟩)] w fun e w' => e = .returned (.pointer (some ⟨b, o, none⟩)) ∧ IA w' b o false a c X ∧ Fr (fun b' o' => b' = b ∧ o' = o) w w' := by
  have hn := h.neg
  have hf := h.blk.free o
  go_enter Tryz.func214, Tryz.ntmps214
  go_wp2_with fail
  refine setI_self.mono ?_
  rintro e w1 ⟨rfl, rfl⟩
  go_wp2_with fail
  go_ret
  have g := (Fr.refl (fun b' o' => b' = b ∧ o' = o) w1).setCell b o (.bool false) (fun _ => ⟨rfl, rfl⟩)
  refine ⟨rfl, ⟨World.cell?_setCell_same _ _ _ hn, (World.cell?_setCell_other _ _ _ _ (by simp)).trans h.abs, g.nt h.nt ?_, g.blk h.blk⟩, g⟩
  rintro b' o' k ⟨rfl, rfl⟩
  exact (h.apart h.nt.reg).1 k
end Go.Proofs.YtgilnnipephfjaaGreatDoor
namespace Go.Proofs.YtgilnnipephfjaaGreatDoor
open Go.RowKit

/-- The sign of a number. -/
def sgn (neg : Bool) (X : Nat) : Int := if X = 0 then 0 else if neg then -1 else 1
theorem nlen_beq (X : Nat) : ((nlen X : Int) == 0) = decide (X = 0) := by
  by_cases h : X = 0
  · subst h; rfl
  · have := nlen_pos h
    simp [h]; omega
theorem sign_any {b o : Nat} {neg : Bool} {a : Option Addr} {c X : Nat} {w : World} (h : IA w b o neg a c X) :
    Calls Tryz.prog 176 #[.pointer (some ⟨b, o, none⟩)] w fun e w' => e = .returned (.int .i64 (sgn neg X)) ∧ w' = w := by
  have hn := h.neg
  have ha := h.abs
  have e := nlen_beq X
  by_cases h0 : X = 0
  · have hd : decide (X = 0) = true := by simpa using h0
    have hs : sgn neg X = 0 := by unfold sgn; rw [if_pos h0]
    clear h h0
    go_enter Tryz.func176, Tryz.ntmps176
    go_wp2_with fail
    go_ret
    exact ⟨by rw [hs]; rfl, rfl⟩
  · have hd : decide (X = 0) = false := by simpa using h0
    cases neg
    · have hs : sgn false X = 1 := by unfold sgn; rw [if_neg h0]; rfl
      clear h h0
      go_enter Tryz.func176, Tryz.ntmps176
      go_wp2_with fail
      go_ret
      exact ⟨by rw [hs]; rfl, rfl⟩
    · have hs : sgn true X = -1 := by unfold sgn; rw [if_neg h0]; rfl
      clear h h0
      go_enter Tryz.func176, Tryz.ntmps176
      go_wp2_with fail
      go_ret
      exact ⟨by rw [hs]; rfl, rfl⟩

theorem bitLenI_any {b o : Nat} {neg : Bool} {a : Option Addr} {c X : Nat} {w : World} (h : IA w b o neg a c X) (hk : nlen X < 1000) :
    Calls Tryz.prog 105 #[.pointer (some ⟨b, o, none⟩)] w fun e w' => e = .returned (.int .i64 (bl X : Nat)) ∧ w' = w := by
  have ha := h.abs
  have H := Lib.hid (bitLen_any h.nt hk)
  clear h
  go_enter Tryz.func105, Tryz.ntmps105
  go_wp2_with fail
  refine H.out.mono ?_
  rintro e w' ⟨rfl, rfl⟩
  go_wp2_with fail
  go_ret
  exact ⟨rfl, rfl⟩
theorem run_eqlI_other {a x : Addr} {w : World} (ha : Blk w a.block) (hx : Blk w x.block) (hne : a ≠ x) :
    (binOp .eql 141 (.pointer (some a)) (.pointer (some x))).run Tryz.prog w = .ok (.bool false) w := by
  obtain ⟨i, hi, hs⟩ := Option.map_eq_some_iff.1 infoI
  obtain ⟨_, t, h1⟩ := ha
  obtain ⟨_, t', h2⟩ := hx
  obtain ⟨c1, b1⟩ := block_of_kind h1
  obtain ⟨c2, b2⟩ := block_of_kind h2
  exact run_eql_ptr_other w Tryz.underlying141 hi (by rw [hs]; simp) hne b1 b2

/-- Two numbers that are not below 0, at two places. -/
theorem cmpI_pos {b o b' o' : Nat} {a a' : Option Addr} {c c' X Y : Nat} {w : World} (h : IA w b o false a c X) (h' : IA w b' o' false a' c' Y) (hne : b ≠ b' ∨ o ≠ o') :
    Calls Tryz.prog 141 #[.pointer (some ⟨b, o, none⟩), .pointer (some ⟨b', o', none⟩)] w fun e w' => e = .returned (.int .i64 (sg X Y)) ∧ ∃ d, w' = w.drewN d := by
  have hn := h.neg
  have hn' := h'.neg
  have ha := h.abs
  have ha' := h'.abs
  have hp := run_eqlI_other (a := ⟨b, o, none⟩) (x := ⟨b', o', none⟩) h.blk h'.blk (by simp only [ne_eq, Addr.mk.injEq, and_true]; omega)
  have HC : Hid (∀ d0, Calls Tryz.prog 183 #[.slice a (nlen X) c, .slice a' (nlen Y) c'] (w.drewN d0) fun e w1 => ∃ d, e = .returned (.int .i64 (sg X Y)) ∧ w1 = w.drewN d) := Lib.hid (fun d0 => by
    refine (cmp_any (h.nt.drewN d0) (h'.nt.drewN d0)).mono ?_
    rintro e w1 ⟨rfl, d, rfl⟩
    exact ⟨d0 + d, rfl, by rw [World.drewN_drewN]⟩)
  have hnd : ∀ d, (w.drewN d).cell? ⟨b, o, none⟩ = some (.bool false) := fun _ => hn
  go_enter Tryz.func141, Tryz.ntmps141
  go_wp2_with fail
  go_quiet (fail)
  go_wp2_with fail
  go_region_with (go_at_call 183; go_must (refine (HC.out _).mono ?_; rintro e w1 ⟨d, rfl, rfl⟩))
  go_wp2_with fail
  all_goals go_ret
  all_goals exact ⟨rfl, _, rfl⟩
end Go.Proofs.YtgilnnipephfjaaGreatDoor
namespace Go.Proofs.YtgilnnipephfjaaGreatDoor
open Go.RowKit

/-- A new number. -/
theorem IA.new {w : World} (hG : NG ≤ w.heap.size) (t : TypeId) : IA (w.alloc (.cells #[.bool false, .slice none 0 0] t)) w.heap.size 0 false none 0 0 :=
  ⟨by rw [World.cell?_alloc_new]; rfl, by rw [World.cell?_alloc_new]; rfl, Nt.zero (Reg.nil _), ⟨hG, t, kind_alloc_new _ _ _ _⟩⟩

set_option maxRecDepth 100000 in
set_option maxHeartbeats 1000000 in
theorem iexp_word {zb zo xb xo yb yo : Nat} {zn : Bool} {xa ya : Option Addr} {xc yc X Y : Nat} {w : World} (g : Gl w) (hz : IA w zb zo zn none 0 0) (hx : IA w xb xo false xa xc X) (hy : IA w yb yo false ya yc Y) (slow : Bool)
    (hzx : zb ≠ xb) (hX1 : 1 < X) (hXB : X < B) (hYB : Y < B) (h12 : nlen (X ^ (Y / 2)) < 12) :
    Calls Tryz.prog 249 #[.pointer (some ⟨zb, zo, none⟩), .pointer (some ⟨xb, xo, none⟩), .pointer (some ⟨yb, yo, none⟩), .pointer none, .bool slow] w fun e w' => ∃ a' c', e = .returned (.pointer (some ⟨zb, zo, none⟩)) ∧
      IA w' zb zo false a' c' (X ^ Y) ∧ Fr (ifoot zb zo none 0) w w' ∧ Out w none 0 a' c' := by
  have H := Lib.hid (expNN_word (a := none) (zl := 0) (zc := 0) g (Reg.nil w) (Nat.le_refl 0) hx.nt hy.nt slow hX1 hXB hYB h12 (fun _ _ k => (foot_none _ _ _ k).elim) (fun _ _ k => (foot_none _ _ _ k).elim) rfl rfl)
  have hza := hz.abs
  have hxn := hx.neg
  have hxa := hx.abs
  have hyn := hy.neg
  have hya := hy.abs
  rw [nlen_zero] at hza
  have hp : 0 < nlen (X ^ Y) := nlen_pos (by have := Nat.pow_pos (n := Y) (show 0 < X by omega); omega)
  have HZ := Aside.mk hz
  have HX := Aside.mk hx
  obtain ⟨N, hN⟩ : ∃ n, nlen (X ^ Y) = n := ⟨_, rfl⟩
  have HN := Aside.mk hN
  rw [hN] at hp H
  have hp' : decide (0 < (N : Int)) = true := by simpa using hp
  clear g hz hx hy h12 hN hp
  go_enter Tryz.func249, Tryz.ntmps249
  go_wp2_with fail
  refine H.out.mono ?_
  rintro e w1 ⟨a', c', rfl, s1, s2, s3⟩
  have M := HZ.out.made false s1 s2 s3
  rw [HN.out] at M
  obtain ⟨k1, k2, k3, k4⟩ := HZ.out.open HZ.out.nt.reg s2
  rw [nlen_zero] at k2
  have hxn1 : (w1.setCell ⟨zb, zo + 1, none⟩ (.slice a' N c')).cell? ⟨xb, xo, none⟩ = some (.bool false) := by
    rw [World.cell?_setCell_other _ _ _ _ (by simp only [ne_eq, Addr.mk.injEq, and_true]; omega)]
    exact (s2.cell xb xo HX.out.blk.lt (foot_none _ _ _)).trans hxn
  have MM := Aside.mk M
  have M3 := Aside.mk s3
  clear M s1 s2 s3 hxn hxa hyn hya hza
  go_wp2_with fail
  all_goals go_ret
  all_goals exact ⟨a', c', rfl, MM.out.1, MM.out.2, M3.out⟩

theorem iExp_word {zb zo xb xo yb yo : Nat} {zn : Bool} {xa ya : Option Addr} {xc yc X Y : Nat} {w : World} (g : Gl w) (hz : IA w zb zo zn none 0 0) (hx : IA w xb xo false xa xc X) (hy : IA w yb yo false ya yc Y)
    (hzx : zb ≠ xb) (hX1 : 1 < X) (hXB : X < B) (hYB : Y < B) (h12 : nlen (X ^ (Y / 2)) < 12) :
    Calls Tryz.prog 215 #[.pointer (some ⟨zb, zo, none⟩), .pointer (some ⟨xb, xo, none⟩), .pointer (some ⟨yb, yo, none⟩), .pointer none] w fun e w' => ∃ a' c', e = .returned (.pointer (some ⟨zb, zo, none⟩)) ∧
      IA w' zb zo false a' c' (X ^ Y) ∧ Fr (ifoot zb zo none 0) w w' ∧ Out w none 0 a' c' := by
  have H := Lib.hid (iexp_word g hz hx hy false hzx hX1 hXB hYB h12)
  clear hx hy hz h12 g
  go_enter Tryz.func215, Tryz.ntmps215
  go_wp2_with fail
  refine H.out.mono ?_
  rintro e w1 ⟨a', c', rfl, s⟩
  have S := Aside.mk s
  clear s H
  go_wp2_with fail
  go_ret
  exact ⟨a', c', rfl, S.out⟩
end Go.Proofs.YtgilnnipephfjaaGreatDoor
namespace Go.Proofs.YtgilnnipephfjaaGreatDoor
open Go.RowKit

theorem IA.drewN {w : World} {b o : Nat} {neg : Bool} {a : Option Addr} {c X : Nat} (h : IA w b o neg a c X) (d : Nat) : IA (w.drewN d) b o neg a c X := ⟨h.neg, h.abs, h.nt.drewN d, h.blk⟩

theorem bSetInt64 {b o : Nat} {neg : Bool} {a : Option Addr} {c X : Nat} {w : World} (x : Int) (hG : NG ≤ w.heap.size) (h : IA w b o neg a c X) (h0 : -9223372036854775808 ≤ x) (h1 : x ≤ 9223372036854775807) :
    Calls Tryz.prog 84 #[.pointer (some ⟨b, o, none⟩), .int .i64 x] w fun e w' => ∃ a' c', e = .returned (.pointer (some ⟨b, o, none⟩)) ∧ IA w' b o (decide (x < 0)) a' c' x.natAbs ∧ Fr (ifoot b o a c) w w' ∧ Out w a c a' c' := by
  have H := Lib.hid (setInt64_any x hG h h0 h1)
  clear h h0 h1
  go_enter Tryz.func84, Tryz.ntmps84
  go_wp2_with fail
  refine H.out.mono ?_
  rintro e w1 ⟨a', c', rfl, s⟩
  have S := Aside.mk s
  clear s H
  go_wp2_with fail
  go_ret
  exact ⟨a', c', rfl, S.out⟩

theorem bExp_word {zb zo xb xo yb yo : Nat} {zn : Bool} {xa ya : Option Addr} {xc yc X Y : Nat} {w : World} (g : Gl w) (hz : IA w zb zo zn none 0 0) (hx : IA w xb xo false xa xc X) (hy : IA w yb yo false ya yc Y)
    (hzx : zb ≠ xb) (hX1 : 1 < X) (hXB : X < B) (hYB : Y < B) (h12 : nlen (X ^ (Y / 2)) < 12) :
    Calls Tryz.prog 181 #[.pointer (some ⟨zb, zo, none⟩), .pointer (some ⟨xb, xo, none⟩), .pointer (some ⟨yb, yo, none⟩), .pointer none] w fun e w' => ∃ a' c', e = .returned (.pointer (some ⟨zb, zo, none⟩)) ∧
      IA w' zb zo false a' c' (X ^ Y) ∧ Fr (ifoot zb zo none 0) w w' ∧ Out w none 0 a' c' := by
  have H := Lib.hid (fun d => iExp_word (g.drewN d) (hz.drewN d) (hx.drewN d) (hy.drewN d) hzx hX1 hXB hYB h12)
  clear hx hy hz h12 g
  go_enter Tryz.func181, Tryz.ntmps181
  go_wp2_with fail
  go_region_with (go_at_call 215; go_must (refine (H.out _).mono ?_; rintro e w1 ⟨a', c', rfl, s⟩))
  all_goals
    have S := Aside.mk s
    clear s
    go_wp2_with fail
    go_ret
    exact ⟨a', c', rfl, S.out.1, ((Fr.refl _ w).drewN _).trans S.out.2.1, S.out.2.2⟩

/-- A number made of an int64. -/
theorem newBig (x : Int) (w : World) (hG : NG ≤ w.heap.size) (h0 : -9223372036854775808 ≤ x) (h1 : x ≤ 9223372036854775807) :
    Calls Tryz.prog 175 #[.int .i64 x] w fun e w' => ∃ a' c', e = .returned (.pointer (some ⟨w.heap.size, 0, none⟩)) ∧ IA w' w.heap.size 0 (decide (x < 0)) a' c' x.natAbs ∧ Fr (fun _ _ => False) w w' ∧ w.heap.size < w'.heap.size := by
  have HI := Aside.mk (IA.new hG 69)
  have H := Lib.hid (bSetInt64 x (by simp; omega) HI.out h0 h1)
  go_enter Tryz.func175, Tryz.ntmps175
  go_wp2_with fail
  refine H.out.mono ?_
  rintro e w1 ⟨a', c', rfl, s1, s2, s3⟩
  have S1 := Aside.mk s1
  have S2 := Aside.mk s2
  clear s1 s2 s3 H
  go_wp2_with fail
  go_ret
  have f := ((Fr.refl (fun _ _ => False) w).alloc (.cells #[.bool false, .slice none 0 0] 69)).trans' (U := fun _ _ => False) S2.out (fun _ _ _ k => k) (fun b o hb k => by
    rcases k with ⟨rfl, _⟩ | k
    · omega
    · exact foot_none _ _ _ k)
  refine ⟨a', c', rfl, S1.out, f, ?_⟩
  have := S2.out.size
  simp at this
  omega
theorem bigTen (w : World) (hG : NG ≤ w.heap.size) :
    Calls Tryz.prog 177 #[] w fun e w' => ∃ a' c', e = .returned (.pointer (some ⟨w.heap.size, 0, none⟩)) ∧ IA w' w.heap.size 0 false a' c' 10 ∧ Fr (fun _ _ => False) w w' ∧ w.heap.size < w'.heap.size := by
  have H := Lib.hid (newBig 10 w hG (by omega) (by omega))
  go_enter Tryz.func177, Tryz.ntmps177
  go_wp2_with fail
  refine H.out.mono ?_
  rintro e w1 ⟨a', c', rfl, s⟩
  have S := Aside.mk s
  clear s H
  go_wp2_with fail
  go_ret
  exact ⟨a', c', rfl, S.out⟩
end Go.Proofs.YtgilnnipephfjaaGreatDoor
namespace Go.Proofs.YtgilnnipephfjaaGreatDoor
open Go.RowKit

theorem nlen_ten (n : Nat) (h : n ≤ 420) : nlen (10 ^ (n / 2)) < 12 := by
  have h1 : 10 ^ (n / 2) ≤ 10 ^ 210 := Nat.pow_le_pow_right (by omega) (by omega)
  have h2 : (10 : Nat) ^ 210 < B ^ 11 := by decide +kernel
  have := nlen_le (Nat.lt_of_le_of_lt h1 h2)
  omega
theorem Out.older {w w1 : World} {a a' : Option Addr} {c c' : Nat} (h : Out w1 a c a' c') (hs : w.heap.size ≤ w1.heap.size) : Out w a c a' c' := by
  rcases h with k | ⟨b, o, k, hn⟩
  · exact .inl k
  · exact .inr ⟨b, o, k, Nat.le_trans hs hn⟩

set_option maxRecDepth 100000 in
theorem setBigWithPow_any {zb zo : Nat} {zn : Bool} {w : World} (n : Nat) (hn : n ≤ 420) (g : Gl w) (hz : IA w zb zo zn none 0 0) :
    Calls Tryz.prog 138 #[.pointer (some ⟨zb, zo, none⟩), .int .i64 n] w fun e w' => e = .returned (.tuple #[]) ∧ ∃ a' c', IA w' zb zo false a' c' (10 ^ n) ∧ Fr (ifoot zb zo none 0) w w' ∧ Out w none 0 a' c' := by
  have HI := Aside.mk (IA.new g.size 69)
  have hzl := hz.blk.lt
  have H := Lib.hid (bSetInt64 n (by have := g.size; simp; omega) HI.out (by omega) (by omega))
  have f1 := (Fr.refl (fun _ _ => False) w).alloc (.cells #[.bool false, .slice none 0 0] 69)
  have F1 := Aside.mk f1
  have HZ := Aside.mk hz
  have HG := Aside.mk g
  have hs : (w.alloc (.cells #[.bool false, .slice none 0 0] 69)).heap.size = w.heap.size + 1 := by simp
  have HS := Aside.mk hs
  clear f1 hz g hs
  go_enter Tryz.func138, Tryz.ntmps138
  go_wp2_with fail
  refine H.out.mono ?_
  rintro e w1 ⟨a1, c1, rfl, s1, s2, s3⟩
  have F2 : Aside (Fr (fun _ _ => False) w w1) := ⟨F1.out.trans' s2 (fun _ _ _ k => k) (fun b o hb k => by
    rcases k with ⟨rfl, _⟩ | k
    · omega
    · exact foot_none _ _ _ k)⟩
  have S1 := Aside.mk s1
  have hs2 : w.heap.size < w1.heap.size := by have := s2.size; have := HS.out; omega
  clear s1 s2 s3 H
  go_wp2_with fail
  have hG1 := HG.out.fr F2.out (fun _ _ k => k.elim)
  refine (bigTen w1 hG1.size).mono ?_
  rintro e w2 ⟨a2, c2, rfl, t1, t2, t3⟩
  have HE := Lib.hid (bExp_word (hG1.fr t2 (fun _ _ k => k.elim)) ((HZ.out.fr F2.out (fun _ _ _ k => k)).fr t2 (fun _ _ _ k => k)) t1 (S1.out.fr t2 (fun _ _ _ k => k)) (by omega) (by omega) (by decide) (by simp; unfold B; omega) (by simpa using nlen_ten n (by omega)))
  have F3 : Aside (Fr (fun _ _ => False) w w2) := ⟨F2.out.trans t2⟩
  clear t1 t2 t3 hG1
  go_wp2_with fail
  refine HE.out.mono ?_
  rintro e w3 ⟨a3, c3, rfl, u1, u2, u3⟩
  have U1 := Aside.mk u1
  have U2 := Aside.mk u2
  have U3 := Aside.mk u3
  clear u1 u2 u3 HE
  go_wp2_with fail
  go_end0
  refine ⟨rfl, a3, c3, by simpa using U1.out, F3.out.trans' U2.out (fun _ _ _ k => k.elim) (fun _ _ _ k => k), U3.out.older F3.out.size⟩
theorem tableExp10_any {zb zo : Nat} {zn : Bool} {w : World} (n : Nat) (hn : n ≤ 420) (g : Gl w) (hz : IA w zb zo zn none 0 0) :
    Calls Tryz.prog 96 #[.int .i64 n, .pointer (some ⟨zb, zo, none⟩)] w fun e w' => ∃ a' c', e = .returned (.pointer (some ⟨zb, zo, none⟩)) ∧ IA w' zb zo false a' c' (10 ^ n) ∧ Fr (ifoot zb zo none 0) w w' ∧ Out w none 0 a' c' := by
  have H := Lib.hid (setBigWithPow_any n hn g hz)
  clear g hz
  go_enter Tryz.func96, Tryz.ntmps96
  go_wp2_with fail
  refine H.out.mono ?_
  rintro e w1 ⟨rfl, a', c', s⟩
  have S := Aside.mk s
  clear s H
  go_wp2_with fail
  go_ret
  exact ⟨a', c', rfl, S.out⟩
end Go.Proofs.YtgilnnipephfjaaGreatDoor
