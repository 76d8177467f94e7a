/- Round where nothing is rounded (precision 0); goError of no condition. Small contracts under setString. setString at a mark, digits, a point, digits. -/
import Derived.Test.YtgilnnipephfjaaGreatDoorM26Dec3
import Derived.Test.YtgilnnipephfjaaGreatDoorShelf2
import Derived.Laws.RangeAny
set_option linter.unusedSimpArgs false
set_option linter.unusedVariables false
namespace Go.Proofs.YtgilnnipephfjaaGreatDoor
open Go.RowKit

set_option maxRecDepth 100000 in
set_option maxHeartbeats 1000000 in
theorem round0_any {w : World} {b cb : Nat} {f e mx mn t : Int} {n : Bool} {a : Option Addr} {c X : Nat} {ro : ByteArray} (g : Gl w) (h : DA w b f n e a c X) (hX : bl X ≤ 1100) (hc : CA w cb 0 mx mn t ro) (hcb : cb ≠ b)
    (hmn : -100000 ≤ mn) (hmx : mx ≤ 100000) (he1 : -100000 ≤ e) (he2 : e ≤ 100000) (h1 : mn ≤ e + ndig X - 1) (h2 : e + ndig X - 1 ≤ mx) (s : ByteArray) :
    Calls Tryz.prog 90 #[.string s, .pointer (some ⟨cb, 0, none⟩), .pointer (some ⟨b, 0, none⟩), .pointer (some ⟨b, 0, none⟩), .bool true] w fun e1 w' =>
      e1 = .returned (.int .u32 0) ∧ DA w' b f n e a c X ∧ Fr (fun b' _ => b' = b) w w' := by
  have hND := Lib.hid (dNumDigits_any g h hX)
  have HD := Aside.mk h
  have HC := Aside.mk hc
  have HG := Aside.mk g
  have hlt := h.lt
  have hclt := hc.lt
  obtain ⟨N, hN⟩ : ∃ N, ndig X = N := ⟨_, rfl⟩
  have HN := Aside.mk hN
  have H1 := Aside.mk h1
  have H2 := Aside.mk h2
  rw [hN] at hND
  clear h hc g hN h1 h2
  go_enter Tryz.func90, Tryz.ntmps90
  go_wp2_with fail
  refine dSet_self.mono ?_
  rintro e1 w' ⟨rfl, rfl⟩
  go_wp2_with fail
  refine hND.out.mono ?_
  rintro e1 w1 ⟨rfl, f1⟩
  have D1 := Aside.mk (HD.out.fr f1 (fun _ _ _ k => k))
  have C1 := Aside.mk (HC.out.fr f1 (fun _ k => k))
  have G1 := Aside.mk (HG.out.fr f1 (fun _ _ k => k.elim))
  have F1 := Aside.mk f1
  have hs1 : w'.heap.size ≤ w1.heap.size := f1.size
  clear f1 hND
  go_wp2_with fail
  refine (dSign_any D1.out).mono ?_
  rintro e1 w2 ⟨rfl, rfl⟩
  have hp := C1.out.prec
  have hexp := D1.out.exp
  go_wp2_with fail
  have F2 := Aside.mk ((Fr.refl (fun _ _ => False) w2).alloc (.cells #[.int .i64 e] 2))
  have hx : Xs (w2.alloc (.cells #[.int .i64 e] 2)) (some ⟨w2.heap.size, 0, none⟩) [e] := by
    intro k hk
    simp at hk
    subst hk
    exact ⟨_, _, rfl, by rw [World.cell?_alloc_new]; rfl⟩
  have hS := Lib.hid (setExponent_ok (nd := (ndig X : Nat)) (r := 0) (xc := 1) (L := [e]) (G1.out.fr F2.out (fun _ _ k => k.elim)) (D1.out.fr F2.out (fun _ _ _ k => k)) hX (C1.out.fr F2.out (fun _ k => k)) hcb hx (by simp) (by simp) (by intro x hx; simp at hx; subst hx; exact ⟨he1, he2⟩) (.inr rfl) hmn hmx (by simpa [sumTo] using H1.out) (by simpa [sumTo] using H2.out) (.inl rfl))
  rw [HN.out] at hS
  refine hS.out.mono ?_
  rintro e1 w3 ⟨rfl, s1, s2⟩
  have S1 : Aside (DA w3 b f n e a c X) := ⟨by simpa [sumTo] using s1⟩
  have S2 : Aside (Fr (fun b' _ => b' = b) w' w3) := ⟨(F1.out.trans F2.out).trans' s2 (fun _ _ _ k => k.elim) (fun _ _ _ k => k)⟩
  clear s1 s2 hS hx hp hexp
  go_wp2_with fail
  go_ret
  exact ⟨rfl, S1.out, S2.out⟩
set_option maxRecDepth 100000 in
theorem cround0_any {w : World} {b cb : Nat} {f e mx mn t : Int} {n : Bool} {a : Option Addr} {c X : Nat} {ro : ByteArray} (g : Gl w) (h : DA w b f n e a c X) (hX : bl X ≤ 1100) (hc : CA w cb 0 mx mn t ro) (hcb : cb ≠ b)
    (hmn : -100000 ≤ mn) (hmx : mx ≤ 100000) (he1 : -100000 ≤ e) (he2 : e ≤ 100000) (h1 : mn ≤ e + ndig X - 1) (h2 : e + ndig X - 1 ≤ mx) :
    Calls Tryz.prog 58 #[.pointer (some ⟨cb, 0, none⟩), .pointer (some ⟨b, 0, none⟩), .pointer (some ⟨b, 0, none⟩)] w fun e1 w' =>
      e1 = .returned (.int .u32 0) ∧ DA w' b f n e a c X ∧ Fr (fun b' _ => b' = b) w w' := by
  have H := Lib.hid (round0_any g h hX hc hcb hmn hmx he1 he2 h1 h2 ro)
  have hr := hc.rnd
  clear h hc hX g hcb h1 h2
  go_enter Tryz.func58, Tryz.ntmps58
  go_wp2_with fail
  refine H.out.mono ?_
  rintro e1 w1 ⟨rfl, s⟩
  have S := Aside.mk s
  clear s
  go_wp2_with fail
  go_ret
  exact ⟨rfl, S.out⟩
theorem goError0 (cb : Nat) (w : World) :
    Calls Tryz.prog 59 #[.pointer (some ⟨cb, 0, none⟩), .int .u32 0] w fun e1 w' => e1 = .returned (.tuple #[.int .u32 0, .nilIface]) ∧ w' = w := by
  go_enter Tryz.func59, Tryz.ntmps59
  go_wp2_with fail
  go_ret2
  exact ⟨rfl, rfl⟩
end Go.Proofs.YtgilnnipephfjaaGreatDoor
namespace Go.Proofs.YtgilnnipephfjaaGreatDoor
open Go.RowKit

theorem Fr.of_below {w w' : World} (h : Below w.heap.size w w') : Fr (fun _ _ => False) w w' := by
  have hb : ∀ b, b < w.heap.size → w'.heap[b]? = w.heap[b]? := fun b hb => h.block b hb
  exact ⟨h.os, h.tape, h.output, h.size, fun b o k _ => World.cell?_of_block (hb b k), fun b k => kind_block (hb b k), fun b k _ => hb b k⟩
/-- A list of bytes as a string. -/
def mk (l : List UInt8) : ByteArray := ⟨l.toArray⟩
theorem mk_toList (l : List UInt8) : (mk l).data.toList = l := by simp [mk]
theorem mk_size (l : List UInt8) : (mk l).size = l.length := by simp [mk, ByteArray.size]
theorem mk_of (s : ByteArray) : s = mk s.data.toList := by simp [mk]
theorem mk_extract (l : List UInt8) (i j : Nat) : (mk l).extract i j = mk ((l.drop i).take (j - i)) := by
  rw [mk_of ((mk l).extract i j), Lib.extract_data]
  simp [mk, List.extract_eq_take_drop]
theorem mk_inj {l m : List UInt8} (h : mk l = mk m) : l = m := by rw [← mk_toList l, h, mk_toList]
set_option maxRecDepth 100000 in
theorem consume_yes (s p : ByteArray) (h : Lib.hasPrefix s.data.toList p.data.toList = true) (hp : p.size ≤ s.size) (hs : s.size < 1000000) (w : World) :
    Calls Tryz.prog 82 #[.string s, .string p] w fun e w' => e = .returned (.tuple #[.string (s.extract p.size s.size), .bool true]) ∧ w' = w := by
  have H := Lib.hid (Tryz.strings_HasPrefix s p w)
  rw [h] at H
  clear h
  go_enter Tryz.func82, Tryz.ntmps82
  go_wp2_with fail
  refine H.out.mono ?_
  rintro e w' ⟨rfl, rfl⟩
  go_wp2_with fail
  go_ret2
  exact ⟨rfl, rfl⟩
set_option maxRecDepth 100000 in
theorem consume_no (s p : ByteArray) (h : Lib.hasPrefix s.data.toList p.data.toList = false) (w : World) :
    Calls Tryz.prog 82 #[.string s, .string p] w fun e w' => e = .returned (.tuple #[.string s, .bool false]) ∧ w' = w := by
  have H := Lib.hid (Tryz.strings_HasPrefix s p w)
  rw [h] at H
  clear h
  go_enter Tryz.func82, Tryz.ntmps82
  go_wp2_with fail
  refine H.out.mono ?_
  rintro e w' ⟨rfl, rfl⟩
  go_wp2_with fail
  go_ret2
  exact ⟨rfl, rfl⟩
end Go.Proofs.YtgilnnipephfjaaGreatDoor
namespace Go.Proofs.YtgilnnipephfjaaGreatDoor
open Go.RowKit

theorem indexByte_none : ∀ (l : List UInt8) (c : UInt8), c ∉ l → Lib.indexByte l c = -1
  | [], _, _ => rfl
  | b :: l, c, h => by
    have h1 : (b == c) = false := by rw [beq_eq_false_iff_ne]; rintro rfl; exact h (List.mem_cons_self ..)
    have h2 := indexByte_none l c (fun k => h (List.mem_cons_of_mem _ k))
    simp [Lib.indexByte, h1, h2]
theorem indexByte_at : ∀ (l m : List UInt8) (c : UInt8), c ∉ l → Lib.indexByte (l ++ c :: m) c = l.length
  | [], m, c, _ => by simp [Lib.indexByte]
  | b :: l, m, c, h => by
    have h1 : (b == c) = false := by rw [beq_eq_false_iff_ne]; rintro rfl; exact h (List.mem_cons_self ..)
    have h2 := indexByte_at l m c (fun k => h (List.mem_cons_of_mem _ k))
    simp only [List.cons_append, Lib.indexByte, h1, h2]
    have : ((l.length : Int) == -1) = false := by rw [beq_eq_false_iff_ne]; omega
    simp [this]
theorem Digs.not_mem {l : List UInt8} (h : Digs l) (c : UInt8) (hc : c.toNat < 48 ∨ 57 < c.toNat) : c ∉ l := fun k => by have := h _ k; omega
theorem lower_same (l : List UInt8) (h : ∀ c ∈ l, c.toNat < 65) : Lib.toLowerA l = l := by
  unfold Lib.toLowerA
  conv => rhs; rw [← List.map_id l]
  apply List.map_congr_left
  intro c hc
  have := h c hc
  unfold Lib.lowerB
  have k : Lib.isUpperB c = false := by
    simp only [Lib.isUpperB, Bool.and_eq_false_iff, decide_eq_false_iff_not, UInt8.le_iff_toNat_le]
    left
    show ¬ 65 ≤ c.toNat
    omega
  simp [k]
theorem hasPrefix_no {l : List UInt8} (h : ∀ x ∈ l, 46 ≤ x.toNat ∧ x.toNat ≤ 57) (x : UInt8) (q : List UInt8) (hx : x.toNat < 46 ∨ 57 < x.toNat) : Lib.hasPrefix l (x :: q) = false := by
  cases l with
  | nil => rfl
  | cons y r =>
    have := h y (List.mem_cons_self ..)
    have hne : (x == y) = false := by rw [beq_eq_false_iff_ne]; rintro rfl; omega
    simp [Lib.hasPrefix, List.isPrefixOf, hne]
theorem ne_lit {l : List UInt8} (h : ∀ x ∈ l, 46 ≤ x.toNat ∧ x.toNat ≤ 57) (x : UInt8) (q : List UInt8) (hx : x.toNat < 46 ∨ 57 < x.toNat) : l ≠ x :: q := by
  rintro rfl
  have := h x (List.mem_cons_self ..)
  omega
theorem tail_extract (c : UInt8) (l : List UInt8) : (mk (c :: l)).extract 1 (mk (c :: l)).size = mk l := by
  rw [mk_extract, mk_size]
  simp
theorem info64 : (Tryz.prog.info? 2).map (fun i => (i.zero, i.size, i.bytes)) = some (some (.int .i64 0), 1, 8) := by kernel_rfl
theorem wpList_app64 (w : World) {ops : Array Oper} {rest : List Oper} {o : Oper} {ac : Act} {Q : Exit → Act → World → Prop} (hgd : o.guard = none) (s x : Operand)
    (ho : o.op = .call { callee := .builtin .append, args := #[s, x], argTypes := #[136, 136] })
    {g k q : Nat} {v : Int} (hk : k < 2) (hv : ac.eval s = .slice (some ⟨g, 0, none⟩) k 2) (hx : ac.eval x = .slice (some ⟨q, 0, none⟩) 1 1) (hc : ∃ u, w.cell? ⟨g, k, none⟩ = some u) (hf : w.frozen? ⟨g, k, none⟩ = false)
    (hq : w.cell? ⟨q, 0, none⟩ = some (.int .i64 v)) (hK : wpList Tryz.prog ops Q rest (ac.put o.dst (.slice (some ⟨g, 0, none⟩) (k + 1) 2)) (w.setCell ⟨g, k, none⟩ (.int .i64 v))) : wpList Tryz.prog ops Q (o :: rest) ac w := by
  refine wpList_plain hgd fun K hK' => ?_
  obtain ⟨i, hi, hz, hsz, hby⟩ := info_parts info64
  have hs : Src Tryz.prog i.size 136 (.slice (some ⟨q, 0, none⟩) 1 1) 1 [.int .i64 v] w := by
    rw [hsz]
    refine Src.ofSlice w Tryz.underlying136 ⟨q, 0, none⟩ 1 1 [.int .i64 v] rfl (fun j u hu => ?_) (by intro u hu; simp at hu; subst hu; rfl)
    match j with
    | 0 => simp at hu; subst hu; rw [Addr.add_lit]; exact hq
    | j + 1 => simp at hu
  obtain ⟨u, hu⟩ := hc
  have hr := run_append_room_src w 136 136 o.type 2 i Tryz.underlying136 hi g 0 k 2 _ 1 [.int .i64 v] hs (by omega) (fun j hj => by
    simp at hj; subst hj; rw [hsz]; simp [hu]) (fun j hj => by simp at hj; subst hj; rw [hsz]; simpa using hf)
  rw [hsz] at hr
  simp only [Nat.zero_add, Nat.mul_one, World.setCells] at hr
  unfold Oper.wp execOp
  simp only [ho, resolve, invoke, builtin, Sem.run_bind, Sem.run_pure, Result.andThen_ok, List.map_toArray, List.map_cons, List.map_nil, hv, hx, hr]
  exact hK' _ _ hK

theorem one_cell (w : World) (v : Value) (t : TypeId) : (w.alloc (.cells #[v] t)).cell? ⟨w.heap.size, 0, none⟩ = some v := by rw [World.cell?_alloc_new]; rfl
theorem zero_lt_two : 0 < 2 := by decide
theorem DA.lo {w : World} {b : Nat} {f : Int} {n : Bool} {e : Int} {a : Option Addr} {c X : Nat} (h : DA w b f n e a c X) (x y : Nat) (k : dfoot b a c x y) : NG ≤ x := by
  rcases k with rfl | k
  · exact h.num.blk.1
  · exact h.num.nt.reg.lo _ _ k
theorem EofV.fr {S : Nat → Nat → Prop} {w w' : World} (h : EofV w) (hG : NG ≤ w.heap.size) (f : Fr S w w') (hs : ∀ x y, S x y → NG ≤ x) : EofV w' := by
  obtain ⟨ae, h⟩ := h
  exact ⟨ae, (f.cell _ _ (Nat.lt_of_lt_of_le (by decide : 1 < NG) hG) (fun k => absurd (hs _ _ k) (by decide))).trans h⟩
theorem DA.far {w w' : World} {b : Nat} {f : Int} {n : Bool} {e : Int} {a a' : Option Addr} {c c' X : Nat} (h : DA w b f n e a c X) (ho : Out w a c a' c') (x y : Nat) (hx : x < w.heap.size) (k : foot a' c' x y) : foot a c x y := by
  rcases ho with ⟨rfl, rfl⟩ | ⟨b2, o2, rfl, h2⟩
  · exact k
  · rw [foot_some] at k; omega
set_option maxRecDepth 100000 in
set_option maxHeartbeats 4000000 in
theorem setString_neg {w : World} {b cb : Nat} {f e mx mn t : Int} {n : Bool} {a : Option Addr} {c X : Nat} {ro : ByteArray} {A B : List UInt8} {s : ByteArray} (g : Gl w) (hE : EofV w) (h : DA w b f n e a c X) (hc : CA w cb 0 mx mn t ro) (hcb : cb ≠ b) (hap : ∀ o, ¬ foot a c cb o)
    (hmn : -100000 ≤ mn) (hmx : mx ≤ 100000) (hs : s = mk (45 :: (A ++ 46 :: B))) (hA : Digs A) (hB : Digs B) (h0 : 0 < (A ++ B).length) (hlen : (A ++ B).length ≤ 300) (hX : bl (numOf (A ++ B)) ≤ 1100)
    (h1 : mn ≤ -(B.length : Int) + ndig (numOf (A ++ B)) - 1) (h2 : -(B.length : Int) + ndig (numOf (A ++ B)) - 1 ≤ mx) :
    Calls Tryz.prog 57 #[.pointer (some ⟨b, 0, none⟩), .pointer (some ⟨cb, 0, none⟩), .string s] w fun e1 w' => ∃ a' c',
      e1 = .returned (.tuple #[.int .u32 0, .nilIface]) ∧ DA w' b 0 true (-(B.length : Int)) a' c' (numOf (A ++ B)) ∧ Fr (dfoot b a c) w w' ∧ Out w a c a' c' := by
  obtain ⟨u, hu⟩ : ∃ u, mk (A ++ 46 :: B) = u := ⟨_, rfl⟩
  have hul : u.data.toList = A ++ 46 :: B := by rw [← hu, mk_toList]
  have husz : u.size = A.length + 1 + B.length := by rw [← hu, mk_size]; simp; omega
  have hlt65 : ∀ x ∈ A ++ 46 :: B, x.toNat < 65 := by
    intro x hx
    rcases List.mem_append.1 hx with k | k
    · have := hA _ k; omega
    · rcases List.mem_cons.1 k with rfl | k
      · decide
      · have := hB _ k; omega
  have hmem : ∀ x ∈ A ++ 46 :: B, 46 ≤ x.toNat ∧ x.toNat ≤ 57 := by
    intro x hx
    rcases List.mem_append.1 hx with k | k
    · have := hA _ k; omega
    · rcases List.mem_cons.1 k with rfl | k
      · decide
      · have := hB _ k; omega
  have hlen2 : (A ++ B).length = A.length + B.length := List.length_append
  have hasc : ∀ (j : Nat) (y : UInt8), u.data.toList[j]? = some y → y.toNat < 128 := by
    intro j y k
    rw [hul] at k
    have := hlt65 y (List.mem_of_getElem? k)
    omega
  have C1 : Hid (∀ w, Calls Tryz.prog 82 #[.string s, .string ⟨#[45]⟩] w fun e w' => e = .returned (.tuple #[.string u, .bool true]) ∧ w' = w) := Lib.hid (fun w => by
    have hss : s.size = 1 + u.size := by rw [hs, mk_size, husz]; simp; omega
    refine (consume_yes s ⟨#[45]⟩ (by rw [hs, mk_toList]; simp [Lib.hasPrefix]) (by rw [hss]; show 1 ≤ _; omega) (by rw [hss, husz]; omega) w).mono ?_
    rintro e w' ⟨rfl, rfl⟩
    refine ⟨?_, rfl⟩
    rw [← hu, ← tail_extract 45, ← hs]; rfl)
  have C2 : Hid (∀ w, Calls Tryz.prog 83 #[.string u] w fun e w' => e = .returned (.string u) ∧ Aside (Fr (fun _ _ => False) w w')) := Lib.hid (fun w => by
    refine (Tryz.strings_ToLower_ascii u w (by rw [husz]; omega) hasc).mono ?_
    rintro e w' ⟨rfl, hb⟩
    refine ⟨?_, ⟨Fr.of_below hb⟩⟩
    rw [hul, lower_same _ hlt65, ← hu]; rfl)
  have P1 : Hid (∀ w, Calls Tryz.prog 85 #[.string u, .string ⟨#[45]⟩] w fun e w' => e = .returned (.bool false) ∧ w' = w) := Lib.hid (fun w => by
    have := Tryz.strings_HasPrefix u ⟨#[45]⟩ w
    rwa [hul, hasPrefix_no hmem 45 [] (by decide)] at this)
  have P2 : Hid (∀ w, Calls Tryz.prog 85 #[.string u, .string ⟨#[43]⟩] w fun e w' => e = .returned (.bool false) ∧ w' = w) := Lib.hid (fun w => by
    have := Tryz.strings_HasPrefix u ⟨#[43]⟩ w
    rwa [hul, hasPrefix_no hmem 43 [] (by decide)] at this)
  have C3 := Lib.hid (consume_no u ⟨#[110, 97, 110]⟩ (by rw [hul]; exact hasPrefix_no hmem 110 [97, 110] (by decide)))
  have C4 := Lib.hid (consume_no u ⟨#[115, 110, 97, 110]⟩ (by rw [hul]; exact hasPrefix_no hmem 115 [110, 97, 110] (by decide)))
  have I1 : Hid (∀ w, Calls Tryz.prog 87 #[.string u, .int .u8 101] w fun e w' => e = .returned (.int .i64 (-1)) ∧ w' = w) := Lib.hid (fun w => by
    have := Tryz.strings_IndexByte u 101 w
    rwa [hul, indexByte_none _ _ (fun k => by have := hmem _ k; revert this; decide)] at this)
  have I2 : Hid (∀ w, Calls Tryz.prog 87 #[.string u, .int .u8 46] w fun e w' => e = .returned (.int .i64 (A.length : Nat)) ∧ w' = w) := Lib.hid (fun w => by
    have := Tryz.strings_IndexByte u 46 w
    rwa [hul, show (46 : Int).toNat.toUInt8 = 46 from rfl, indexByte_at _ _ _ (hA.not_mem 46 (by decide))] at this)
  have Q1 : (u.toList == [105, 110, 102, 105, 110, 105, 116, 121]) = false := by
    rw [beq_eq_false_iff_ne, ByteArray.toList_eq, hul]; exact ne_lit hmem 105 [110, 102, 105, 110, 105, 116, 121] (by decide)
  have Q2 : (u.toList == [105, 110, 102]) = false := by
    rw [beq_eq_false_iff_ne, ByteArray.toList_eq, hul]; exact ne_lit hmem 105 [110, 102] (by decide)
  have fm : ∀ w, (Instr.makeSlice 136 (.int .i64 0) (.int .i64 2)).run Tryz.prog w = .ok (.slice (some ⟨w.heap.size, 0, none⟩) 0 2) (w.alloc (.cells #[.int .i64 0, .int .i64 0] 2)) := fun _ => by kernel_rfl
  have hf := h.form
  have hn := h.neg
  have he := h.exp
  have z0 := h.num.blk.free 0
  have z1 := h.num.blk.free 1
  have z2 := h.num.blk.free 2
  have D1 := Aside.mk (h.setNeg true)
  have F1 := Aside.mk ((Fr.refl (dfoot b a c) w).setD 1 (.bool true))
  have HC := Aside.mk hc
  have HG := Aside.mk g
  have HE := Aside.mk hE
  have HAP := Aside.mk hap
  have HLO := Aside.mk h.lo
  have hab : mk (A ++ B) = u.extract 0 A.length ++ u.extract (A.length + 1) u.size := by
    rw [← hu, mk_extract, mk_extract, mk_size]
    have e1 : ((A ++ 46 :: B).drop 0).take (A.length - 0) = A := by simp
    have e2 : ((A ++ 46 :: B).drop (A.length + 1)).take ((A ++ 46 :: B).length - (A.length + 1)) = B := by
      rw [show (A ++ 46 :: B).drop (A.length + 1) = B from by rw [← List.drop_drop]; simp, List.take_of_length_le (by simp; omega)]
    rw [e1, e2]
    apply ByteArray.ext
    simp [mk]
  obtain ⟨al, hal⟩ : ∃ x, A.length = x := ⟨_, rfl⟩
  obtain ⟨bb, hbb⟩ : ∃ x, B.length = x := ⟨_, rfl⟩
  rw [hal] at I2 husz hab
  rw [hbb] at husz h1 h2 ⊢
  have hu1 : al + 1 ≤ u.size := by omega
  have hu2 : u.size ≤ 310 := by omega
  have HUS := Aside.mk husz
  have HAB := Aside.mk hab
  have H1 := Aside.mk h1
  have H2 := Aside.mk h2
  clear h hc g hE hap hs hu hul hasc hlt65 hmem husz hab hlen2 hal hbb h1 h2
  go_enter Tryz.func57, Tryz.ntmps57
  go_wp2_with fail
  refine (C1.out _).mono ?_
  rintro e1 w' ⟨rfl, rfl⟩
  go_wp2_with fail
  refine (C2.out _).mono ?_
  rintro e1 w2 ⟨rfl, f2⟩
  have DD2 := Aside.mk (D1.out.fr f2.out (fun _ _ _ k => k))
  have F2 := Aside.mk (F1.out.trans' f2.out (U := dfoot b a c) (fun _ _ _ k => k) (fun _ _ _ k => k.elim))
  have hf2 := DD2.out.form
  have hn2 := DD2.out.neg
  have he2 := DD2.out.exp
  have y0 := DD2.out.num.blk.free 0
  have y1 := DD2.out.num.blk.free 1
  have y2 := DD2.out.num.blk.free 2
  have D3 := Aside.mk (DD2.out.setExp 0)
  have F3 := Aside.mk (F2.out.setD 2 (.int .i32 0))
  have hS := Lib.hid (bSetInt64 0 (Nat.le_trans HG.out.size F3.out.size) D3.out.num (by omega) (by omega))
  clear hf hn he z0 z1 z2 f2
  go_wp2_with fail
  refine hS.out.mono ?_
  rintro e1 w3 ⟨a3, c3, rfl, s1, s2, s3⟩
  have D4 := D3.out.put s1 s2
  have F4 := Aside.mk (F3.out.trans' s2 (U := dfoot b a c) (fun _ _ _ k => k) (fun x y _ k => ifoot_d x y k))
  have hf3 := D4.form
  have y3 := D4.num.blk.free 0
  have D5 := Aside.mk (D4.setForm 3)
  have F5 := Aside.mk (F4.out.setD 0 (.int .i8 3))
  have O5 := Aside.mk (s3.older (w := w') F3.out.size)
  clear D4 s1 s2 s3 hf2 hn2 he2 y0 y1 y2 hS
  go_wp2_with fail
  refine (P1.out _).mono ?_
  rintro e1 w4 ⟨rfl, rfl⟩
  go_wp2_with fail
  refine (P2.out _).mono ?_
  rintro e1 w4 ⟨rfl, rfl⟩
  clear hf3 y3
  go_wp2_with fail
  refine (C3.out _).mono ?_
  rintro e1 w4 ⟨rfl, rfl⟩
  go_wp2_with fail
  refine (C4.out _).mono ?_
  rintro e1 w4 ⟨rfl, rfl⟩
  go_wp2_with fail
  obtain ⟨w5, hw5⟩ : ∃ x, (w3.setCell ⟨b, 0, none⟩ (.int .i8 3)) = x := ⟨_, rfl⟩
  obtain ⟨gb, hgb⟩ : ∃ x, w3.heap.size = x := ⟨_, rfl⟩
  have hgb5 : w5.heap.size = gb := by rw [← hw5, ← hgb]; simp
  rw [hw5] at D5 F5 ⊢
  rw [hgb]
  clear hw5 Q1 Q2 fm hgb
  refine (I1.out _).mono ?_
  rintro e1 w6 ⟨rfl, hw6⟩
  have k0 : w6.cell? ⟨gb, 0, none⟩ = some (.int .i64 0) := by rw [hw6, ← hgb5, World.cell?_alloc_new]; rfl
  have kk : kind? w6 gb = some (2, (0, 0)) := by rw [hw6, ← hgb5]; exact kind_alloc_new _ _ _ _
  have kf := free_of_kind kk 0
  have F6 : Aside (Fr (fun _ _ => False) w5 w6) := ⟨by rw [hw6]; exact (Fr.refl _ _).alloc _⟩
  have hs6 : w6.heap.size = gb + 1 := by rw [hw6, ← hgb5]; simp
  have HS6 := Aside.mk hs6
  have HGB := Aside.mk hgb5
  clear hw6 hgb5 hs6
  go_wp2_with fail
  refine (I2.out _).mono ?_
  rintro e1 w7 ⟨rfl, rfl⟩
  have AC : Hid (∀ o, ∃ u, (w7.alloc o).cell? ⟨gb, 0, none⟩ = some u) := Lib.hid (fun o => ⟨_, (World.cell?_alloc_lt w7 o _ (by show gb < _; rw [HS6.out]; omega)).trans k0⟩)
  have AF : Hid (∀ o, (w7.alloc o).frozen? ⟨gb, 0, none⟩ = false) := Lib.hid (fun o => (frozen_kind (kind_alloc w7 o gb (by rw [HS6.out]; omega)) 0).trans kf)
  clear k0 kf
  go_wp2_with (at_builtin; go_must (refine wpList_app64 _ rfl (.tmp 124) (.tmp 127) rfl (g := gb) (k := 0) (q := w7.heap.size) (v := -((u.size : Int) - (al : Int) - 1)) zero_lt_two rfl rfl (AC.out _) (AF.out _) (one_cell _ _ _) ?_))
  obtain ⟨w8, hw8⟩ : ∃ x, (w7.alloc (.cells #[.int .i64 (-((u.size : Int) - (al : Int) - 1))] 2)).setCell ⟨gb, 0, none⟩ (.int .i64 (-((u.size : Int) - (al : Int) - 1))) = x := ⟨_, rfl⟩
  have K8 : Aside (w8.cell? ⟨gb, 0, none⟩ = some (.int .i64 (-((u.size : Int) - (al : Int) - 1)))) := ⟨by
    obtain ⟨q, hq⟩ := AC.out (.cells #[.int .i64 (-((u.size : Int) - (al : Int) - 1))] 2)
    rw [← hw8]; exact World.cell?_setCell_same _ _ _ hq⟩
  have F8 : Aside (Fr (fun _ _ => False) w5 w8) := ⟨by rw [← hw8]; exact (F6.out.alloc _).setCell gb 0 _ (fun k => by rw [HGB.out] at k; omega)⟩
  rw [hw8]
  clear hw8 AC AF
  go_quiet (fail)
  go_wp2_with fail
  rw [← HAB.out]
  obtain ⟨z, hz⟩ : ∃ z, mk (A ++ B) = z := ⟨_, rfl⟩
  have hzl : z.data.toList = A ++ B := by rw [← hz, mk_toList]
  have hzs : z.size = (A ++ B).length := by rw [← hz, mk_size]
  have hzd : Digs z.data.toList := by
    rw [hzl]; intro x hx
    rcases List.mem_append.1 hx with k | k
    · exact hA _ k
    · exact hB _ k
  rw [hz]
  have hz0 : 0 < z.size := by omega
  have hz3 : z.size ≤ 300 := by omega
  have HZL := Aside.mk hzl
  have HZD := Aside.mk hzd
  clear hz hzl hzs hzd h0 hlen hA hB HAB
  go_loopw [19] (fun _ wr => ∃ k : Nat, k ≤ z.size ∧ Aside (wr = (w8.drewN nq).iter z k)) (fun _ wr => z.size + 1 - wr.iterPos w8.heap.size)
  case atStart => exact ⟨0, by omega, ⟨rfl⟩⟩
  case round =>
    obtain ⟨k, hk, hW⟩ := hrel
    obtain ⟨hW⟩ := hW
    subst hW
    by_cases hl : k < z.size
    · have hd := HZD.out.get (show k < z.data.toList.length from hl)
      have e3 : z.data.toList[k] = z[k] := rfl
      rw [e3] at hd
      have n1 : ∀ ty, (Instr.next (.pointer (some ⟨w8.heap.size, 0, none⟩)) true ty).run Tryz.prog ((w8.drewN nq).iter z k) = .ok (.tuple #[.bool true, .int .i64 k, .int .i32 (z[k].toNat : Nat)]) ((w8.drewN nq).iter z (k + 1)) := fun ty => run_next_ascii (w8.drewN nq) z k ty hl (by omega)
      obtain ⟨ch, hch⟩ : ∃ x, z[k].toNat = x := ⟨_, rfl⟩
      rw [hch] at hd n1
      have q1 : decide ((ch : Int) < 48) = false := by simp; omega
      have q2 : decide (57 < (ch : Int)) = false := by simp; omega
      clear hch hd e3
      go_wp2_with fail
      go_roundw
      case rel => exact ⟨k + 1, by omega, ⟨rfl⟩⟩
      case measure =>
        have i1 := World.iterPos_iter (w8.drewN nq) z k
        have i2 := World.iterPos_iter (w8.drewN nq) z (k + 1)
        rw [show (w8.drewN nq).heap.size = w8.heap.size from rfl] at i1 i2
        rw [i1, i2]; omega
    · have n2 : ∀ ty, (Instr.next (.pointer (some ⟨w8.heap.size, 0, none⟩)) true ty).run Tryz.prog ((w8.drewN nq).iter z k) = .ok (.tuple #[.bool false]) ((w8.drewN nq).iter z k) := fun ty => run_next_end (w8.drewN nq) z k ty hl
      go_wp2_with fail
      have F10 : Fr (fun _ _ => False) w5 ((w8.drewN nq).iter z k) := (F8.out.drewN nq).alloc _
      have FF := F5.out.trans' F10 (U := dfoot b a c) (fun _ _ _ k => k) (fun _ _ _ k => k.elim)
      have D10 := D5.out.fr F10 (fun _ _ _ k => k)
      have hS := Lib.hid (bSetString_any (s := z) (Nat.le_trans HG.out.size FF.size) D10.num HZD.out hz0 (by omega) (HE.out.fr HG.out.size FF HLO.out))
      refine hS.out.mono ?_
      rintro e1 w11 ⟨a11, c11, rfl, s1, s2, s3⟩
      have D11 := D10.put s1 s2
      have hgb5 := HGB.out
      have KX : w11.cell? ⟨gb, 0, none⟩ = some (.int .i64 (-((u.size : Int) - (al : Int) - 1))) := by
        have hg10 : gb < ((w8.drewN nq).iter z k).heap.size := Nat.lt_of_lt_of_le (World.block_lt_of_cell? w8 _ K8.out) (by simp [World.iter])
        refine (s2.cell gb 0 hg10 ?_).trans ?_
        · rintro (⟨k1, _⟩ | k1)
          · have := D5.out.lt; omega
          · have := D5.out.num.nt.reg.lt _ _ k1; omega
        · exact (World.cell?_alloc_lt (w8.drewN nq) _ _ (World.block_lt_of_cell? w8 _ K8.out)).trans K8.out
      have FF2 := FF.trans' s2 (U := dfoot b a c) (fun _ _ _ k => k) (fun x y hx k => by
        rcases k with ⟨rfl, _⟩ | k
        · exact .inl rfl
        · have hx5 : x < w'.heap.size := hx
          rcases O5.out with ⟨rfl, rfl⟩ | ⟨b2, o2, rfl, h2⟩
          · exact .inr k
          · rw [foot_some] at k; omega)
      have hf11 := D11.form
      have y11 := D11.num.blk.free 0
      have D12 := Aside.mk (D11.setForm 0)
      have F12 := Aside.mk (FF2.setD 0 (.int .i8 0))
      have K12 : Aside (Xs (w11.setCell ⟨b, 0, none⟩ (.int .i8 0)) (some ⟨gb, 0, none⟩) [-((u.size : Int) - (al : Int) - 1)]) := ⟨by
        intro i hi
        simp at hi
        subst hi
        refine ⟨gb, 0, rfl, ?_⟩
        rw [World.cell?_setCell_other _ _ _ _ (by have := D5.out.lt; simp)]
        exact KX⟩
      have O12 : Aside (Out w' a c a11 c11) := ⟨by
        rcases s3 with ⟨rfl, rfl⟩ | ⟨b2, o2, rfl, h2⟩
        · exact O5.out
        · exact .inr ⟨b2, o2, rfl, Nat.le_trans FF.size h2⟩⟩
      rw [HZL.out] at D12
      have hve : -((u.size : Int) - (al : Int) - 1) = -(bb : Int) := by have := HUS.out; omega
      have hbb3 : (bb : Int) ≤ 310 := by have := HUS.out; omega
      have hE := Lib.hid (setExponent_ok (nd := -1) (r := 0) (xc := 2) (L := [-((u.size : Int) - (al : Int) - 1)]) (HG.out.fr F12.out HLO.out) D12.out hX (HC.out.fr F12.out (by rintro o (k | k); exact hcb k; exact HAP.out _ k)) hcb K12.out (by simp) (by simp) (by intro x hx; simp at hx; subst hx; omega) (.inl rfl) hmn hmx (by simp only [sumTo, List.length_cons, List.length_nil]; simp; have := H1.out; omega) (by simp only [sumTo, List.length_cons, List.length_nil]; simp; have := H2.out; omega) (.inl rfl))
      clear F10 FF D10 hS s1 s2 s3 D11 KX FF2
      go_wp2_with fail
      refine hE.out.mono ?_
      rintro e1 w13 ⟨rfl, t1, t2⟩
      have T1 : Aside (DA w13 b 0 true (-(bb : Int)) a11 c11 (numOf (A ++ B))) := ⟨by
        have e4 : sumTo [-((u.size : Int) - (al : Int) - 1)] [-((u.size : Int) - (al : Int) - 1)].length = -(bb : Int) := by simp [sumTo]; omega
        rw [e4] at t1; exact t1⟩
      have T2 := Aside.mk (F12.out.trans' t2 (U := dfoot b a c) (fun _ _ _ k => k) (fun _ _ _ k => .inl k))
      clear t1 t2 hE hve
      go_wp2_with fail
      refine (goError0 cb _).mono ?_
      rintro e1 w14 ⟨rfl, rfl⟩
      go_wp2_with fail
      go_ret2
      exact ⟨a11, c11, rfl, T1.out, T2.out, O12.out⟩
end Go.Proofs.YtgilnnipephfjaaGreatDoor
