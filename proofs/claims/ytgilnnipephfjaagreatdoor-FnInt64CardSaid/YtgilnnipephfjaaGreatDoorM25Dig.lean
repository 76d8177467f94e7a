/- Int.String and Append; apd's BigInt over the methods of Int. Int.Append, BigInt.Append. The number of digits. -/
import Derived.Test.YtgilnnipephfjaaGreatDoorM24Big4
set_option linter.unusedSimpArgs false
set_option linter.unusedVariables false
namespace Go.Proofs.YtgilnnipephfjaaGreatDoor
open Go.RowKit

set_option maxRecDepth 100000 in
theorem iString_any {b o : Nat} {neg : Bool} {a : Option Addr} {c X : Nat} {w : World} (g : Gl w) (h : IA w b o neg a c X) (h8 : Sm X) :
    Calls Tryz.prog 92 #[.pointer (some ⟨b, o, none⟩)] w fun e w' => e = .returned (.string (itxt neg X)) ∧ Fr (fun _ _ => False) w w' := by
  have H := Lib.hid (iText_any g h h8)
  clear h g
  go_enter Tryz.func92, Tryz.ntmps92
  go_wp2_with fail
  refine H.out.mono ?_
  rintro e w1 ⟨rfl, s⟩
  have S := Aside.mk s
  clear s H
  go_wp2_with fail
  go_ret
  exact ⟨rfl, S.out⟩
set_option maxRecDepth 100000 in
theorem bString_any {b o : Nat} {neg : Bool} {a : Option Addr} {c X : Nat} {w : World} (g : Gl w) (h : IA w b o neg a c X) (h8 : Sm X) :
    Calls Tryz.prog 61 #[.pointer (some ⟨b, o, none⟩)] w fun e w' => e = .returned (.string (itxt neg X)) ∧ Fr (fun _ _ => False) w w' := by
  have H := Lib.hid (fun d => iString_any (g.drewN d) (h.drewN d) h8)
  clear h g
  go_enter Tryz.func61, Tryz.ntmps61
  go_wp2_with fail
  refine (H.out 0).mono ?_
  rintro e w1 ⟨rfl, s⟩
  have S := Aside.mk s
  clear s H
  go_wp2_with fail
  go_ret
  exact ⟨rfl, S.out⟩
set_option maxRecDepth 100000 in
theorem bSign_any {b o : Nat} {neg : Bool} {a : Option Addr} {c X : Nat} {w : World} (h : IA w b o neg a c X) :
    Calls Tryz.prog 130 #[.pointer (some ⟨b, o, none⟩)] w fun e w' => e = .returned (.int .i64 (sgn neg X)) ∧ w' = w := by
  have H := Lib.hid (sign_any h)
  clear h
  go_enter Tryz.func130, Tryz.ntmps130
  go_wp2_with fail
  refine H.out.mono ?_
  rintro e w1 ⟨rfl, rfl⟩
  go_wp2_with fail
  go_ret
  exact ⟨rfl, rfl⟩
set_option maxRecDepth 100000 in
theorem bBitLen_any {b o : Nat} {neg : Bool} {a : Option Addr} {c X : Nat} {w : World} (h : IA w b o neg a c X) (hk : nlen X < 1000) :
    Calls Tryz.prog 74 #[.pointer (some ⟨b, o, none⟩)] w fun e w' => e = .returned (.int .i64 (bl X : Nat)) ∧ w' = w := by
  have H := Lib.hid (bitLenI_any h hk)
  clear h
  go_enter Tryz.func74, Tryz.ntmps74
  go_wp2_with fail
  refine H.out.mono ?_
  rintro e w1 ⟨rfl, rfl⟩
  go_wp2_with fail
  go_ret
  exact ⟨rfl, rfl⟩
set_option maxRecDepth 100000 in
theorem bAbs_other {zb zo xb xo : Nat} {zn xn : Bool} {a xa : Option Addr} {c xc Z X : Nat} {w : World} (hG : NG ≤ w.heap.size) (hz : IA w zb zo zn a c Z) (hx : IA w xb xo xn xa xc X)
    (hap : zb ≠ xb ∨ zo + 2 ≤ xo ∨ xo + 2 ≤ zo) (hn : nlen X < 900000) :
    Calls Tryz.prog 180 #[.pointer (some ⟨zb, zo, none⟩), .pointer (some ⟨xb, xo, none⟩)] w fun e w' => ∃ a' c', e = .returned (.pointer (some ⟨zb, zo, none⟩)) ∧ IA w' zb zo false a' c' X ∧ Fr (ifoot zb zo a c) w w' ∧ Out w a c a' c' := by
  have H := Lib.hid (fun d => iAbs_other (w := w.drewN d) hG (hz.drewN d) (hx.drewN d) hap hn)
  clear hz hx hap
  go_enter Tryz.func180, Tryz.ntmps180
  go_wp2_with fail
  go_region_with (go_at_call 214; go_must (refine (H.out _).mono ?_; rintro e w1 ⟨a', c', rfl, s⟩))
  all_goals
    have S := Aside.mk s
    clear s
    go_wp2_with fail
    go_ret
    exact ⟨a', c', rfl, S.out.1, ((Fr.refl _ w).drewN _).trans S.out.2.1, S.out.2.2⟩
set_option maxRecDepth 100000 in
theorem bAbs_self {b o : Nat} {neg : Bool} {a : Option Addr} {c X : Nat} {w : World} (h : IA w b o neg a c X) :
    Calls Tryz.prog 180 #[.pointer (some ⟨b, o, none⟩), .pointer (some ⟨b, o, none⟩)] w fun e w' => e = .returned (.pointer (some ⟨b, o, none⟩)) ∧ IA w' b o false a c X ∧ Fr (fun b' o' => b' = b ∧ o' = o) w w' := by
  have H := Lib.hid (fun d => abs_self (h.drewN d))
  clear h
  go_enter Tryz.func180, Tryz.ntmps180
  go_wp2_with fail
  go_region_with (go_at_call 214; go_must (refine (H.out _).mono ?_; rintro e w1 ⟨rfl, s⟩))
  all_goals
    have S := Aside.mk s
    clear s
    go_wp2_with fail
    go_ret
    exact ⟨rfl, S.out.1, ((Fr.refl _ w).drewN _).trans S.out.2⟩
set_option maxRecDepth 100000 in
theorem bSet_other {zb zo xb xo : Nat} {zn xn : Bool} {a xa : Option Addr} {c xc Z X : Nat} {w : World} (hG : NG ≤ w.heap.size) (hz : IA w zb zo zn a c Z) (hx : IA w xb xo xn xa xc X)
    (hap : zb ≠ xb ∨ zo + 2 ≤ xo ∨ xo + 2 ≤ zo) (hn : nlen X < 900000) :
    Calls Tryz.prog 101 #[.pointer (some ⟨zb, zo, none⟩), .pointer (some ⟨xb, xo, none⟩)] w fun e w' => ∃ a' c', e = .returned (.pointer (some ⟨zb, zo, none⟩)) ∧ IA w' zb zo xn a' c' X ∧ Fr (ifoot zb zo a c) w w' ∧ Out w a c a' c' := by
  have H := Lib.hid (fun d => iSet_other (w := w.drewN d) hG (hz.drewN d) (hx.drewN d) hap hn)
  clear hz hx hap
  go_enter Tryz.func101, Tryz.ntmps101
  go_wp2_with fail
  go_region_with (go_at_call 142; go_must (refine (H.out _).mono ?_; rintro e w1 ⟨a', c', rfl, s⟩))
  all_goals
    have S := Aside.mk s
    clear s
    go_wp2_with fail
    go_ret
    exact ⟨a', c', rfl, S.out.1, ((Fr.refl _ w).drewN _).trans S.out.2.1, S.out.2.2⟩
set_option maxRecDepth 100000 in
theorem bCmp_pos {b o b' o' : Nat} {a a' : Option Addr} {c c' X Y : Nat} {w : World} (h : IA w b o false a c X) (h' : IA w b' o' false a' c' Y) (hne : b ≠ b' ∨ o ≠ o') :
    Calls Tryz.prog 100 #[.pointer (some ⟨b, o, none⟩), .pointer (some ⟨b', o', none⟩)] w fun e w' => e = .returned (.int .i64 (sg X Y)) ∧ ∃ d, w' = w.drewN d := by
  have H : Hid (∀ d0, Calls Tryz.prog 141 #[.pointer (some ⟨b, o, none⟩), .pointer (some ⟨b', o', none⟩)] (w.drewN d0) fun e w1 => ∃ d, e = .returned (.int .i64 (sg X Y)) ∧ w1 = w.drewN d) := Lib.hid (fun d0 => by
    refine (cmpI_pos (h.drewN d0) (h'.drewN d0) hne).mono ?_
    rintro e w1 ⟨rfl, d, rfl⟩
    exact ⟨d0 + d, rfl, by rw [World.drewN_drewN]⟩)
  clear h h' hne
  go_enter Tryz.func100, Tryz.ntmps100
  go_wp2_with fail
  go_region_with (go_at_call 141; go_must (refine (H.out _).mono ?_; rintro e w1 ⟨d, rfl, rfl⟩))
  all_goals
    go_wp2_with fail
    go_ret
    exact ⟨rfl, _, rfl⟩
set_option maxRecDepth 100000 in
theorem bSetString_any {b o : Nat} {neg : Bool} {a : Option Addr} {c X : Nat} {s : ByteArray} {w : World} (hG : NG ≤ w.heap.size) (h : IA w b o neg a c X) (hd : Digs s.data.toList) (h0 : 0 < s.size) (hs : s.size ≤ 1000) (hE : EofV w) :
    Calls Tryz.prog 62 #[.pointer (some ⟨b, o, none⟩), .string s, .int .i64 10] w fun e w' => ∃ a' c', e = .returned (.tuple #[.pointer (some ⟨b, o, none⟩), .bool true]) ∧
      IA w' b o false a' c' (numOf s.data.toList) ∧ Fr (ifoot b o a c) w w' ∧ Out w a c a' c' := by
  have H := Lib.hid (iSetString_any hG h hd h0 hs hE)
  clear h hd h0 hE
  go_enter Tryz.func62, Tryz.ntmps62
  go_wp2_with fail
  refine H.out.mono ?_
  rintro e w1 ⟨a', c', rfl, s⟩
  have S := Aside.mk s
  clear s H
  go_wp2_with fail
  go_ret2
  exact ⟨a', c', rfl, S.out⟩
set_option maxRecDepth 100000 in
theorem bSetString_empty {b o : Nat} {s : ByteArray} {w : World} (hG : NG ≤ w.heap.size) (h0 : s.size = 0) (hE : EofV w) :
    Calls Tryz.prog 62 #[.pointer (some ⟨b, o, none⟩), .string s, .int .i64 10] w fun e w' => e = .returned (.tuple #[.pointer none, .bool false]) ∧ Fr (fun _ _ => False) w w' := by
  have H := Lib.hid (iSetString_empty (b := b) (o := o) hG h0 hE)
  clear h0 hE
  go_enter Tryz.func62, Tryz.ntmps62
  go_wp2_with fail
  refine H.out.mono ?_
  rintro e w1 ⟨rfl, s⟩
  have S := Aside.mk s
  clear s H
  go_wp2_with fail
  go_ret2
  exact ⟨rfl, S.out⟩
end Go.Proofs.YtgilnnipephfjaaGreatDoor
namespace Go.Proofs.YtgilnnipephfjaaGreatDoor
open Go.RowKit

theorem step_appendB {ops : Array Oper} {o : Oper} {ac : Act} {w : World} {K : Act → World → Prop} {Q : Exit → Act → World → Prop} {E : Prop} (hgd : o.guard = none) (s x : Operand) (tx : TypeId)
    (ho : o.op = .call { callee := .builtin .append, args := #[s, x], argTypes := #[38, tx] })
    {a : Option Addr} {n c : Nat} {l : List UInt8} (hG : NG ≤ w.heap.size) (h : Bf w a n c l) (hv : ac.eval s = .slice a n c)
    {xv : Value} {m : Nat} {news : List UInt8} (hx : ac.eval x = xv) (hs : Src Tryz.prog 1 tx xv m (bv news) w) (hm : news.length = m) (hlen : n + m < 100000000)
    (hK : ∀ (a' : Option Addr) (c' : Nat) w', Bf w' a' (n + m) c' (l ++ news) → Fr (foot a c) w w' → Out w a c a' c' → K (ac.put o.dst (.slice a' (n + m) c')) w') :
    if Region.wanted o (yielded ops ac.tmps) = true then Oper.wp Tryz.prog o ac w K Q else E := by
  have hw : Region.wanted o (yielded ops ac.tmps) = true := by simp [Region.wanted, hgd]
  rw [if_pos hw]
  obtain ⟨a', c', w', hr, h1, h2, h3⟩ := run_appendB hG h hs hm hlen (ty := o.type)
  unfold Oper.wp execOp
  simp only [ho, resolve, invoke, builtin, Sem.run_bind, Sem.run_pure, Result.andThen_ok, List.map_toArray, List.map_cons, List.map_nil, hv, hx, hr]
  exact hK a' c' w' h1 h2 h3

set_option maxRecDepth 100000 in
theorem iAppend_any {b o : Nat} {neg : Bool} {a : Option Addr} {c X : Nat} {w : World} {ba : Option Addr} {n bc : Nat} {l : List UInt8} (g : Gl w) (h : IA w b o neg a c X) (h8 : Sm X) (hB : Bf w ba n bc l) (hn : n < 1000000) (hlen : (txt neg X).length < 1000000) :
    Calls Tryz.prog 109 #[.pointer (some ⟨b, o, none⟩), .slice ba n bc, .int .i64 10] w fun e w' => ∃ a' c', e = .returned (.slice a' (n + (txt neg X).length) c') ∧ Bf w' a' (n + (txt neg X).length) c' (l ++ txt neg X) ∧ Fr (foot ba bc) w w' ∧ Out w ba bc a' c' := by
  have hn' := h.neg
  have ha := h.abs
  have H : Hid (∀ d, Calls Tryz.prog 149 #[.slice a (nlen X) c, .bool neg, .int .i64 10] (w.drewN d) fun e w' => ∃ b o n1 c', e = .returned (.slice (some ⟨b, o, none⟩) n1 c') ∧
      Aside ((txt neg X).length = n1) ∧ Aside (Src Tryz.prog 1 38 (.slice (some ⟨b, o, none⟩) n1 c') n1 (bv (txt neg X)) w') ∧ Aside (Bf w' ba n bc l) ∧ Aside (Fr (fun _ _ => False) w w')) := Lib.hid (fun d => by
    refine (itoa_any neg (g.drewN d) (h.nt.drewN d) h8).mono ?_
    rintro e w1 ⟨b, o, c', rfl, h1, h2, h3, h4⟩
    have f := ((Fr.refl (fun _ _ => False) w).drewN d).trans h4
    exact ⟨b, o, _, c', rfl, ⟨rfl⟩, ⟨Src.bytes rfl h1⟩, ⟨hB.fr f (fun _ _ _ k => k)⟩, ⟨f⟩⟩)
  have hG := g.size
  clear h g hB
  go_enter Tryz.func109, Tryz.ntmps109
  go_wp2_with fail
  go_region_law (first | (refine step_appendB rfl (.tmp 11) (.tmp 21) 38 rfl (Nat.le_trans hG hA4.out.size) hA3.out rfl rfl hA2.out hA1.out (by have := hA1.out; omega) ?_; intro a2 c2 w2 k1 k2 k3) | (go_simp; go_at_call 149; go_must (refine (H.out _).mono ?_; rintro e w1 ⟨b1, o1, n1, c1, rfl, hA1, hA2, hA3, hA4⟩)))
  all_goals
    have K1 := Aside.mk k1
    have K2 := Aside.mk (hA4.out.trans' k2 (U := foot ba bc) (fun _ _ _ k => k.elim) (fun _ _ _ k => k))
    have K3 := Aside.mk (k3.older hA4.out.size)
    clear k1 k2 k3 H
    go_wp2_with fail
    go_ret
    rw [hA1.out]
    exact ⟨a2, c2, rfl, K1.out, K2.out, K3.out⟩
set_option maxRecDepth 100000 in
theorem bAppend_any {b o : Nat} {neg : Bool} {a : Option Addr} {c X : Nat} {w : World} {ba : Option Addr} {n bc : Nat} {l : List UInt8} (g : Gl w) (h : IA w b o neg a c X) (h8 : Sm X) (hB : Bf w ba n bc l) (hn : n < 1000000) (hlen : (txt neg X).length < 1000000) :
    Calls Tryz.prog 79 #[.pointer (some ⟨b, o, none⟩), .slice ba n bc, .int .i64 10] w fun e w' => ∃ a' c', e = .returned (.slice a' (n + (txt neg X).length) c') ∧ Bf w' a' (n + (txt neg X).length) c' (l ++ txt neg X) ∧ Fr (foot ba bc) w w' ∧ Out w ba bc a' c' := by
  have H := Lib.hid (iAppend_any g h h8 hB hn hlen)
  obtain ⟨m, hm⟩ : ∃ m, n + (txt neg X).length = m := ⟨_, rfl⟩
  rw [hm] at H ⊢
  clear h g hB hlen hm
  go_enter Tryz.func79, Tryz.ntmps79
  go_wp2_with fail
  refine H.out.mono ?_
  rintro e w1 ⟨a2, c2, rfl, s⟩
  have S := Aside.mk s
  clear s H
  go_wp2_with fail
  go_ret
  exact ⟨a2, c2, rfl, S.out⟩
end Go.Proofs.YtgilnnipephfjaaGreatDoor
namespace Go.Proofs.YtgilnnipephfjaaGreatDoor
open Go.RowKit

theorem run_fcut64 {b k : Nat} (h : (FloatKind.f64.decode b).toInt .zero = some (k : Int)) (hk : k < 1000000) (w : World) : Sem.run Tryz.prog (convert 209 2 (.float .f64 b)) w = .ok (.int .i64 k) w := by
  have : Sem.run Tryz.prog (convert 209 2 (.float .f64 b)) w = Sem.run Tryz.prog (Conv.floatToInt .f64 b .i64) w := by kernel_rfl
  rw [this]
  simp only [Conv.floatToInt, h]
  rw [if_pos (by rw [show IntKind.i64.min = -9223372036854775808 from rfl, show IntKind.i64.max = 9223372036854775807 from rfl]; omega)]
  rfl
theorem pow_far : ∀ N M : Nat, N = 420 → M = 1099 → ¬ 10 ^ N ≤ 2 ^ M := by
  rintro N M rfl rfl
  decide +kernel
theorem pow_bound {k m : Nat} (h : 10 ^ (k - 1) ≤ 2 ^ (m - 1)) (hm : m ≤ 1100) : k ≤ 420 := by
  apply Nat.le_of_not_lt
  intro hk
  obtain ⟨N, hN⟩ : ∃ N, N = 420 := ⟨_, rfl⟩
  obtain ⟨M, hM⟩ : ∃ M, M = 1099 := ⟨_, rfl⟩
  have h1 : 10 ^ N ≤ 10 ^ (k - 1) := Nat.pow_le_pow_right (by omega) (by omega)
  have h2 : 2 ^ (m - 1) ≤ 2 ^ M := Nat.pow_le_pow_right (by omega) (by omega)
  exact absurd (Nat.le_trans h1 (Nat.le_trans h h2)) (pow_far N M hN hM)
theorem nlen_bl {X m : Nat} (h : bl X ≤ 64 * m) : nlen X ≤ m := nlen_le (by rw [Bpow_two]; exact (lt_two_iff X _).2 h)
theorem two_bl {X : Nat} (h : X ≠ 0) : 2 ^ (bl X - 1) ≤ X := by
  apply Nat.le_of_not_lt
  intro k
  have := (lt_two_iff X (bl X - 1)).1 k
  have := bl_pos h
  omega
theorem ndig_hi {X k : Nat} (h0 : X ≠ 0) (h1 : 2 ^ bl X ≤ 10 ^ (k + 1)) (hk : 10 ^ k ≤ X) : ndig X = k + 1 :=
  ndig_eq_of hk (Nat.lt_of_lt_of_le ((lt_two_iff X (bl X)).2 (Nat.le_refl _)) h1)
theorem ndig_lo {X k : Nat} (h0 : X ≠ 0) (h2 : 10 ^ (k - 1) ≤ 2 ^ (bl X - 1)) (hk : ¬ 10 ^ k ≤ X) : ndig X = k := by
  have hX := two_bl h0
  rcases Nat.eq_zero_or_pos k with rfl | hp
  · simp at hk; omega
  · have := ndig_eq_of (X := X) (n := k - 1) (by omega) (by rw [show k - 1 + 1 = k from by omega]; omega)
    omega
theorem bl_zero_iff {X : Nat} : bl X = 0 ↔ X = 0 := by
  constructor
  · intro h; apply Classical.byContradiction; intro k; have := bl_pos k; omega
  · rintro rfl; rfl

set_option maxRecDepth 100000 in
set_option maxHeartbeats 1000000 in
theorem numDigits_any {b o : Nat} {neg : Bool} {a : Option Addr} {c X : Nat} {w : World} (g : Gl w) (h : IA w b o neg a c X) (hX : bl X ≤ 1100) :
    Calls Tryz.prog 137 #[.pointer (some ⟨b, o, none⟩)] w fun e w' => e = .returned (.int .i64 (ndig X : Nat)) ∧ Fr (fun _ _ => False) w w' := by
  have hnl : nlen X < 1000 := by have := nlen_bl (X := X) (m := 18) (by omega); omega
  have HB := Lib.hid (bBitLen_any h hnl)
  by_cases h0 : X = 0
  · subst h0
    have e0 : bl 0 = 0 := rfl
    have e1 : ndig 0 = 1 := by rw [ndig]; simp
    rw [e0] at HB
    rw [e1]
    clear h g e0 e1 hX hnl
    go_enter Tryz.func137, Tryz.ntmps137
    go_wp2_with fail
    refine HB.out.mono ?_
    rintro e w' ⟨rfl, rfl⟩
    go_wp2_with fail
    go_ret
    exact ⟨rfl, Fr.refl _ _⟩
  · obtain ⟨q, k, hq, hk1, hk2, hkX⟩ := fl_get flAll_log hX
    obtain ⟨hq1, hq2⟩ := flq_some hq
    have hk420 := pow_bound hk2 hX
    have f1 := run_fof (bl X)
    have f2 := run_fdiv hq1
    have f3 := run_fcut64 hq2 (by omega)
    have hb0 : ((bl X : Int) == 0) = false := by rw [beq_eq_false_iff_ne]; have := bl_pos h0; omega
    obtain ⟨BL, hBL⟩ : ∃ x, bl X = x := ⟨_, rfl⟩
    have e1 := Lib.hid (fun hk => ndig_hi h0 hk1 (k := k) hk)
    have e2 := Lib.hid (fun hk => ndig_lo h0 hk2 (k := k) hk)
    rw [hBL] at f1 f2 HB hb0
    obtain ⟨fb, hfb⟩ : ∃ x, FloatKind.f64.nearest (BL : Int) = x := ⟨_, rfl⟩
    rw [hfb] at f1 f2
    have HI := Aside.mk h
    have HG := Aside.mk g
    have hG := g.size
    clear hq hq1 hq2 hk1 hk2 hkX hBL hfb hX h0 h g
    go_enter Tryz.func137, Tryz.ntmps137
    go_wp2_with fail
    refine HB.out.mono ?_
    rintro e w' ⟨rfl, rfl⟩
    go_wp2_with fail
    have HN := Aside.mk (IA.new hG 69)
    have F1 := Aside.mk ((Fr.refl (fun _ _ => False) w').alloc (.cells #[.bool false, .slice none 0 0] 69))
    have HT := Lib.hid (tableExp10_any k hk420 (HG.out.fr F1.out (fun _ _ k => k.elim)) HN.out)
    refine HT.out.mono ?_
    rintro e w2 ⟨a2, c2, rfl, t1, t2, t3⟩
    have F2 : Aside (Fr (fun _ _ => False) w' w2) := ⟨F1.out.trans' t2 (fun _ _ _ k => k) (fun b o hb k => by
      rcases k with ⟨rfl, _⟩ | k
      · omega
      · exact foot_none _ _ _ k)⟩
    have hs2 : w'.heap.size < w2.heap.size := by have := t2.size; simp at this; omega
    have T1 := Aside.mk t1
    clear t1 t2 t3 HT HN
    go_wp2_with fail
    have HN2 := Aside.mk (IA.new (w := w2) (Nat.le_trans hG (by omega)) 69)
    have F3 := Aside.mk (F2.out.alloc (.cells #[.bool false, .slice none 0 0] 69))
    have hbl := HI.out.blk.lt
    have HA := Lib.hid (bAbs_other (w := w2.alloc (.cells #[.bool false, .slice none 0 0] 69)) (Nat.le_trans hG F3.out.size) HN2.out (HI.out.fr F3.out (fun _ _ _ k => k)) (.inl (by omega)) (by omega))
    refine HA.out.mono ?_
    rintro e w3 ⟨a3, c3, rfl, u1, u2, u3⟩
    have F4 : Aside (Fr (fun _ _ => False) w' w3) := ⟨F3.out.trans' u2 (fun _ _ _ k => k) (fun b o hb k => by
      rcases k with ⟨rfl, _⟩ | k
      · omega
      · exact foot_none _ _ _ k)⟩
    have hE : IA w3 w'.heap.size 0 false a2 c2 (10 ^ k) := (T1.out.fr ((Fr.refl (fun _ _ => False) w2).alloc (.cells #[.bool false, .slice none 0 0] 69)) (fun _ _ _ k => k)).fr u2 (fun b' o' k1 k2 => by
      have hlt : b' < w2.heap.size := by
        rcases k1 with ⟨rfl, _⟩ | k1
        · omega
        · exact T1.out.nt.reg.lt _ _ k1
      rcases k2 with ⟨rfl, _⟩ | k2
      · omega
      · exact foot_none _ _ _ k2)
    have HC := Lib.hid (bCmp_pos u1 hE (.inl (by omega)))
    clear u1 u2 u3 hE HA HN2
    go_wp2_with fail
    by_cases hc : 10 ^ k ≤ X
    · have hsg : (sg X (10 ^ k) : Int) ≥ 0 := by unfold sg; rw [if_neg (by omega)]; split <;> omega
      have he := Aside.mk (e1.out hc)
      obtain ⟨z, hz⟩ : ∃ z, sg X (10 ^ k) = z := ⟨_, rfl⟩
      rw [hz] at HC hsg
      clear hz hc
      refine HC.out.mono ?_
      rintro e w4 ⟨rfl, d, rfl⟩
      go_wp2_with fail
      go_ret
      exact ⟨by rw [he.out]; rfl, F4.out.drewN d⟩
    · have hsg : (sg X (10 ^ k) : Int) = -1 := by unfold sg; rw [if_pos (by omega)]
      have he := Aside.mk (e2.out hc)
      rw [hsg] at HC
      clear hc hsg
      refine HC.out.mono ?_
      rintro e w4 ⟨rfl, d, rfl⟩
      go_wp2_with fail
      go_ret
      exact ⟨by rw [he.out]; rfl, F4.out.drewN d⟩
end Go.Proofs.YtgilnnipephfjaaGreatDoor
