/- The first drawn region of impl.Compose's closure. impl.Compose's closure, of finite parts. impl.Compose of finite parts. -/
import Derived.Test.YtgilnnipephfjaaGreatDoorU49BS3
import Derived.Test.YtgilnnipephfjaaGreatDoorS35Quo1
import Derived.Test.YtgilnnipephfjaaGreatDoorM33Eql
set_option linter.unusedSimpArgs false
set_option linter.unusedVariables false
namespace Go.Proofs.YtgilnnipephfjaaGreatDoor
open Go.RowKit

theorem Src.rd {w : World} {a : Option Addr} {n c : Nat} {l : List UInt8} (h : RdB w a n c l) : Src Tryz.prog 1 38 (.slice a n c) n (bv l) w := by
  have hl := h.len
  rcases h.reg with rfl | ⟨b, o, rfl, _, hb⟩
  · have e : l = [] := List.eq_nil_of_length_eq_zero hl
    subst e
    cases a with
    | none => exact Src.ofNil w Tryz.underlying38 c
    | some x => exact Src.ofSlice w Tryz.underlying38 x 0 c (bv []) rfl (fun j u hu => by simp [bv] at hu) (bv_one [])
  · exact Src.bytes hl hb
theorem oper_append {o : Oper} {ac : Act} {K : Act → World → Prop} {Q : Exit → Act → World → Prop} {w w' : World} {tx : TypeId} {s x : Operand} {vs xv vr : Value} (ho : o.op = .call { callee := .builtin .append, args := #[s, x], argTypes := #[38, tx] }) (hv : ac.eval s = vs) (hx : ac.eval x = xv)
    (hr : (Builtin.append_ #[38, tx] o.type #[vs, xv]).run Tryz.prog w = .ok vr w') (hK : K (ac.put o.dst vr) w') : o.wp Tryz.prog ac w K Q := by
  unfold Oper.wp execOp
  simp only [ho, resolve, invoke, builtin, Sem.run_bind, Sem.run_pure, Result.andThen_ok, List.map_toArray, List.map_cons, List.map_nil, hv, hx, hr]
  exact hK
noncomputable def coc (n : Nat) : Code := ((Tryz.f42.body.bind (rgOf n)).getD .skip)
set_option maxRecDepth 100000 in
set_option maxHeartbeats 2000000 in
theorem co1 {c : Code} (hc : c = coc 1) {px pd pk z nb cb : Nat} {a : Option Addr} {n : Bool} {e f : Int} {l : List UInt8} {w : World} {PP : World → Prop} (hG : NG ≤ w.heap.size) (hlt : px < w.heap.size) (hpz : ¬ px = z) (x0 : w.cell? ⟨px, 0, none⟩ = some (.int .u8 f)) (x1 : w.cell? ⟨px, 1, none⟩ = some (.bool n)) (x2 : w.cell? ⟨px, 2, none⟩ = some (.slice a nb cb)) (x3 : w.cell? ⟨px, 3, none⟩ = some (.int .i32 e))
    (HB : Aside (RdB w a nb cb l)) (hn : nb ≤ 100000)
    (HC : Hid (∀ w1 a1 c1, Fr (fun _ _ => False) w w1 → Bf w1 a1 nb c1 l → Out w none 0 a1 c1 → Calls Tryz.prog 43 #[.pointer (some ⟨z, 0, none⟩), .int .u8 f, .bool n, .slice a1 nb c1, .int .i32 e] w1 fun e1 w2 => e1 = .returned .nilIface ∧ Fr (fun x _ => x = z) w w2 ∧ Aside (PP w2)))
    (u4 u5 u6 u7 u8 u9 u10 u11 u12 u13 u14 u15 u16 u17 u18 u19 u20 : Value) (N : Act → World → Prop)
    (HN : Aside (∀ (v6 v7 v8 v9 v10 v11 v12 v13 v14 v15 v16 : Value) (W : World), PP W → Fr (fun x _ => x = z) w W → N ⟨#[.pointer (some ⟨px, 0, none⟩), .pointer (some ⟨pd, 0, none⟩), .pointer (some ⟨pk, 0, none⟩), .pointer (some ⟨z, 0, none⟩), .nilIface, u5, v6, v7, v8, v9, v10, v11, v12, v13, v14, v15, v16, u17, u18, u19, u20], []⟩ W)) :
    Code.wp Tryz.prog c (QN N) ⟨#[.pointer (some ⟨px, 0, none⟩), .pointer (some ⟨pd, 0, none⟩), .pointer (some ⟨pk, 0, none⟩), .pointer (some ⟨z, 0, none⟩), u4, u5, u6, u7, u8, u9, u10, u11, u12, u13, u14, u15, u16, u17, u18, u19, u20], []⟩ w := by
  subst hc
  conv => arg 2; whnf
  refine wp_region_held (S := (fun w9 => Fr (fun x _ => x = z) w w9)) (by kernel_rfl) ?_
  change wpAnyH _ _ _ _ _ _ _ _ (World.drew _)
  have hff : Fr (fun _ _ => False) w w.drew := (Fr.refl _ w).drew
  generalize w.drew = wd at hff ⊢
  have hfd : Fr (fun x _ => x = z) w wd := hff.mono (fun _ _ _ q => q.elim)
  refine wpAnyH_take (i := 0) (v := ?_) rfl (by kernel_rfl) (by kernel_rfl) (by kernel_rfl) (fun _ _ _ h => h) (Or.inl ⟨by kernel_rfl, ?_⟩) hfd ?_
  rotate_left 1
  · intro w9 hF9
    go_simp
    try with_reducible rfl
  try simp only [Act.put, List.setIfInBounds_toArray, List.set_cons_zero, List.set_cons_succ]
  refine wpAnyH_take (i := 1) (v := ?_) rfl (by kernel_rfl) (by kernel_rfl) (by kernel_rfl) (fun _ _ _ h => h) (Or.inl ⟨by kernel_rfl, ?_⟩) hfd ?_
  rotate_left 1
  · intro w9 hF9
    go_simp
    try with_reducible rfl
  try simp only [Act.put, List.setIfInBounds_toArray, List.set_cons_zero, List.set_cons_succ]
  refine wpAnyH_take (i := 2) (v := ?_) rfl (by kernel_rfl) (by kernel_rfl) (by kernel_rfl) (fun _ _ _ h => h) (Or.inl ⟨by kernel_rfl, ?_⟩) hfd ?_
  rotate_left 1
  · intro w9 hF9
    have q0 := (hF9.cell px 0 hlt hpz).trans x0
    go_simp
    try with_reducible rfl
  try simp only [Act.put, List.setIfInBounds_toArray, List.set_cons_zero, List.set_cons_succ]
  refine wpAnyH_take (i := 3) (v := ?_) rfl (by kernel_rfl) (by kernel_rfl) (by kernel_rfl) (fun _ _ _ h => h) (Or.inl ⟨by kernel_rfl, ?_⟩) hfd ?_
  rotate_left 1
  · intro w9 hF9
    go_simp
    try with_reducible rfl
  try simp only [Act.put, List.setIfInBounds_toArray, List.set_cons_zero, List.set_cons_succ]
  refine wpAnyH_take (i := 4) (v := ?_) rfl (by kernel_rfl) (by kernel_rfl) (by kernel_rfl) (fun _ _ _ h => h) (Or.inl ⟨by kernel_rfl, ?_⟩) hfd ?_
  rotate_left 1
  · intro w9 hF9
    have q0 := (hF9.cell px 1 hlt hpz).trans x1
    go_simp
    try with_reducible rfl
  try simp only [Act.put, List.setIfInBounds_toArray, List.set_cons_zero, List.set_cons_succ]
  refine wpAnyH_take (i := 5) (v := ?_) rfl (by kernel_rfl) (by kernel_rfl) (by kernel_rfl) (fun _ _ _ h => h) (Or.inl ⟨by kernel_rfl, ?_⟩) hfd ?_
  rotate_left 1
  · intro w9 hF9
    go_simp
    try with_reducible rfl
  try simp only [Act.put, List.setIfInBounds_toArray, List.set_cons_zero, List.set_cons_succ]
  refine wpAnyH_take (i := 6) (v := ?_) rfl (by kernel_rfl) (by kernel_rfl) (by kernel_rfl) (fun _ _ _ h => h) (Or.inl ⟨by kernel_rfl, ?_⟩) hfd ?_
  rotate_left 1
  · intro w9 hF9
    have q0 := (hF9.cell px 2 hlt hpz).trans x2
    go_simp
    try with_reducible rfl
  try simp only [Act.put, List.setIfInBounds_toArray, List.set_cons_zero, List.set_cons_succ]
  refine wpAnyH_take (i := 8) (v := ?_) rfl (by kernel_rfl) (by kernel_rfl) (by kernel_rfl) (fun _ _ _ h => h) (Or.inl ⟨by kernel_rfl, ?_⟩) hfd ?_
  rotate_left 1
  · intro w9 hF9
    go_simp
    try with_reducible rfl
  try simp only [Act.put, List.setIfInBounds_toArray, List.set_cons_zero, List.set_cons_succ]
  refine wpAnyH_take (i := 9) (v := ?_) rfl (by kernel_rfl) (by kernel_rfl) (by kernel_rfl) (fun _ _ _ h => h) (Or.inl ⟨by kernel_rfl, ?_⟩) hfd ?_
  rotate_left 1
  · intro w9 hF9
    have q0 := (hF9.cell px 3 hlt hpz).trans x3
    go_simp
    try with_reducible rfl
  try simp only [Act.put, List.setIfInBounds_toArray, List.set_cons_zero, List.set_cons_succ]
  have hbd := HB.out.fr hff
  obtain ⟨a3, c3, w3, hr, k1, k2, k3⟩ := run_appendB (Nat.le_trans hG hfd.size) (Bf.nil wd) (Src.rd hbd) hbd.len (by omega) (ty := 38)
  rw [Nat.zero_add] at hr k1
  refine wpAnyH_ready (rs := [7]) (by kernel_rfl) (by simp) ?_
  refine AllReadyH.cons rfl (fun K hK => ?_) AllReadyH.nil
  rw [if_pos (by kernel_rfl)]
  refine oper_append (s := .const (.slice none 0 0)) (x := .tmp 12) (vs := .slice none 0 0) (xv := .slice a nb cb) (tx := 38) (w' := w3) (vr := .slice a3 nb c3) (by kernel_rfl) (by kernel_rfl) (by kernel_rfl) hr ?_
  have f3 : Fr (fun _ _ => False) w w3 := hff.trans (k2.mono (fun _ _ _ q => absurd q (foot_none _ _ _)))
  have g3 : Fr (fun x _ => x = z) w w3 := f3.mono (fun _ _ _ q => q.elim)
  rw [List.nil_append] at k1
  refine Shut.out hK _ _ g3 (fun _ => ?_)
  clear hK K
  try simp only [Act.put, List.setIfInBounds_toArray, List.set_cons_zero, List.set_cons_succ]
  refine wpAnyH_ready (rs := [10]) (by kernel_rfl) (by simp) ?_
  refine AllReadyH.cons rfl (fun K hK => ?_) AllReadyH.nil
  go_simp
  go_must (refine (HC.out _ _ _ f3 k1 (k3.older hff.size)).mono ?_; rintro e1 w4 ⟨rfl, kf, hp⟩)
  refine Shut.out hK _ _ kf (fun _ => ?_)
  clear hK K
  try simp only [Act.put, List.setIfInBounds_toArray, List.set_cons_zero, List.set_cons_succ]
  refine wpAnyH_take (i := 11) (v := ?_) rfl (by kernel_rfl) (by kernel_rfl) (by kernel_rfl) (fun _ _ _ h => h) (Or.inl ⟨by kernel_rfl, ?_⟩) kf ?_
  rotate_left 1
  · intro w9 hF9
    go_simp
    try with_reducible rfl
  try simp only [Act.put, List.setIfInBounds_toArray, List.set_cons_zero, List.set_cons_succ]
  refine wpAnyH_done (by kernel_rfl) ?_ _
  exact HN.out _ _ _ _ _ _ _ _ _ _ _ w4 hp.out kf
end Go.Proofs.YtgilnnipephfjaaGreatDoor
namespace Go.Proofs.YtgilnnipephfjaaGreatDoor
open Go.RowKit

theorem sm_beN {l : List UInt8} (h : l.length ≤ 100) : Sm (beN l) := by
  have h1 := beN_lt l
  have h2 := p256_le l.length
  exact sm_pow (n := 3 * l.length) (Nat.lt_of_lt_of_le h1 h2) (by omega)
/-- The parts of a decimal in a box. -/
structure P4 (w : World) (b : Nat) (f : Int) (n : Bool) (a : Option Addr) (m c : Nat) (e : Int) : Prop where
  c0 : Cl w b 0 (.int .u8 f)
  c1 : Cl w b 1 (.bool n)
  c2 : Cl w b 2 (.slice a m c)
  c3 : Cl w b 3 (.int .i32 e)
theorem P4.fr {S : Nat → Nat → Prop} {w w' : World} {b : Nat} {f : Int} {n : Bool} {a : Option Addr} {m c : Nat} {e : Int} (h : P4 w b f n a m c e) (k : Fr S w w') (hs : ∀ o, ¬ S b o) : P4 w' b f n a m c e := ⟨h.c0.fr k (hs _), h.c1.fr k (hs _), h.c2.fr k (hs _), h.c3.fr k (hs _)⟩
theorem P4.new {w : World} (f : Int) (n : Bool) (a : Option Addr) (m c : Nat) (e : Int) (t : TypeId) : P4 (w.alloc (.cells #[.int .u8 f, .bool n, .slice a m c, .int .i32 e] t)) w.heap.size f n a m c e := by
  have hk := kind_alloc_new w #[.int .u8 f, .bool n, .slice a m c, .int .i32 e] t (0, 0)
  exact ⟨⟨by rw [World.cell?_alloc_new]; rfl, free_of_kind hk 0⟩, ⟨by rw [World.cell?_alloc_new]; rfl, free_of_kind hk 1⟩, ⟨by rw [World.cell?_alloc_new]; rfl, free_of_kind hk 2⟩, ⟨by rw [World.cell?_alloc_new]; rfl, free_of_kind hk 3⟩⟩
set_option maxRecDepth 100000 in
set_option maxHeartbeats 1000000 in
theorem compose1_any {w : World} {px pd pk nb cb : Nat} {a : Option Addr} {l : List UInt8} {n : Bool} {e : Int} (g : Gv w) (hx : P4 w px 0 n a nb cb e) (hd : D4 w pd 0 false 0 ⟨#[]⟩) (hk : Cl w pk 0 (.bool false)) (hB : RdB w a nb cb l) (hn : nb ≤ 100) (hdk : pd ≠ pk) :
    Calls Tryz.prog 42 #[.pointer (some ⟨px, 0, none⟩), .pointer (some ⟨pd, 0, none⟩), .pointer (some ⟨pk, 0, none⟩)] w fun e1 w' =>
      e1 = .returned (.tuple #[]) ∧ D4 w' pd 0 n e (mk (natText (beN l))) ∧ Cl w' pk 0 (.bool true) ∧ Fr (fun b _ => b = pd ∨ b = pk) w w' := by
  have hl := hB.len
  have hsm := sm_beN (l := l) (by omega)
  obtain ⟨w0, hw0⟩ : ∃ x, w.alloc (.cells #[.int .i8 0, .bool false, .int .i32 0, .bool false, .slice none 0 0] 71) = x := ⟨_, rfl⟩
  obtain ⟨z, hz⟩ : ∃ z, w.heap.size = z := ⟨_, rfl⟩
  have z0 := DA.new (w := w) g.g.size 71 0 false 0
  rw [hw0, hz] at z0
  have f0 : Fr (fun _ _ => False) w w0 := by rw [← hw0]; exact (Fr.refl _ w).alloc _
  have hs0 : w0.heap.size = z + 1 := by rw [← hw0, ← hz]; simp
  have hx0 := hx.fr f0 (fun _ q => q)
  have hpx : px < w.heap.size := hx.c0.lt
  have hpd : pd < w.heap.size := hd.c0.lt
  have hpk : pk < w.heap.size := hk.lt
  have hB0 := hB.fr f0
  have g0 := g.new f0
  have HC : Hid (∀ w1 a1 c1, Fr (fun _ _ => False) w0 w1 → Bf w1 a1 nb c1 l → Out w0 none 0 a1 c1 → Calls Tryz.prog 43 #[.pointer (some ⟨z, 0, none⟩), .int .u8 0, .bool n, .slice a1 nb c1, .int .i32 e] w1 fun e1 w2 => e1 = .returned .nilIface ∧ Fr (fun x _ => x = z) w0 w2 ∧ Aside (∃ a' c', DA w2 z 0 n e a' c' (beN l))) := Lib.hid (fun w1 a1 c1 f hb ho => by
    refine (compose_any n e (Nat.le_trans g0.g.size f.size) (z0.fr f (fun _ _ _ q => q)) hb (by omega) (fun x y q e => by
      rcases ho with ⟨rfl, rfl⟩ | ⟨b', o', rfl, h'⟩
      · exact foot_none _ _ _ q
      · rw [foot_some] at q; omega)).mono ?_
    rintro e1 w2 ⟨a', c', rfl, k1, k2, k3⟩
    exact ⟨rfl, f.trans' k2 (fun _ _ _ q => q.elim) (fun _ _ _ q => q), ⟨a', c', k1⟩⟩)
  have HP : Hid (∀ W, Fr (fun x _ => x = z) w0 W → (∃ a' c', DA W z 0 n e a' c' (beN l)) → ∀ wx, Fr (fun _ _ => False) W wx → Calls Tryz.prog 29 #[.pointer (some ⟨z, 0, none⟩)] wx fun e1 w5 => e1 = .returned (.agg #[.int .i64 0, .bool n, .int .i32 e, .string (mk (natText (beN l)))]) ∧ E8 w5 pd 0 false 0 ⟨#[]⟩ ∧ (w5.cell? ⟨pk, 0, none⟩ = some (.bool false) ∧ w5.frozen? ⟨pk, 0, none⟩ = false) ∧ Aside (Fr (fun _ _ => False) w w5)) := Lib.hid (fun W fW hW wx fx => by
    obtain ⟨a', c', hDA⟩ := hW
    have fw : Fr (fun _ _ => False) w W := f0.trans' fW (fun _ _ _ q => q) (fun x y hx q => by omega)
    have f5 := fw.trans fx
    refine (plain_any 0 (by omega) (g.new f5) (hDA.fr fx (fun _ _ _ q => q)) hsm).mono ?_
    rintro e1 w5 ⟨rfl, k8⟩
    have n5 := hk.fr (f5.trans k8) (fun q => q)
    exact ⟨rfl, E8.of (hd.fr (f5.trans k8) (fun _ q => q)), ⟨n5.cell, n5.free⟩, ⟨f5.trans k8⟩⟩)
  have HD := Aside.mk hd
  have HK := Aside.mk hk
  have HB0 := Aside.mk hB0
  have hG0 := g0.g.size
  have hpx0 : px < w0.heap.size := by omega
  have hpz : ¬ px = z := by omega
  have i0 := hx0.c0.cell
  have i1 := hx0.c1.cell
  have i2 := hx0.c2.cell
  have i3 := hx0.c3.cell
  clear hx hd hk hB g hsm z0 f0 hx0 hpx hpd hpk hB0 g0 hs0 hl
  go_enter Tryz.func42, Tryz.ntmps42
  go_upto_region 1 with fail
  try rw [hz]
  refine wp_QN (co1 (by kernel_rfl) (PP := fun W => ∃ a' c', DA W z 0 n e a' c' (beN l)) hG0 hpx0 hpz i0 i1 i2 i3 HB0 (by omega) HC _ _ _ _ _ _ _ _ _ _ _ _ _ _ _ _ _ _ ⟨?_⟩)
  intro v6 v7 v8 v9 v10 v11 v12 v13 v14 v15 v16 W hPP hF
  have HP2 := Lib.hid (HP.out W hF hPP)
  have hdk2 : ¬ pk = pd := fun q => hdk q.symm
  have hdk3 : ¬ pd = pk := hdk
  clear hPP hF HP HC i0 i1 i2 i3 hw0 hz
  try go_wp2_with fail
  go_region_with (go_at_call 29; go_must (refine (HP2.out _ (by repeat first | exact Fr.refl _ _ | refine Fr.drewN ?_ _ | refine Fr.drew ?_)).mono ?_; rintro e1 w5 ⟨rfl, ⟨c0, c1, c2, c3, c4, c5, c6, c7⟩, ⟨m0, m1⟩, q6⟩))
  all_goals
    clear HP2
    go_wp2_with fail
    go_end0
    have hc5 := HD.out.fr q6.out (fun _ q => q)
    have hk5 := HK.out.fr q6.out (fun q => q)
    refine ⟨rfl, ?_, ?_, ?_⟩
    · exact (hc5.put (f' := 0) (n' := n) (e' := e) (s' := mk (natText (beN l)))).fr ((Fr.refl (fun b _ => b = pk) _).setCell pk 0 _ (fun _ => rfl)) (fun _ q => hdk q)
    · exact ((((hk5.other pd 0 _ (.inl hdk)).other pd 1 _ (.inl hdk)).other pd 2 _ (.inl hdk)).other pd 3 _ (.inl hdk)).set _
    · have F5 := q6.out.mono (T := fun b _ => b = pd ∨ b = pk) (fun _ _ _ k => k.elim)
      repeat' (first | with_reducible exact F5 | refine Fr.setCell ?_ _ _ _ (fun q => by first | exact .inl rfl | exact .inr rfl))
theorem enter_compose1 (caps : Array Value) (w : World) : (callFunc 42 caps).run Tryz.prog w = .ok (.enter 42 caps) w := by kernel_rfl
end Go.Proofs.YtgilnnipephfjaaGreatDoor
namespace Go.Proofs.YtgilnnipephfjaaGreatDoor
open Go.RowKit

set_option maxRecDepth 100000 in
theorem compose_results {W : World} {p q : Nat} {f e : Int} {n k : Bool} {s : ByteArray} (hP : D4 W p f n e s) (hM : Cl W q 0 (.bool k)) (tmps : Array Value) (h4 : tmps.getD 2 undef = .pointer (some ⟨p, 0, none⟩)) (h5 : tmps.getD 3 undef = .pointer (some ⟨q, 0, none⟩)) :
    (results Tryz.f14 tmps).run Tryz.prog W = .ok (.tuple #[.agg #[.int .i64 f, .bool n, .int .i32 e, .string s], .bool k]) W := by
  obtain ⟨s0, s1, s2, s3, _⟩ := E8.of hP
  have m0 := hM.cell
  simp only [Array.getD_eq_getD_getElem?] at h4 h5
  simp [results, Tryz.results14, go_sem, s0, s1, s2, s3, m0, h4, h5]
set_option maxRecDepth 100000 in
set_option maxHeartbeats 1000000 in
theorem composeI_any {w : World} {nb cb : Nat} {a : Option Addr} {l : List UInt8} {n : Bool} {e : Int} (g : Gv w) (hB : RdB w a nb cb l) (hn : nb ≤ 100) :
    Calls Tryz.prog 14 #[.agg #[.int .u8 0, .bool n, .slice a nb cb, .int .i32 e]] w fun e1 w' => e1 = .returned (.tuple #[.agg #[.int .i64 0, .bool n, .int .i32 e, .string (mk (natText (beN l)))], .bool true]) ∧ Fr (fun _ _ => False) w w' := by
  have hG := g.g.size
  have hm := hmf
  obtain ⟨sz, hsz⟩ : ∃ x, w.heap.size = x := ⟨_, rfl⟩
  obtain ⟨w1, hw1⟩ : ∃ z, ((w.alloc (.cells #[.int .u8 0, .bool n, .slice a nb cb, .int .i32 e] 40)).alloc (.cells #[.int .i64 0, .bool false, .int .i32 0, .string ⟨#[]⟩] 24)).alloc (.cells #[.bool false] 4) = z := ⟨_, rfl⟩
  have F1 : Fr (fun _ _ => False) w w1 := by rw [← hw1]; exact ((((Fr.refl _ w).alloc _).alloc _).alloc _)
  have hs1 : w1.heap.size = sz + 3 := by rw [← hw1, ← hsz]; simp
  have cx : P4 w1 sz 0 n a nb cb e := by
    rw [← hw1, ← hsz]; exact (P4.new (w := w) 0 n a nb cb e 40).fr (((Fr.refl (fun _ _ => False) _).alloc _).alloc _) (fun _ q => q)
  have cs : D4 w1 (sz + 1) 0 false 0 ⟨#[]⟩ := by
    have := (D4.new (w := w.alloc (.cells #[.int .u8 0, .bool n, .slice a nb cb, .int .i32 e] 40)) 0 0 false ⟨#[]⟩ 24).fr ((Fr.refl (fun _ _ => False) _).alloc (.cells #[.bool false] 4)) (fun _ q => q)
    rw [hw1, World.size_alloc, hsz] at this; exact this
  have cm : Cl w1 (sz + 2) 0 (.bool false) := by
    have := Cl.new (w := (w.alloc (.cells #[.int .u8 0, .bool n, .slice a nb cb, .int .i32 e] 40)).alloc (.cells #[.int .i64 0, .bool false, .int .i32 0, .string ⟨#[]⟩] 24)) (by simp; omega) (.bool false) 4
    rw [hw1, World.size_alloc, World.size_alloc, hsz] at this; exact this
  have a1 := (Fr.refl (fun _ _ => False) w1).alloc (.cells #[.bool false] 4)
  obtain ⟨T, hT⟩ : ∃ T, mk (natText (beN l)) = T := ⟨_, rfl⟩
  have hS : Hid (Calls Tryz.prog 23 #[.func (.func 42) #[] #[.pointer (some ⟨sz, 0, none⟩), .pointer (some ⟨sz + 1, 0, none⟩), .pointer (some ⟨sz + 2, 0, none⟩)]] w1 fun e1 w' =>
      e1 = .returned (.bool true) ∧ Aside (D4 w' (sz + 1) 0 n e T ∧ Cl w' (sz + 2) 0 (.bool true) ∧ Fr (fun _ _ => False) w w')) := Lib.hid (by
    have hp := compose1_any (g.new (F1.trans a1)) (cx.fr a1 (fun _ q => q)) (cs.fr a1 (fun _ q => q)) (cm.fr a1 (fun q => q)) (hB.fr (F1.trans a1)) hn (by omega)
    rw [hT] at hp
    refine (safe_any (P := fun w' => D4 w' (sz + 1) 0 n e T ∧ Cl w' (sz + 2) 0 (.bool true) ∧ Fr (fun _ _ => False) w w') 42 _ w1 (enter_compose1 _) (hp.mono ?_)).mono ?_
    · rintro e w' ⟨rfl, k1, k2, k3⟩
      have hnew := Cl.new (w := w1) (by rw [hs1]; omega) (.bool false) 4
      have h4 := hnew.fr k3 (by rw [hs1]; omega)
      exact ⟨rfl, h4.cell, h4.free, k1, k2, (F1.trans a1).trans' k3 (fun _ _ _ k => k) (fun x y hx k => by rw [hsz] at hx; omega)⟩
    · rintro e w' ⟨rfl, w2, ⟨k1, k2, k3⟩, rfl⟩
      have f2 := ((Fr.refl (fun x _ => x = w1.heap.size) w2).setCell w1.heap.size 0 (.bool true) (fun _ => rfl)).setCell w1.heap.size 0 (.bool true) (fun _ => rfl)
      exact ⟨rfl, ⟨k1.fr f2 (fun _ => by rw [hs1]; omega), k2.fr f2 (by rw [hs1]; omega), k3.trans' f2 (fun _ _ _ k => k) (fun x y hx k => by rw [hsz] at hx; rw [hs1] at k; omega)⟩⟩)
  rw [hT]
  clear g hB hn F1 a1 cx cs cm hs1 hT
  go_enter Tryz.func14, Tryz.ntmps14
  go_wp2_with fail
  try rw [show sz + 1 + 1 = sz + 2 from rfl]
  have HSZ := Aside.mk hsz
  clear hw1 hsz hG
  refine hS.out.mono ?_
  rintro e1 w2 ⟨rfl, hA⟩
  obtain ⟨s0, s1, s2, s3, s4, s5, s6, s7⟩ := E8.of hA.out.1
  have m0 := hA.out.2.1.cell
  have m1 := hA.out.2.1.free
  clear hS
  go_wp2_with fail
  clear s0 s1 s2 s3 s4 s5 s6 s7 m0 m1
  have P := ((hA.out.1.put (f' := 0) (n' := n) (e' := e) (s' := T)).fr ((Fr.refl (fun b _ => b = sz + 2) _).setCell (sz + 2) 0 (.bool true) (fun _ => rfl)) (fun _ q => by omega))
  have M := ((((hA.out.2.1.other (sz + 1) 0 (.int .i64 0) (by omega)).other (sz + 1) 1 (.bool n) (by omega)).other (sz + 1) 2 (.int .i32 e) (by omega)).other (sz + 1) 3 (.string T) (by omega)).set (.bool true)
  have hfr := hA.out.2.2
  have R : Fr (fun _ _ => False) w _ := (((((hfr.setCell (sz + 1) 0 (.int .i64 0) (fun q => by rw [HSZ.out] at q; omega)).setCell (sz + 1) 1 (.bool n) (fun q => by rw [HSZ.out] at q; omega)).setCell (sz + 1) 2 (.int .i32 e) (fun q => by rw [HSZ.out] at q; omega)).setCell (sz + 1) 3 (.string T) (fun q => by rw [HSZ.out] at q; omega)).setCell (sz + 2) 0 (.bool true) (fun q => by rw [HSZ.out] at q; omega))
  with_reducible refine bodyPost_ret (compose_results P M _ ?_ ?_) ?_ ⟨rfl, R⟩
  all_goals rfl
end Go.Proofs.YtgilnnipephfjaaGreatDoor
