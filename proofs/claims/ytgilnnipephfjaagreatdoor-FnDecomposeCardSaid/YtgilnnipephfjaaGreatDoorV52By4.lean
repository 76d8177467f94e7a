/- impl.Compose of any parts. impl.Decompose. -/
import Derived.Test.YtgilnnipephfjaaGreatDoorV50Co3
import Derived.Test.YtgilnnipephfjaaGreatDoorV51By3
set_option linter.unusedSimpArgs false
set_option linter.unusedVariables false
namespace Go.Proofs.YtgilnnipephfjaaGreatDoor
open Go.RowKit

set_option maxRecDepth 100000 in
set_option maxHeartbeats 1000000 in
theorem compose1_gen {w : World} {px pd pk nb cb : Nat} {a : Option Addr} {l : List UInt8} {n : Bool} {f e e2 : Int} {F X2 : Nat} (hF : F ≤ 3) (hsm : Sm X2) (HCC : Hid (∀ (w0 : World) (z : Nat) (a1 : Option Addr) (c1 : Nat), NG ≤ w0.heap.size → DA w0 z 0 false 0 none 0 0 → Bf w0 a1 nb c1 l → (∀ x y, foot a1 c1 x y → x ≠ z) → Calls Tryz.prog 43 #[.pointer (some ⟨z, 0, none⟩), .int .u8 f, .bool n, .slice a1 nb c1, .int .i32 e] w0 fun e1 w2 => e1 = .returned .nilIface ∧ (∃ a' c', DA w2 z F n e2 a' c' X2) ∧ Fr (fun x _ => x = z) w0 w2)) (g : Gv w) (hx : P4 w px f n a nb cb e) (hd : D4 w pd 0 false 0 ⟨#[]⟩) (hk : Cl w pk 0 (.bool false)) (hB : RdB w a nb cb l) (hn : nb ≤ 100000) (hdk : pd ≠ pk) :
    Calls Tryz.prog 42 #[.pointer (some ⟨px, 0, none⟩), .pointer (some ⟨pd, 0, none⟩), .pointer (some ⟨pk, 0, none⟩)] w fun e1 w' =>
      e1 = .returned (.tuple #[]) ∧ D4 w' pd F n e2 (mk (natText X2)) ∧ Cl w' pk 0 (.bool true) ∧ Fr (fun b _ => b = pd ∨ b = pk) w w' := by
  have hl := hB.len
  obtain ⟨w0, hw0⟩ : ∃ x, w.alloc (.cells #[.int .i8 0, .bool false, .int .i32 0, .bool false, .slice none 0 0] 71) = x := ⟨_, rfl⟩
  obtain ⟨z, hz⟩ : ∃ z, w.heap.size = z := ⟨_, rfl⟩
  have z0 := DA.new (w := w) g.g.size 71 0 false 0
  rw [hw0, hz] at z0
  have f0 : Fr (fun _ _ => False) w w0 := by rw [← hw0]; exact (Fr.refl _ w).alloc _
  have hs0 : w0.heap.size = z + 1 := by rw [← hw0, ← hz]; simp
  have hx0 := hx.fr f0 (fun _ q => q)
  have hpx : px < w.heap.size := hx.c0.lt
  have hpd : pd < w.heap.size := hd.c0.lt
  have hpk : pk < w.heap.size := hk.lt
  have hB0 := hB.fr f0
  have g0 := g.new f0
  have HC : Hid (∀ w1 a1 c1, Fr (fun _ _ => False) w0 w1 → Bf w1 a1 nb c1 l → Out w0 none 0 a1 c1 → Calls Tryz.prog 43 #[.pointer (some ⟨z, 0, none⟩), .int .u8 f, .bool n, .slice a1 nb c1, .int .i32 e] w1 fun e1 w2 => e1 = .returned .nilIface ∧ Fr (fun x _ => x = z) w0 w2 ∧ Aside (∃ a' c', DA w2 z F n e2 a' c' X2)) := Lib.hid (fun w1 a1 c1 fr hb ho => by
    refine (HCC.out w1 z a1 c1 (Nat.le_trans g0.g.size fr.size) (z0.fr fr (fun _ _ _ q => q)) hb (fun x y q e => by
      rcases ho with ⟨rfl, rfl⟩ | ⟨b', o', rfl, h'⟩
      · exact foot_none _ _ _ q
      · rw [foot_some] at q; omega)).mono ?_
    rintro e1 w2 ⟨rfl, k1, k2⟩
    exact ⟨rfl, fr.trans' k2 (fun _ _ _ q => q.elim) (fun _ _ _ q => q), ⟨k1⟩⟩)
  have HP : Hid (∀ W, Fr (fun x _ => x = z) w0 W → (∃ a' c', DA W z F n e2 a' c' X2) → ∀ wx, Fr (fun _ _ => False) W wx → Calls Tryz.prog 29 #[.pointer (some ⟨z, 0, none⟩)] wx fun e1 w5 => e1 = .returned (.agg #[.int .i64 F, .bool n, .int .i32 e2, .string (mk (natText X2))]) ∧ E8 w5 pd 0 false 0 ⟨#[]⟩ ∧ (w5.cell? ⟨pk, 0, none⟩ = some (.bool false) ∧ w5.frozen? ⟨pk, 0, none⟩ = false) ∧ Aside (Fr (fun _ _ => False) w w5)) := Lib.hid (fun W fW hW wx fx => by
    obtain ⟨a', c', hDA⟩ := hW
    have fw : Fr (fun _ _ => False) w W := f0.trans' fW (fun _ _ _ q => q) (fun x y hx q => by omega)
    have f5 := fw.trans fx
    refine (plain_any F hF (g.new f5) (hDA.fr fx (fun _ _ _ q => q)) hsm).mono ?_
    rintro e1 w5 ⟨rfl, k8⟩
    have n5 := hk.fr (f5.trans k8) (fun q => q)
    exact ⟨rfl, E8.of (hd.fr (f5.trans k8) (fun _ q => q)), ⟨n5.cell, n5.free⟩, ⟨f5.trans k8⟩⟩)
  have HD := Aside.mk hd
  have HK := Aside.mk hk
  have HB0 := Aside.mk hB0
  have hG0 := g0.g.size
  have hpx0 : px < w0.heap.size := by omega
  have hpz : ¬ px = z := by omega
  have i0 := hx0.c0.cell
  have i1 := hx0.c1.cell
  have i2 := hx0.c2.cell
  have i3 := hx0.c3.cell
  clear hx hd hk hB g hsm hF HCC z0 f0 hx0 hpx hpd hpk hB0 g0 hs0 hl
  go_enter Tryz.func42, Tryz.ntmps42
  go_upto_region 1 with fail
  try rw [hz]
  refine wp_QN (co1 (by kernel_rfl) (PP := fun W => ∃ a' c', DA W z F n e2 a' c' X2) hG0 hpx0 hpz i0 i1 i2 i3 HB0 (by omega) HC _ _ _ _ _ _ _ _ _ _ _ _ _ _ _ _ _ _ ⟨?_⟩)
  intro v6 v7 v8 v9 v10 v11 v12 v13 v14 v15 v16 W hPP hF
  have HP2 := Lib.hid (HP.out W hF hPP)
  have hdk2 : ¬ pk = pd := fun q => hdk q.symm
  have hdk3 : ¬ pd = pk := hdk
  clear hPP hF HP HC i0 i1 i2 i3 hw0 hz
  try go_wp2_with fail
  go_region_with (go_at_call 29; go_must (refine (HP2.out _ (by repeat first | exact Fr.refl _ _ | refine Fr.drewN ?_ _ | refine Fr.drew ?_)).mono ?_; rintro e1 w5 ⟨rfl, ⟨c0, c1, c2, c3, c4, c5, c6, c7⟩, ⟨m0, m1⟩, q6⟩))
  all_goals
    clear HP2
    go_wp2_with fail
    go_end0
    have hc5 := HD.out.fr q6.out (fun _ q => q)
    have hk5 := HK.out.fr q6.out (fun q => q)
    refine ⟨rfl, ?_, ?_, ?_⟩
    · exact (hc5.put (f' := F) (n' := n) (e' := e2) (s' := mk (natText X2))).fr ((Fr.refl (fun b _ => b = pk) _).setCell pk 0 _ (fun _ => rfl)) (fun _ q => hdk q)
    · exact ((((hk5.other pd 0 _ (.inl hdk)).other pd 1 _ (.inl hdk)).other pd 2 _ (.inl hdk)).other pd 3 _ (.inl hdk)).set _
    · have F5 := q6.out.mono (T := fun b _ => b = pd ∨ b = pk) (fun _ _ _ k => k.elim)
      repeat' (first | with_reducible exact F5 | refine Fr.setCell ?_ _ _ _ (fun q => by first | exact .inl rfl | exact .inr rfl))
set_option maxRecDepth 100000 in
set_option maxHeartbeats 1000000 in
theorem composeI_gen {w : World} {nb cb : Nat} {a : Option Addr} {l : List UInt8} {n : Bool} {f e e2 : Int} {F X2 : Nat} (hF : F ≤ 3) (hsm : Sm X2) (HCC : Hid (∀ (w0 : World) (z : Nat) (a1 : Option Addr) (c1 : Nat), NG ≤ w0.heap.size → DA w0 z 0 false 0 none 0 0 → Bf w0 a1 nb c1 l → (∀ x y, foot a1 c1 x y → x ≠ z) → Calls Tryz.prog 43 #[.pointer (some ⟨z, 0, none⟩), .int .u8 f, .bool n, .slice a1 nb c1, .int .i32 e] w0 fun e1 w2 => e1 = .returned .nilIface ∧ (∃ a' c', DA w2 z F n e2 a' c' X2) ∧ Fr (fun x _ => x = z) w0 w2)) (g : Gv w) (hB : RdB w a nb cb l) (hn : nb ≤ 100000) :
    Calls Tryz.prog 14 #[.agg #[.int .u8 f, .bool n, .slice a nb cb, .int .i32 e]] w fun e1 w' => e1 = .returned (.tuple #[.agg #[.int .i64 F, .bool n, .int .i32 e2, .string (mk (natText X2))], .bool true]) ∧ Fr (fun _ _ => False) w w' := by
  have hG := g.g.size
  have hm := hmf
  obtain ⟨sz, hsz⟩ : ∃ x, w.heap.size = x := ⟨_, rfl⟩
  obtain ⟨w1, hw1⟩ : ∃ z, ((w.alloc (.cells #[.int .u8 f, .bool n, .slice a nb cb, .int .i32 e] 40)).alloc (.cells #[.int .i64 0, .bool false, .int .i32 0, .string ⟨#[]⟩] 24)).alloc (.cells #[.bool false] 4) = z := ⟨_, rfl⟩
  have F1 : Fr (fun _ _ => False) w w1 := by rw [← hw1]; exact ((((Fr.refl _ w).alloc _).alloc _).alloc _)
  have hs1 : w1.heap.size = sz + 3 := by rw [← hw1, ← hsz]; simp
  have cx : P4 w1 sz f n a nb cb e := by
    rw [← hw1, ← hsz]; exact (P4.new (w := w) f n a nb cb e 40).fr (((Fr.refl (fun _ _ => False) _).alloc _).alloc _) (fun _ q => q)
  have cs : D4 w1 (sz + 1) 0 false 0 ⟨#[]⟩ := by
    have := (D4.new (w := w.alloc (.cells #[.int .u8 f, .bool n, .slice a nb cb, .int .i32 e] 40)) 0 0 false ⟨#[]⟩ 24).fr ((Fr.refl (fun _ _ => False) _).alloc (.cells #[.bool false] 4)) (fun _ q => q)
    rw [hw1, World.size_alloc, hsz] at this; exact this
  have cm : Cl w1 (sz + 2) 0 (.bool false) := by
    have := Cl.new (w := (w.alloc (.cells #[.int .u8 f, .bool n, .slice a nb cb, .int .i32 e] 40)).alloc (.cells #[.int .i64 0, .bool false, .int .i32 0, .string ⟨#[]⟩] 24)) (by simp; omega) (.bool false) 4
    rw [hw1, World.size_alloc, World.size_alloc, hsz] at this; exact this
  have a1 := (Fr.refl (fun _ _ => False) w1).alloc (.cells #[.bool false] 4)
  obtain ⟨T, hT⟩ : ∃ T, mk (natText X2) = T := ⟨_, rfl⟩
  have hS : Hid (Calls Tryz.prog 23 #[.func (.func 42) #[] #[.pointer (some ⟨sz, 0, none⟩), .pointer (some ⟨sz + 1, 0, none⟩), .pointer (some ⟨sz + 2, 0, none⟩)]] w1 fun e1 w' =>
      e1 = .returned (.bool true) ∧ Aside (D4 w' (sz + 1) F n e2 T ∧ Cl w' (sz + 2) 0 (.bool true) ∧ Fr (fun _ _ => False) w w')) := Lib.hid (by
    have hp := compose1_gen hF hsm HCC (g.new (F1.trans a1)) (cx.fr a1 (fun _ q => q)) (cs.fr a1 (fun _ q => q)) (cm.fr a1 (fun q => q)) (hB.fr (F1.trans a1)) hn (by omega)
    rw [hT] at hp
    refine (safe_any (P := fun w' => D4 w' (sz + 1) F n e2 T ∧ Cl w' (sz + 2) 0 (.bool true) ∧ Fr (fun _ _ => False) w w') 42 _ w1 (enter_compose1 _) (hp.mono ?_)).mono ?_
    · rintro e w' ⟨rfl, k1, k2, k3⟩
      have hnew := Cl.new (w := w1) (by rw [hs1]; omega) (.bool false) 4
      have h4 := hnew.fr k3 (by rw [hs1]; omega)
      exact ⟨rfl, h4.cell, h4.free, k1, k2, (F1.trans a1).trans' k3 (fun _ _ _ k => k) (fun x y hx k => by rw [hsz] at hx; omega)⟩
    · rintro e w' ⟨rfl, w2, ⟨k1, k2, k3⟩, rfl⟩
      have f2 := ((Fr.refl (fun x _ => x = w1.heap.size) w2).setCell w1.heap.size 0 (.bool true) (fun _ => rfl)).setCell w1.heap.size 0 (.bool true) (fun _ => rfl)
      exact ⟨rfl, ⟨k1.fr f2 (fun _ => by rw [hs1]; omega), k2.fr f2 (by rw [hs1]; omega), k3.trans' f2 (fun _ _ _ k => k) (fun x y hx k => by rw [hsz] at hx; rw [hs1] at k; omega)⟩⟩)
  rw [hT]
  clear g hB hn HCC hF hsm F1 a1 cx cs cm hs1 hT
  go_enter Tryz.func14, Tryz.ntmps14
  go_wp2_with fail
  try rw [show sz + 1 + 1 = sz + 2 from rfl]
  have HSZ := Aside.mk hsz
  clear hw1 hsz hG
  refine hS.out.mono ?_
  rintro e1 w2 ⟨rfl, hA⟩
  obtain ⟨s0, s1, s2, s3, s4, s5, s6, s7⟩ := E8.of hA.out.1
  have m0 := hA.out.2.1.cell
  have m1 := hA.out.2.1.free
  clear hS
  go_wp2_with fail
  clear s0 s1 s2 s3 s4 s5 s6 s7 m0 m1
  have P := ((hA.out.1.put (f' := F) (n' := n) (e' := e2) (s' := T)).fr ((Fr.refl (fun b _ => b = sz + 2) _).setCell (sz + 2) 0 (.bool true) (fun _ => rfl)) (fun _ q => by omega))
  have M := ((((hA.out.2.1.other (sz + 1) 0 (.int .i64 F) (by omega)).other (sz + 1) 1 (.bool n) (by omega)).other (sz + 1) 2 (.int .i32 e2) (by omega)).other (sz + 1) 3 (.string T) (by omega)).set (.bool true)
  have hfr := hA.out.2.2
  have R : Fr (fun _ _ => False) w _ := (((((hfr.setCell (sz + 1) 0 (.int .i64 F) (fun q => by rw [HSZ.out] at q; omega)).setCell (sz + 1) 1 (.bool n) (fun q => by rw [HSZ.out] at q; omega)).setCell (sz + 1) 2 (.int .i32 e2) (fun q => by rw [HSZ.out] at q; omega)).setCell (sz + 1) 3 (.string T) (fun q => by rw [HSZ.out] at q; omega)).setCell (sz + 2) 0 (.bool true) (fun q => by rw [HSZ.out] at q; omega))
  with_reducible refine bodyPost_ret (compose_results P M _ ?_ ?_) ?_ ⟨rfl, R⟩
  all_goals rfl
/-- Of a finite decimal; of infinity; of a NaN. -/
theorem composeI_fin {w : World} {nb cb : Nat} {a : Option Addr} {l : List UInt8} {n : Bool} {e : Int} (hsm : Sm (beN l)) (g : Gv w) (hB : RdB w a nb cb l) (hn : nb ≤ 100000) :
    Calls Tryz.prog 14 #[.agg #[.int .u8 0, .bool n, .slice a nb cb, .int .i32 e]] w fun e1 w' => e1 = .returned (.tuple #[.agg #[.int .i64 0, .bool n, .int .i32 e, .string (mk (natText (beN l)))], .bool true]) ∧ Fr (fun _ _ => False) w w' :=
  composeI_gen (F := 0) (X2 := beN l) (by omega) hsm (Lib.hid (fun w0 z a1 c1 hG h hb hz => (compose_any n e hG h hb hn hz).mono (by
    rintro e1 w2 ⟨a', c', rfl, k1, k2, k3⟩
    exact ⟨rfl, ⟨a', c', k1⟩, k2⟩))) g hB hn
theorem composeI_inf {w : World} {n : Bool} {a : Option Addr} {c : Nat} (g : Gv w) :
    Calls Tryz.prog 14 #[.agg #[.int .u8 1, .bool n, .slice a 0 c, .int .i32 0]] w fun e1 w' => e1 = .returned (.tuple #[.agg #[.int .i64 1, .bool n, .int .i32 0, .string (mk (natText 0))], .bool true]) ∧ Fr (fun _ _ => False) w w' :=
  composeI_gen (F := 1) (X2 := 0) (l := []) (by omega) (sm_pow (n := 1) (by decide) (by decide)) (Lib.hid (fun w0 z a1 c1 hG h hb hz => (dCom_inf n 0 h).mono (by
    rintro e1 w2 ⟨rfl, k1, k2⟩
    exact ⟨rfl, ⟨_, _, k1⟩, k2⟩))) g ⟨rfl, Nat.zero_le _, .inl rfl⟩ (by omega)
theorem composeI_nan {w : World} {n : Bool} {a : Option Addr} {c : Nat} (g : Gv w) :
    Calls Tryz.prog 14 #[.agg #[.int .u8 2, .bool n, .slice a 0 c, .int .i32 0]] w fun e1 w' => e1 = .returned (.tuple #[.agg #[.int .i64 3, .bool n, .int .i32 0, .string (mk (natText 0))], .bool true]) ∧ Fr (fun _ _ => False) w w' :=
  composeI_gen (F := 3) (X2 := 0) (l := []) (by omega) (sm_pow (n := 1) (by decide) (by decide)) (Lib.hid (fun w0 z a1 c1 hG h hb hz => (dCom_nan n 0 h).mono (by
    rintro e1 w2 ⟨rfl, k1, k2⟩
    exact ⟨rfl, ⟨_, _, k1⟩, k2⟩))) g ⟨rfl, Nat.zero_le _, .inl rfl⟩ (by omega)
end Go.Proofs.YtgilnnipephfjaaGreatDoor
namespace Go.Proofs.YtgilnnipephfjaaGreatDoor
open Go.RowKit

theorem P4.put {w : World} {b : Nat} {f e f' e' : Int} {n n' : Bool} {a a' : Option Addr} {m c m' c' : Nat} (h : P4 w b f n a m c e) :
    P4 ((((w.setCell ⟨b, 0, none⟩ (.int .u8 f')).setCell ⟨b, 1, none⟩ (.bool n')).setCell ⟨b, 2, none⟩ (.slice a' m' c')).setCell ⟨b, 3, none⟩ (.int .i32 e')) b f' n' a' m' c' e' :=
  ⟨(((h.c0.set _).other b 1 _ (by omega)).other b 2 _ (by omega)).other b 3 _ (by omega), (((h.c1.other b 0 _ (by omega)).set _).other b 2 _ (by omega)).other b 3 _ (by omega),
   (((h.c2.other b 0 _ (by omega)).other b 1 _ (by omega)).set _).other b 3 _ (by omega), (((h.c3.other b 0 _ (by omega)).other b 1 _ (by omega)).other b 2 _ (by omega)).set _⟩
theorem Bf.rd {w : World} {a : Option Addr} {n c : Nat} {l : List UInt8} (h : Bf w a n c l) : RdB w a n c l := by
  refine ⟨h.len, h.le, ?_⟩
  have hle := h.le
  rcases h.reg with ⟨rfl, rfl⟩ | ⟨b, o, rfl, ho, hb⟩
  · exact .inl (by omega)
  · exact .inr ⟨b, o, rfl, ho.kind.lt, hb⟩
theorem Fr.put4 {S : Nat → Nat → Prop} {w w3 : World} {px : Nat} (h : Fr S w w3) (v0 v1 v2 v3 : Value) (hs : ∀ o, px < w.heap.size → S px o) : Fr S w ((((w3.setCell ⟨px, 0, none⟩ v0).setCell ⟨px, 1, none⟩ v1).setCell ⟨px, 2, none⟩ v2).setCell ⟨px, 3, none⟩ v3) :=
  (((h.setCell px 0 v0 (hs 0)).setCell px 1 v1 (hs 1)).setCell px 2 v2 (hs 2)).setCell px 3 v3 (hs 3)
set_option maxRecDepth 100000 in
set_option maxHeartbeats 400000 in
/-- Decompose's closure: what the package's Decompose answers (fo, n, bytes l, e2) goes into the box. -/
theorem decompose1_gen {w : World} {pd px : Nat} {f : Nat} {fo e e2 : Int} {n : Bool} {s : ByteArray} {PL : List UInt8 → Prop} (hPL : ∀ l, PL l → l.length ≤ 100000) (g : Gv w) (hd : D4 w pd f n e s) (hx : P4 w px 0 false none 0 0 0) (hdx : pd ≠ px)
    (HD : Hid (∀ w0, Fr (fun _ _ => False) w w0 → Calls Tryz.prog 31 #[.agg #[.int .i64 f, .bool n, .int .i32 e, .string s]] w0 fun e1 w1 => ∃ z, e1 = .returned (.pointer (some ⟨z, 0, none⟩)) ∧ Fr (fun _ _ => False) w0 w1 ∧
      Aside (∀ w2, Fr (fun _ _ => False) w1 w2 → Calls Tryz.prog 41 #[.pointer (some ⟨z, 0, none⟩), .slice none 0 0] w2 fun r w' => ∃ a' m l, r = .returned (.tuple #[.int .u8 fo, .bool n, .slice a' m m, .int .i32 e2]) ∧ RdB w' a' m m l ∧ PL l ∧ Fr (fun _ _ => False) w2 w'))) :
    Calls Tryz.prog 40 #[.pointer (some ⟨pd, 0, none⟩), .pointer (some ⟨px, 0, none⟩)] w fun e1 w' => ∃ a c l,
      e1 = .returned (.tuple #[]) ∧ P4 w' px fo n a l.length c e2 ∧ Bf w' a l.length c l ∧ PL l ∧ (∀ x y, foot a c x y → w.heap.size ≤ x) ∧ Fr (fun b _ => b = px) w w' := by
  have HX := Aside.mk hx
  have hG := g.g.size
  have d0 := hd.c0.cell
  have d1 := hd.c1.cell
  have d2 := hd.c2.cell
  have d3 := hd.c3.cell
  have hpx := hx.c0.lt
  clear hd hx
  go_enter Tryz.func40, Tryz.ntmps40
  go_wp2_with fail
  refine (HD.out _ (Fr.refl _ _)).mono ?_
  rintro e1 w1 ⟨z, rfl, f1, HD2⟩
  clear HD
  have HF1 := Aside.mk f1
  clear f1
  go_wp2_with fail
  refine (HD2.out _ (Fr.refl _ _)).mono ?_
  rintro e1 w2 ⟨a1, m, l, rfl, hB, hPl, f2⟩
  clear HD2
  have HF2 := HF1.out.trans f2
  obtain ⟨a3, c3, w3, hr, k1, k2, k3⟩ := run_appendB (Nat.le_trans hG HF2.size) (Bf.nil w2) (Src.rd hB) hB.len (by have := hB.len; have := hPL l hPl; omega) (ty := 38)
  have hlm := hB.len
  rw [Nat.zero_add] at hr k1
  rw [List.nil_append] at k1
  have f3 : Fr (fun _ _ => False) w w3 := HF2.trans (k2.mono (fun _ _ _ q => absurd q (foot_none _ _ _)))
  obtain ⟨x0, x1, x2, x3⟩ := HX.out.fr f3 (fun _ q => q)
  obtain ⟨x0, y0⟩ := x0
  obtain ⟨x1, y1⟩ := x1
  obtain ⟨x2, y2⟩ := x2
  obtain ⟨x3, y3⟩ := x3
  have HPl := Aside.mk hPl
  have K := Aside.mk (And.intro k1 (And.intro f3 (And.intro hlm (And.intro (HX.out.fr f3 (fun _ q => q)) (k3.older HF2.size)))))
  clear f2 hB HF1 HF2 k1 k2 k3 f3 hlm hPl hPL HX d0 d1 d2 d3
  go_wp2_with (at_builtin; refine Lib.wpList_append_run _ rfl _ _ _ _ rfl _ _ rfl rfl _ _ hr ?_)
  all_goals
    go_end0
    obtain ⟨q1, q2, q3, q4, q5⟩ := K.out
    have hfo : ∀ x y, foot a3 c3 x y → w.heap.size ≤ x := fun x y q => by
      rcases q5 with ⟨rfl, rfl⟩ | ⟨b', o', rfl, h'⟩
      · exact absurd q (foot_none _ _ _)
      · rw [foot_some] at q; omega
    refine ⟨a3, c3, l, rfl, ?_, ?_, HPl.out, hfo, ?_⟩
    · rw [q3]; exact q4.put
    · rw [q3]
      exact (q1.fr ((Fr.refl (fun b _ => b = px) w3).put4 _ _ _ _ (fun _ _ => rfl)) (fun x y q e => by have := hfo x y q; omega))
    · exact (q2.mono (fun _ _ _ q => q.elim)).put4 _ _ _ _ (fun _ _ => rfl)
theorem enter_decompose1 (caps : Array Value) (w : World) : (callFunc 40 caps).run Tryz.prog w = .ok (.enter 40 caps) w := by kernel_rfl
set_option maxRecDepth 100000 in
theorem decompose_results {W : World} {q : Nat} {f e : Int} {n : Bool} {a : Option Addr} {m c : Nat} (hP : P4 W q f n a m c e) (tmps : Array Value) (h : tmps.getD 2 undef = .pointer (some ⟨q, 0, none⟩)) :
    (results Tryz.f13 tmps).run Tryz.prog W = .ok (.agg #[.int .u8 f, .bool n, .slice a m c, .int .i32 e]) W := by
  have s0 := hP.c0.cell
  have s1 := hP.c1.cell
  have s2 := hP.c2.cell
  have s3 := hP.c3.cell
  simp only [Array.getD_eq_getD_getElem?] at h
  simp [results, Tryz.results13, go_sem, s0, s1, s2, s3, h]
set_option maxRecDepth 100000 in
set_option maxHeartbeats 1000000 in
theorem decomposeI_gen {w : World} {f : Nat} {fo e e2 : Int} {n : Bool} {s : ByteArray} {PL : List UInt8 → Prop} (hPL : ∀ l, PL l → l.length ≤ 100000) (g : Gv w)
    (HD : Hid (∀ w0, Fr (fun _ _ => False) w w0 → Calls Tryz.prog 31 #[.agg #[.int .i64 f, .bool n, .int .i32 e, .string s]] w0 fun e1 w1 => ∃ z, e1 = .returned (.pointer (some ⟨z, 0, none⟩)) ∧ Fr (fun _ _ => False) w0 w1 ∧
      Aside (∀ w2, Fr (fun _ _ => False) w1 w2 → Calls Tryz.prog 41 #[.pointer (some ⟨z, 0, none⟩), .slice none 0 0] w2 fun r w' => ∃ a' m l, r = .returned (.tuple #[.int .u8 fo, .bool n, .slice a' m m, .int .i32 e2]) ∧ RdB w' a' m m l ∧ PL l ∧ Fr (fun _ _ => False) w2 w'))) :
    Calls Tryz.prog 13 #[.agg #[.int .i64 f, .bool n, .int .i32 e, .string s]] w fun e1 w' => ∃ a c l,
      e1 = .returned (.agg #[.int .u8 fo, .bool n, .slice a l.length c, .int .i32 e2]) ∧ RdB w' a l.length c l ∧ PL l ∧ Fr (fun _ _ => False) w w' := by
  have hG := g.g.size
  have hm := hmf
  obtain ⟨sz, hsz⟩ : ∃ x, w.heap.size = x := ⟨_, rfl⟩
  obtain ⟨w1, hw1⟩ : ∃ z, (w.alloc (.cells #[.int .i64 f, .bool n, .int .i32 e, .string s] 24)).alloc (.cells #[.int .u8 0, .bool false, .slice none 0 0, .int .i32 0] 40) = z := ⟨_, rfl⟩
  have F1 : Fr (fun _ _ => False) w w1 := by rw [← hw1]; exact ((Fr.refl _ w).alloc _).alloc _
  have hs1 : w1.heap.size = sz + 2 := by rw [← hw1, ← hsz]; simp
  have cd : D4 w1 sz f n e s := by
    rw [← hw1, ← hsz]; exact (D4.new (w := w) f e n s 24).fr ((Fr.refl (fun _ _ => False) _).alloc _) (fun _ q => q)
  have cx : P4 w1 (sz + 1) 0 false none 0 0 0 := by
    have := P4.new (w := w.alloc (.cells #[.int .i64 f, .bool n, .int .i32 e, .string s] 24)) 0 false none 0 0 0 40
    rw [hw1, World.size_alloc, hsz] at this; exact this
  have a1 := (Fr.refl (fun _ _ => False) w1).alloc (.cells #[.bool false] 4)
  have hS : Hid (Calls Tryz.prog 23 #[.func (.func 40) #[] #[.pointer (some ⟨sz, 0, none⟩), .pointer (some ⟨sz + 1, 0, none⟩)]] w1 fun e1 w' => ∃ a c l,
      e1 = .returned (.bool true) ∧ Aside (P4 w' (sz + 1) fo n a l.length c e2 ∧ Bf w' a l.length c l ∧ PL l ∧ (∀ x y, foot a c x y → sz + 3 ≤ x) ∧ Fr (fun _ _ => False) w w')) := Lib.hid (by
    have hp := decompose1_gen (fo := fo) (e2 := e2) (PL := PL) hPL (g.new (F1.trans a1)) (cd.fr a1 (fun _ q => q)) (cx.fr a1 (fun _ q => q)) (by omega) (Lib.hid (fun w0 k => HD.out w0 ((F1.trans a1).trans k)))
    refine (safe_any (P := fun w' => ∃ a c l, P4 w' (sz + 1) fo n a l.length c e2 ∧ Bf w' a l.length c l ∧ PL l ∧ (∀ x y, foot a c x y → sz + 3 ≤ x) ∧ Fr (fun _ _ => False) w w') 40 _ w1 (enter_decompose1 _) (hp.mono ?_)).mono ?_
    · rintro e w' ⟨a, c, l, rfl, k1, k2, kp, k4, k3⟩
      rw [World.size_alloc, hs1] at k4
      have hnew := Cl.new (w := w1) (by rw [hs1]; omega) (.bool false) 4
      have h4 := hnew.fr k3 (by rw [hs1]; omega)
      exact ⟨rfl, h4.cell, h4.free, a, c, l, k1, k2, kp, k4, (F1.trans a1).trans' k3 (fun _ _ _ k => k) (fun x y hx k => by rw [hsz] at hx; omega)⟩
    · rintro e w' ⟨rfl, w2, ⟨a, c, l, k1, k2, kp, k4, k3⟩, rfl⟩
      have f2 := ((Fr.refl (fun x _ => x = w1.heap.size) w2).setCell w1.heap.size 0 (.bool true) (fun _ => rfl)).setCell w1.heap.size 0 (.bool true) (fun _ => rfl)
      exact ⟨a, c, l, rfl, ⟨k1.fr f2 (fun _ => by rw [hs1]; omega), k2.fr f2 (fun x y q e => by have := k4 x y q; rw [hs1] at e; omega), kp, k4, k3.trans' f2 (fun _ _ _ k => k) (fun x y hx k => by rw [hsz] at hx; rw [hs1] at k; omega)⟩⟩)
  clear g F1 a1 cd cx hs1 HD hPL
  go_enter Tryz.func13, Tryz.ntmps13
  go_wp2_with fail
  have HSZ := Aside.mk hsz
  clear hw1 hsz hG
  refine hS.out.mono ?_
  rintro e1 w2 ⟨a, c, l, rfl, hA⟩
  obtain ⟨⟨s0, s4⟩, ⟨s1, s5⟩, ⟨s2, s6⟩, ⟨s3, s7⟩⟩ := hA.out.1
  clear hS
  go_wp2_with fail
  clear s0 s1 s2 s3 s4 s5 s6 s7
  have P := hA.out.1.put (f' := fo) (n' := n) (a' := a) (m' := l.length) (c' := c) (e' := e2)
  have K := hA.out.2.1.fr ((Fr.refl (fun b _ => b = sz + 1) w2).put4 (.int .u8 fo) (.bool n) (.slice a l.length c) (.int .i32 e2) (fun _ _ => rfl)) (fun x y q e => by have := hA.out.2.2.2.1 x y q; omega)
  have R := hA.out.2.2.2.2.put4 (px := sz + 1) (.int .u8 fo) (.bool n) (.slice a l.length c) (.int .i32 e2) (fun o q => by rw [HSZ.out] at q; omega)
  with_reducible refine bodyPost_ret (decompose_results P _ ?_) ?_ ⟨a, c, l, rfl, K.rd, hA.out.2.2.1, R⟩
  all_goals rfl
/-- Of a finite decimal; of infinity; of a NaN. -/
theorem decomposeI_fin {w : World} {e : Int} {n : Bool} {s : ByteArray} (g : Gv w) (hd : Digs s.data.toList) (h0 : 0 < s.size) (hs : s.size ≤ 300) :
    Calls Tryz.prog 13 #[.agg #[.int .i64 0, .bool n, .int .i32 e, .string s]] w fun e1 w' => ∃ a c l,
      e1 = .returned (.agg #[.int .u8 0, .bool n, .slice a l.length c, .int .i32 e]) ∧ RdB w' a l.length c l ∧ (l.length ≤ 8 * 16 ∧ beN l = numOf s.data.toList) ∧ Fr (fun _ _ => False) w w' := by
  have hsm : nlen (numOf s.data.toList) ≤ 16 := sm_len (sm_digs hd (by have : s.data.toList.length = s.size := rfl
                                                                       omega))
  refine decomposeI_gen (f := 0) (PL := fun l => l.length ≤ 8 * 16 ∧ beN l = numOf s.data.toList) (fun l hl => by omega) g (Lib.hid (fun w0 f0 => (dec_any 0 (by omega) (g.new f0) hd h0 (by omega)).mono ?_))
  rintro e1 w1 ⟨p, a, c, rfl, hD, f1, _, _⟩
  refine ⟨p, rfl, f1, ⟨fun w2 f2 => (dDec_fin (Nat.le_trans g.g.size (f0.trans (f1.trans f2)).size) (hD.fr f2 (fun _ _ _ q => q)) (by omega)).mono ?_⟩⟩
  rintro e3 w3 ⟨a', m, l, rfl, hm, hB, hl, f3⟩
  have := hB.len
  exact ⟨a', m, l, rfl, hB, ⟨by omega, hl⟩, f3⟩
theorem decomposeI_inf {w : World} {e : Int} {n : Bool} {s : ByteArray} (g : Gv w) (hd : Digs s.data.toList) (h0 : 0 < s.size) (hs : s.size ≤ 300) :
    Calls Tryz.prog 13 #[.agg #[.int .i64 1, .bool n, .int .i32 e, .string s]] w fun e1 w' => ∃ a c l,
      e1 = .returned (.agg #[.int .u8 1, .bool n, .slice a l.length c, .int .i32 0]) ∧ RdB w' a l.length c l ∧ l = [] ∧ Fr (fun _ _ => False) w w' := by
  refine decomposeI_gen (f := 1) (PL := fun l => l = []) (fun l hl => by subst hl; exact Nat.zero_le _) g (Lib.hid (fun w0 f0 => (dec_any 1 (by omega) (g.new f0) hd h0 (by omega)).mono ?_))
  rintro e1 w1 ⟨p, a, c, rfl, hD, f1, _, _⟩
  refine ⟨p, rfl, f1, ⟨fun w2 f2 => (dDec_inf (hD.fr f2 (fun _ _ _ q => q))).mono ?_⟩⟩
  rintro e3 w3 ⟨rfl, rfl⟩
  exact ⟨none, 0, [], rfl, ⟨rfl, Nat.le_refl _, .inl rfl⟩, rfl, Fr.refl _ _⟩
theorem decomposeI_nan {w : World} {e : Int} {n : Bool} {s : ByteArray} (f : Nat) (hf : f = 2 ∨ f = 3) (g : Gv w) (hd : Digs s.data.toList) (h0 : 0 < s.size) (hs : s.size ≤ 300) :
    Calls Tryz.prog 13 #[.agg #[.int .i64 f, .bool n, .int .i32 e, .string s]] w fun e1 w' => ∃ a c l,
      e1 = .returned (.agg #[.int .u8 2, .bool n, .slice a l.length c, .int .i32 0]) ∧ RdB w' a l.length c l ∧ l = [] ∧ Fr (fun _ _ => False) w w' := by
  refine decomposeI_gen (f := f) (PL := fun l => l = []) (fun l hl => by subst hl; exact Nat.zero_le _) g (Lib.hid (fun w0 f0 => (dec_any f (by omega) (g.new f0) hd h0 (by omega)).mono ?_))
  rintro e1 w1 ⟨p, a, c, rfl, hD, f1, _, _⟩
  refine ⟨p, rfl, f1, ⟨fun w2 f2 => (dDec_nan (by omega) (hD.fr f2 (fun _ _ _ q => q))).mono ?_⟩⟩
  rintro e3 w3 ⟨rfl, rfl⟩
  exact ⟨none, 0, [], rfl, ⟨rfl, Nat.le_refl _, .inl rfl⟩, rfl, Fr.refl _ _⟩
end Go.Proofs.YtgilnnipephfjaaGreatDoor
