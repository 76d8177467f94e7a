/- What SetString, NewFromString and UnmarshalText answer, by what setString answers. impl.Parse, by what setString answers. What a text means, as a relation. -/
import Derived.Test.YtifkpcijheabhaaGreatDoorP40Par1
import Derived.Test.YtifkpcijheabhaaGreatDoorP39Fmt9
import Derived.Test.YtifkpcijheabhaaGreatDoorP41Par2b
import Derived.Test.YtifkpcijheabhaaGreatDoorP42Par2d
import Derived.Test.YtifkpcijheabhaaGreatDoorP43Par3c
set_option linter.unusedSimpArgs false
set_option linter.unusedVariables false
namespace Go.Proofs.YtifkpcijheabhaaGreatDoor
open Go.RowKit

/-- setString reads a text. -/
def SetOk (s : ByteArray) (f : Nat) (ng : Bool) (e : Int) (X : Nat) : Prop := ∀ (w : World) (b : Nat) (f0 e0 : Int) (n0 : Bool) (a : Option Addr) (c X0 : Nat), Gv w → SyV w → DA w b f0 n0 e0 a c X0 →
  Calls Tryz.prog 59 #[.pointer (some ⟨b, 0, none⟩), .pointer (some ⟨0, 0, none⟩), .string s] w fun e1 w' => ∃ a' c', e1 = .returned (.tuple #[.int .u32 0, .nilIface]) ∧ DA w' b f ng e a' c' X ∧ Fr (dfoot b a c) w w' ∧ Out w a c a' c'
/-- setString refuses a text. -/
def SetNo (s : ByteArray) : Prop := ∀ (w : World) (b : Nat) (f0 e0 : Int) (n0 : Bool) (a : Option Addr) (c X0 : Nat), Gv w → SyV w → DA w b f0 n0 e0 a c X0 →
  Calls Tryz.prog 59 #[.pointer (some ⟨b, 0, none⟩), .pointer (some ⟨0, 0, none⟩), .string s] w fun e1 w' => ∃ q, e1 = .returned (.tuple #[.int .u32 0, .iface 150 (.pointer (some q))]) ∧ Fr (dfoot b a c) w w'
theorem SyV.new {w w' : World} (h : SyV w) (hG : NG ≤ w.heap.size) (f : Fr (fun _ _ => False) w w') : SyV w' := h.fr hG f (fun _ _ k => k.elim)
set_option maxRecDepth 100000 in
theorem cSet_ok {w : World} {b f X0 : Nat} {f0 e0 e : Int} {n0 ng : Bool} {a : Option Addr} {c X : Nat} {s : ByteArray} (hS : SetOk s f ng e X) (g : Gv w) (sy : SyV w) (h : DA w b f0 n0 e0 a c X0) (hX : bl X ≤ 1100) (he : -60000 ≤ e ∧ e ≤ 60000) :
    Calls Tryz.prog 47 #[.pointer (some ⟨0, 0, none⟩), .pointer (some ⟨b, 0, none⟩), .string s] w fun e1 w' => ∃ a' c',
      e1 = .returned (.tuple #[.pointer (some ⟨b, 0, none⟩), .int .u32 0, .nilIface]) ∧ DA w' b f ng e a' c' X ∧ Fr (dfoot b a c) w w' ∧ Out w a c a' c' := by
  have hcb : 0 ≠ b := by rintro rfl; exact absurd h.num.blk.1 (by decide)
  have hnd := ndig_bl X
  have hnp := ndig_pos X
  have hS := Lib.hid (hS w b f0 e0 n0 a c X0 g sy h)
  have HLO := Aside.mk h.lo
  have HG := Aside.mk g
  clear h g sy
  go_enter Tryz.func47, Tryz.ntmps47
  go_wp2_with fail
  refine hS.out.mono ?_
  rintro e1 w1 ⟨a1, c1, rfl, s1, s2, s3⟩
  have G1 := HG.out.fr s2 HLO.out
  have hR := Lib.hid (cround0_any G1.g s1 hX G1.base hcb (by omega) (by omega) (by omega) (by omega) (by omega) (by omega))
  have S2 := Aside.mk s2
  have S3 := Aside.mk s3
  clear s1 s2 s3 G1 hS hnd hnp
  go_wp2_with fail
  refine hR.out.mono ?_
  rintro e1 w2 ⟨rfl, t1, t2⟩
  have T1 := Aside.mk t1
  have T2 := Aside.mk (S2.out.trans' t2 (U := dfoot b a c) (fun _ _ _ k => k) (fun _ _ _ k => .inl k))
  clear t1 t2 hR
  go_wp2_with fail
  refine (goError0 _ _).mono ?_
  rintro e1 w3 ⟨rfl, rfl⟩
  go_wp2_with fail
  go_ret3
  exact ⟨a1, c1, rfl, T1.out, T2.out, S3.out⟩
set_option maxRecDepth 100000 in
theorem cSet_no {w : World} {b X0 : Nat} {f0 e0 : Int} {n0 : Bool} {a : Option Addr} {c : Nat} {s : ByteArray} (hS : SetNo s) (g : Gv w) (sy : SyV w) (h : DA w b f0 n0 e0 a c X0) :
    Calls Tryz.prog 47 #[.pointer (some ⟨0, 0, none⟩), .pointer (some ⟨b, 0, none⟩), .string s] w fun e1 w' => ∃ q,
      e1 = .returned (.tuple #[.pointer none, .int .u32 0, .iface 150 (.pointer (some q))]) ∧ Fr (dfoot b a c) w w' := by
  have hS := Lib.hid (hS w b f0 e0 n0 a c X0 g sy h)
  clear h g sy
  go_enter Tryz.func47, Tryz.ntmps47
  go_wp2_with fail
  refine hS.out.mono ?_
  rintro e1 w1 ⟨q, rfl, s1⟩
  have S1 := Aside.mk s1
  clear s1 hS
  go_wp2_with fail
  go_ret3
  exact ⟨q, rfl, S1.out⟩
/-- A decimal in a block that is new since w. -/
def ZD (w w2 : World) (p : Nat) (f : Nat) (ng : Bool) (e : Int) (X : Nat) : Prop := Fr (fun _ _ => False) w w2 ∧ ∃ a c, DA w2 p f ng e a c X
theorem fresh_foot {w w1 w2 : World} {p : Nat} {a : Option Addr} {c : Nat} (f : Fr (fun _ _ => False) w w1) (hp : w.heap.size ≤ p) (ho : Out w none 0 a c) (k : Fr (dfoot p a c) w1 w2) : Fr (fun _ _ => False) w w2 :=
  f.trans' k (fun _ _ _ q => q) (fun x y hx q => by
    rcases q with rfl | q
    · omega
    · rcases ho with ⟨rfl, rfl⟩ | ⟨b2, o2, rfl, h2⟩
      · exact foot_none _ _ _ q
      · rw [foot_some] at q; omega)
set_option maxRecDepth 100000 in
theorem newFrom_ok {w : World} {f : Nat} {e : Int} {ng : Bool} {X : Nat} {s : ByteArray} (hS : SetOk s f ng e X) (g : Gv w) (sy : SyV w) (hX : bl X ≤ 1100) (he : -60000 ≤ e ∧ e ≤ 60000) :
    Calls Tryz.prog 23 #[.string s] w fun e1 w' => e1 = .returned (.tuple #[.pointer (some ⟨w.heap.size, 0, none⟩), .int .u32 0, .nilIface]) ∧ Aside (ZD w w' w.heap.size f ng e X) := by
  have F1 := Aside.mk ((Fr.refl (fun _ _ => False) w).alloc (.cells #[.int .i8 0, .bool false, .int .i32 0, .bool false, .slice none 0 0] 65))
  have hC0 := cSet_ok hS (g.new F1.out) (sy.new g.g.size F1.out) (DA.new g.g.size 65 0 false 0) hX he
  have hC : Hid (Calls Tryz.prog 47 #[.pointer (some ⟨0, 0, none⟩), .pointer (some ⟨w.heap.size, 0, none⟩), .string s] (w.alloc (.cells #[.int .i8 0, .bool false, .int .i32 0, .bool false, .slice none 0 0] 65)) fun e1 w' => e1 = .returned (.tuple #[.pointer (some ⟨w.heap.size, 0, none⟩), .int .u32 0, .nilIface]) ∧ Aside (ZD w w' w.heap.size f ng e X)) := Lib.hid (by
    refine hC0.mono ?_
    rintro e1 w1 ⟨a1, c1, rfl, s1, s2, s3⟩
    exact ⟨rfl, ⟨fresh_foot F1.out (Nat.le_refl _) (.inl ⟨rfl, rfl⟩) s2, a1, c1, s1⟩⟩)
  have hN : Hid (Calls Tryz.prog 45 #[.pointer (some ⟨0, 0, none⟩), .string s] w fun e1 w' => e1 = .returned (.tuple #[.pointer (some ⟨w.heap.size, 0, none⟩), .int .u32 0, .nilIface]) ∧ Aside (ZD w w' w.heap.size f ng e X)) := Lib.hid (by
    clear hC0 g sy hS F1 hX he
    go_enter Tryz.func45, Tryz.ntmps45
    go_wp2_with fail
    refine hC.out.mono ?_
    rintro e1 w1 ⟨rfl, S⟩
    go_wp2_with fail
    go_ret3
    exact ⟨rfl, S⟩)
  clear hC0 g sy hS F1 hC hX he
  go_enter Tryz.func23, Tryz.ntmps23
  go_wp2_with fail
  refine hN.out.mono ?_
  rintro e1 w1 ⟨rfl, S⟩
  go_wp2_with fail
  go_ret3
  exact ⟨rfl, S⟩
set_option maxRecDepth 100000 in
theorem dSet_ok {w : World} {b : Nat} {a : Option Addr} {c : Nat} {f X0 : Nat} {f0 e0 e : Int} {n0 ng : Bool} {X : Nat} {s : ByteArray} (hS : SetOk s f ng e X) (g : Gv w) (sy : SyV w) (h : DA w b f0 n0 e0 a c X0) (hX : bl X ≤ 1100) (he : -60000 ≤ e ∧ e ≤ 60000) :
    Calls Tryz.prog 25 #[.pointer (some ⟨b, 0, none⟩), .string s] w fun e1 w' => ∃ a' c', e1 = .returned (.tuple #[.pointer (some ⟨b, 0, none⟩), .int .u32 0, .nilIface]) ∧ DA w' b f ng e a' c' X ∧ Fr (dfoot b a c) w w' ∧ Out w a c a' c' := by
  have hC := Lib.hid (cSet_ok hS g sy h hX he)
  clear hS g sy h hX he
  go_enter Tryz.func25, Tryz.ntmps25
  go_wp2_with fail
  refine hC.out.mono ?_
  rintro e1 w1 ⟨a1, c1, rfl, s1⟩
  have S1 := Aside.mk s1
  clear s1
  go_wp2_with fail
  go_ret3
  exact ⟨a1, c1, rfl, S1.out⟩
set_option maxRecDepth 100000 in
theorem unm_ok {w : World} {b sb so sc : Nat} {a : Option Addr} {c : Nat} {f X0 : Nat} {f0 e0 e : Int} {n0 ng : Bool} {X : Nat} {l : List UInt8} {s : ByteArray} (hs : s = mk l) (hS : SetOk s f ng e X) (g : Gv w) (sy : SyV w) (h : DA w b f0 n0 e0 a c X0) (hX : bl X ≤ 1100) (he : -60000 ≤ e ∧ e ≤ 60000) (hl : Bs w sb so l) :
    Calls Tryz.prog 26 #[.pointer (some ⟨b, 0, none⟩), .slice (some ⟨sb, so, none⟩) l.length sc] w fun e1 w' => ∃ a' c', e1 = .returned .nilIface ∧ DA w' b f ng e a' c' X ∧ Fr (dfoot b a c) w w' ∧ Out w a c a' c' := by
  have hC := Lib.hid (dSet_ok hS g sy h hX he)
  have hcv : (convert 32 9 (.slice (some ⟨sb, so, none⟩) l.length sc)).run Tryz.prog w = .ok (.string s) w := by
    rw [hs]; exact run_convert_bytes_back w _ _ _ ⟨sb, so, none⟩ sc l Tryz.underlying32 Tryz.underlying5 Tryz.underlying9 (fun j hj => by rw [Addr.add_lit]; exact hl j hj)
  obtain ⟨m, hm⟩ : ∃ m, l.length = m := ⟨_, rfl⟩
  rw [hm] at hcv ⊢
  clear hs hS g sy h hl hm hX he
  go_enter Tryz.func26, Tryz.ntmps26
  go_wp2_with fail
  refine hC.out.mono ?_
  rintro e1 w1 ⟨a1, c1, rfl, s1⟩
  have S1 := Aside.mk s1
  clear s1
  go_wp2_with fail
  go_ret
  exact ⟨a1, c1, rfl, S1.out⟩
set_option maxRecDepth 100000 in
theorem newFrom_no {w : World}  {s : ByteArray} (hS : SetNo s) (g : Gv w) (sy : SyV w) :
    Calls Tryz.prog 23 #[.string s] w fun e1 w' => ∃ q, e1 = .returned (.tuple #[.pointer none, .int .u32 0, .iface 150 (.pointer (some q))]) ∧ Aside (Fr (fun _ _ => False) w w') := by
  have F1 := Aside.mk ((Fr.refl (fun _ _ => False) w).alloc (.cells #[.int .i8 0, .bool false, .int .i32 0, .bool false, .slice none 0 0] 65))
  have hC0 := cSet_no hS (g.new F1.out) (sy.new g.g.size F1.out) (DA.new g.g.size 65 0 false 0)
  have hC : Hid (Calls Tryz.prog 47 #[.pointer (some ⟨0, 0, none⟩), .pointer (some ⟨w.heap.size, 0, none⟩), .string s] (w.alloc (.cells #[.int .i8 0, .bool false, .int .i32 0, .bool false, .slice none 0 0] 65)) fun e1 w' => ∃ q, e1 = .returned (.tuple #[.pointer none, .int .u32 0, .iface 150 (.pointer (some q))]) ∧ Aside (Fr (fun _ _ => False) w w')) := Lib.hid (by
    refine hC0.mono ?_
    rintro e1 w1 ⟨q, rfl, s1⟩
    exact ⟨q, rfl, ⟨fresh_foot F1.out (Nat.le_refl _) (.inl ⟨rfl, rfl⟩) s1⟩⟩)
  have hN : Hid (Calls Tryz.prog 45 #[.pointer (some ⟨0, 0, none⟩), .string s] w fun e1 w' => ∃ q, e1 = .returned (.tuple #[.pointer none, .int .u32 0, .iface 150 (.pointer (some q))]) ∧ Aside (Fr (fun _ _ => False) w w')) := Lib.hid (by
    clear hC0 g sy hS F1
    go_enter Tryz.func45, Tryz.ntmps45
    go_wp2_with fail
    refine hC.out.mono ?_
    rintro e1 w1 ⟨q, rfl, S⟩
    go_wp2_with fail
    go_ret3
    exact ⟨q, rfl, S⟩)
  clear hC0 g sy hS F1 hC
  go_enter Tryz.func23, Tryz.ntmps23
  go_wp2_with fail
  refine hN.out.mono ?_
  rintro e1 w1 ⟨q, rfl, S⟩
  go_wp2_with fail
  go_ret3
  exact ⟨q, rfl, S⟩
set_option maxRecDepth 100000 in
theorem dSet_no {w : World} {b : Nat} {a : Option Addr} {c : Nat} {X0 : Nat} {f0 e0 : Int} {n0 : Bool} {s : ByteArray} (hS : SetNo s) (g : Gv w) (sy : SyV w) (h : DA w b f0 n0 e0 a c X0) :
    Calls Tryz.prog 25 #[.pointer (some ⟨b, 0, none⟩), .string s] w fun e1 w' => ∃ q, e1 = .returned (.tuple #[.pointer none, .int .u32 0, .iface 150 (.pointer (some q))]) ∧ Fr (dfoot b a c) w w' := by
  have hC := Lib.hid (cSet_no hS g sy h)
  clear hS g sy h
  go_enter Tryz.func25, Tryz.ntmps25
  go_wp2_with fail
  refine hC.out.mono ?_
  rintro e1 w1 ⟨q, rfl, s1⟩
  have S1 := Aside.mk s1
  clear s1
  go_wp2_with fail
  go_ret3
  exact ⟨q, rfl, S1.out⟩
set_option maxRecDepth 100000 in
theorem unm_no {w : World} {b sb so sc : Nat} {a : Option Addr} {c : Nat} {X0 : Nat} {f0 e0 : Int} {n0 : Bool} {l : List UInt8} {s : ByteArray} (hs : s = mk l) (hS : SetNo s) (g : Gv w) (sy : SyV w) (h : DA w b f0 n0 e0 a c X0) (hl : Bs w sb so l) :
    Calls Tryz.prog 26 #[.pointer (some ⟨b, 0, none⟩), .slice (some ⟨sb, so, none⟩) l.length sc] w fun e1 w' => ∃ q, e1 = .returned (.iface 150 (.pointer (some q))) ∧ Fr (dfoot b a c) w w' := by
  have hC := Lib.hid (dSet_no hS g sy h)
  have hcv : (convert 32 9 (.slice (some ⟨sb, so, none⟩) l.length sc)).run Tryz.prog w = .ok (.string s) w := by
    rw [hs]; exact run_convert_bytes_back w _ _ _ ⟨sb, so, none⟩ sc l Tryz.underlying32 Tryz.underlying5 Tryz.underlying9 (fun j hj => by rw [Addr.add_lit]; exact hl j hj)
  obtain ⟨m, hm⟩ : ∃ m, l.length = m := ⟨_, rfl⟩
  rw [hm] at hcv ⊢
  clear hs hS g sy h hl hm
  go_enter Tryz.func26, Tryz.ntmps26
  go_wp2_with fail
  refine hC.out.mono ?_
  rintro e1 w1 ⟨q, rfl, s1⟩
  have S1 := Aside.mk s1
  clear s1
  go_wp2_with fail
  go_ret
  exact ⟨q, rfl, S1.out⟩
end Go.Proofs.YtifkpcijheabhaaGreatDoor
namespace Go.Proofs.YtifkpcijheabhaaGreatDoor
open Go.RowKit

theorem dec5 : Digs (⟨#[49, 50, 51, 52, 53]⟩ : ByteArray).data.toList := by intro c hc; simp at hc; rcases hc with rfl | rfl | rfl | rfl | rfl <;> decide
set_option maxRecDepth 100000 in
set_option maxHeartbeats 4000000 in
theorem parse1_ok {w : World} {pb ps pd po k : Nat} {f : Nat} {e : Int} {ng : Bool} {X : Nat} {s s0 : ByteArray} {f0 e0 : Int} {n0 o : Bool} (hk : k ≤ 2) (g : Gv w) (sy : SyV w) (hb : Cl w pb 0 (.int .i64 k)) (hc : Cl w ps 0 (.string s)) (hd : D4 w pd f0 n0 e0 s0) (ho : Cl w po 0 (.bool o)) (hpo : po ≠ pd)
    (hS : SetOk s f ng e X) (hX : bl X ≤ 1100) (he : -60000 ≤ e ∧ e ≤ 60000) (hf : f ≤ 3) (h8 : Sm X) :
    Calls Tryz.prog 22 #[.pointer (some ⟨pb, 0, none⟩), .pointer (some ⟨ps, 0, none⟩), .pointer (some ⟨pd, 0, none⟩), .pointer (some ⟨po, 0, none⟩)] w fun e1 w' =>
      e1 = .returned (.tuple #[]) ∧ D4 w' pd f ng e (mk (natText X)) ∧ Cl w' po 0 (.bool true) ∧ Fr (fun x _ => x = pd ∨ x = po) w w' := by
  have hbc := hb.cell
  have hsc := hc.cell
  have hG := g.g.size
  have hN := Lib.hid (newFrom_ok hS g sy hX he)
  have HD1 : Hid (Calls Tryz.prog 24 #[.agg #[.int .i64 0, .bool true, .int .i32 3, .string ⟨#[49, 50, 51, 52, 53]⟩]] w fun e1 w2 => ∃ p, e1 = .returned (.pointer (some ⟨p, 0, none⟩)) ∧ w2.cell? ⟨ps, 0, none⟩ = some (.string s) ∧
      Hid (Calls Tryz.prog 25 #[.pointer (some ⟨p, 0, none⟩), .string s] w2 fun e1 w4 => ∃ v, e1 = .returned (.tuple #[.pointer v, .int .u32 0, .nilIface]) ∧ Aside (ZD w w4 p f ng e X))) := Lib.hid (by
    refine (dec_any 0 (by omega) g dec5 (by decide) (by decide)).mono ?_
    rintro e1 w2 ⟨p, a, c, rfl, k1, k2, k3, k4⟩
    refine ⟨p, rfl, (hc.fr k2 (fun q => q)).cell, Lib.hid ?_⟩
    refine (dSet_ok hS (g.new k2) (sy.new hG k2) k1 hX he).mono ?_
    rintro e1 w4 ⟨a1, c1, rfl, s1, s2, s3⟩
    exact ⟨_, rfl, ⟨fresh_foot k2 k3 k4 s2, a1, c1, s1⟩⟩)
  obtain ⟨bc, bw, hcv, hbw⟩ := bytes_of s.data.toList
  rw [← mk_of] at hcv
  obtain ⟨m, hm⟩ : ∃ m, s.data.toList.length = m := ⟨_, rfl⟩
  rw [hm] at hcv
  have f1 := (Fr.refl (fun _ _ => False) w).alloc (.cells #[.int .i8 0, .bool false, .int .i32 0, .bool false, .slice none 0 0] 65)
  obtain ⟨W1, hW1⟩ : ∃ x, w.alloc (.cells #[.int .i8 0, .bool false, .int .i32 0, .bool false, .slice none 0 0] 65) = x := ⟨_, rfl⟩
  have hW1s : W1.heap.size = w.heap.size + 1 := by rw [← hW1]; simp
  have HU : Hid (Calls Tryz.prog 26 #[.pointer (some ⟨w.heap.size, 0, none⟩), .slice (some ⟨w.heap.size + 1, 0, none⟩) m (bc W1)] (bw W1) fun e1 w4 => e1 = .returned (.nilIface) ∧ Aside (ZD w w4 w.heap.size f ng e X)) := Lib.hid (by
    obtain ⟨b1, b2, b3, b4, b5⟩ := hbw W1
    rw [hW1] at f1
    have f2 := f1.trans b1
    have D1 : DA (bw W1) w.heap.size 0 false 0 none 0 0 := by
      have := DA.new hG 65 0 false 0 (w := w)
      rw [hW1] at this
      exact this.fr b1 (fun _ _ _ q => q)
    rw [hW1s] at b2
    have := unm_ok (sc := bc W1) (mk_of s) hS (g.new f2) (sy.new hG f2) D1 hX he b2
    rw [hm] at this
    refine this.mono ?_
    rintro e1 w4 ⟨a1, c1, rfl, s1, s2, s3⟩
    exact ⟨rfl, ⟨fresh_foot f2 (Nat.le_refl _) (.inl ⟨rfl, rfl⟩) s2, a1, c1, s1⟩⟩)
  have hsc1 : W1.cell? ⟨ps, 0, none⟩ = some (.string s) := by rw [← hW1]; exact (World.cell?_alloc_lt w _ _ hc.lt).trans hsc
  have HDA := Aside.mk hd
  have HO := Aside.mk ho
  have HG := Aside.mk g
  have HNE := Aside.mk hpo
  have HW1s := Aside.mk hW1s
  obtain ⟨U, hU⟩ : ∃ U, mk (natText X) = U := ⟨_, rfl⟩
  have HU2 := Aside.mk hU
  rw [hU]
  clear hU
  clear hb hc hd ho g sy hS hpo hbw f1 hm hW1s hX he
  go_enter Tryz.func22, Tryz.ntmps22
  go_upto_block 0 with fail
  go_cut [4, 5] (fun zv ev wr => ∃ p, zv = .pointer (some ⟨p, 0, none⟩) ∧ ev = .nilIface ∧ Aside (ZD w wr p f ng e X))
  case first =>
    have c0 : k = 0 ∨ k = 1 ∨ k = 2 := by omega
    clear hk
    rcases c0 with rfl | rfl | rfl
    · go_wp2_with fail
      refine hN.out.mono ?_
      rintro e1 w1 ⟨rfl, K⟩
      go_wp2_with fail
      go_meet
      exact ⟨_, rfl, rfl, K⟩
    · go_wp2_with fail
      refine HD1.out.mono ?_
      rintro e1 w1 ⟨p, rfl, hs1, h2⟩
      go_wp2_with fail
      refine h2.out.mono ?_
      rintro e1 w2 ⟨v, rfl, K⟩
      go_wp2_with fail
      go_meet
      exact ⟨_, rfl, rfl, K⟩
    · go_wp2_with fail
      try rw [hW1]
      try rw [HW1s.out]
      refine HU.out.mono ?_
      rintro e1 w2 ⟨rfl, K⟩
      go_wp2_with fail
      go_meet
      exact ⟨_, rfl, rfl, K⟩
  case rest =>
    obtain ⟨p, rfl, rfl, K⟩ := hcut
    obtain ⟨hZ, a, c, hD⟩ := K.out
    have hP := Lib.hid (plain_any f hf (HG.out.new hZ) hD h8)
    rw [HU2.out] at hP
    have FZ := Aside.mk hZ
    clear hZ hD h8 hN HD1 HU hcv hbc hsc hsc1 K hf hk
    go_wp2_with fail
    refine hP.out.mono ?_
    rintro e1 w2 ⟨rfl, kk⟩
    have F2 := FZ.out.trans kk
    have D2 := HDA.out.fr F2 (fun _ q => q)
    have O2 := HO.out.fr F2 (fun q => q)
    obtain ⟨d0, d1, d2, d3, d4, d5, d6, d7⟩ := E8.of D2
    have o0 := O2.cell
    have o1 := O2.free
    have ne := HNE.out
    have ne' : ¬ pd = po := fun q => ne q.symm
    have HD2 := Aside.mk D2
    have HO2 := Aside.mk O2
    have HF2 := Aside.mk F2
    clear D2 O2 F2 kk hP
    go_wp2_with fail
    go_end0
    have P := HD2.out.put (f' := f) (n' := ng) (e' := e) (s' := U)
    refine ⟨rfl, ⟨P.c0.other po 0 _ (by omega), P.c1.other po 0 _ (by omega), P.c2.other po 0 _ (by omega), P.c3.other po 0 _ (by omega)⟩, ?_, ?_⟩
    · exact ((((HO2.out.other pd 0 _ (by omega)).other pd 1 _ (by omega)).other pd 2 _ (by omega)).other pd 3 _ (by omega)).set _
    · have hfr := HF2.out.mono (T := fun x _ => x = pd ∨ x = po) (fun _ _ _ k => k.elim)
      repeat' (first | exact hfr | refine Fr.setCell ?_ _ _ _ (fun q => by omega))
set_option maxRecDepth 100000 in
set_option maxHeartbeats 4000000 in
theorem parse1_no {w : World} {pb ps pd po k : Nat}  {s s0 : ByteArray} {f0 e0 : Int} {n0 o : Bool} (hk : k ≤ 2) (g : Gv w) (sy : SyV w) (hb : Cl w pb 0 (.int .i64 k)) (hc : Cl w ps 0 (.string s)) (hd : D4 w pd f0 n0 e0 s0) (ho : Cl w po 0 (.bool o)) (hpo : po ≠ pd)
    (hS : SetNo s) :
    Calls Tryz.prog 22 #[.pointer (some ⟨pb, 0, none⟩), .pointer (some ⟨ps, 0, none⟩), .pointer (some ⟨pd, 0, none⟩), .pointer (some ⟨po, 0, none⟩)] w fun e1 w' =>
      e1 = .returned (.tuple #[]) ∧ Fr (fun _ _ => False) w w' := by
  have hbc := hb.cell
  have hsc := hc.cell
  have hG := g.g.size
  have hN := Lib.hid (newFrom_no hS g sy)
  have HD1 : Hid (Calls Tryz.prog 24 #[.agg #[.int .i64 0, .bool true, .int .i32 3, .string ⟨#[49, 50, 51, 52, 53]⟩]] w fun e1 w2 => ∃ p, e1 = .returned (.pointer (some ⟨p, 0, none⟩)) ∧ w2.cell? ⟨ps, 0, none⟩ = some (.string s) ∧
      Hid (Calls Tryz.prog 25 #[.pointer (some ⟨p, 0, none⟩), .string s] w2 fun e1 w4 => ∃ v, ∃ q, e1 = .returned (.tuple #[.pointer v, .int .u32 0, .iface 150 (.pointer (some q))]) ∧ Aside (Fr (fun _ _ => False) w w4))) := Lib.hid (by
    refine (dec_any 0 (by omega) g dec5 (by decide) (by decide)).mono ?_
    rintro e1 w2 ⟨p, a, c, rfl, k1, k2, k3, k4⟩
    refine ⟨p, rfl, (hc.fr k2 (fun q => q)).cell, Lib.hid ?_⟩
    refine (dSet_no hS (g.new k2) (sy.new hG k2) k1).mono ?_
    rintro e1 w4 ⟨q, rfl, s1⟩
    exact ⟨_, q, rfl, ⟨fresh_foot k2 k3 k4 s1⟩⟩)
  obtain ⟨bc, bw, hcv, hbw⟩ := bytes_of s.data.toList
  rw [← mk_of] at hcv
  obtain ⟨m, hm⟩ : ∃ m, s.data.toList.length = m := ⟨_, rfl⟩
  rw [hm] at hcv
  have f1 := (Fr.refl (fun _ _ => False) w).alloc (.cells #[.int .i8 0, .bool false, .int .i32 0, .bool false, .slice none 0 0] 65)
  obtain ⟨W1, hW1⟩ : ∃ x, w.alloc (.cells #[.int .i8 0, .bool false, .int .i32 0, .bool false, .slice none 0 0] 65) = x := ⟨_, rfl⟩
  have hW1s : W1.heap.size = w.heap.size + 1 := by rw [← hW1]; simp
  have HU : Hid (Calls Tryz.prog 26 #[.pointer (some ⟨w.heap.size, 0, none⟩), .slice (some ⟨w.heap.size + 1, 0, none⟩) m (bc W1)] (bw W1) fun e1 w4 => ∃ q, e1 = .returned (.iface 150 (.pointer (some q))) ∧ Aside (Fr (fun _ _ => False) w w4)) := Lib.hid (by
    obtain ⟨b1, b2, b3, b4, b5⟩ := hbw W1
    rw [hW1] at f1
    have f2 := f1.trans b1
    have D1 : DA (bw W1) w.heap.size 0 false 0 none 0 0 := by
      have := DA.new hG 65 0 false 0 (w := w)
      rw [hW1] at this
      exact this.fr b1 (fun _ _ _ q => q)
    rw [hW1s] at b2
    have := unm_no (sc := bc W1) (mk_of s) hS (g.new f2) (sy.new hG f2) D1 b2
    rw [hm] at this
    refine this.mono ?_
    rintro e1 w4 ⟨q, rfl, s1⟩
    exact ⟨q, rfl, ⟨fresh_foot f2 (Nat.le_refl _) (.inl ⟨rfl, rfl⟩) s1⟩⟩)
  have hsc1 : W1.cell? ⟨ps, 0, none⟩ = some (.string s) := by rw [← hW1]; exact (World.cell?_alloc_lt w _ _ hc.lt).trans hsc
  have HDA := Aside.mk hd
  have HO := Aside.mk ho
  have HG := Aside.mk g
  have HNE := Aside.mk hpo
  have HW1s := Aside.mk hW1s
  clear hb hc hd ho g sy hS hpo hbw f1 hm hW1s
  go_enter Tryz.func22, Tryz.ntmps22
  go_upto_block 0 with fail
  go_cut [4, 5] (fun zv ev wr => (∃ q, ev = .iface 150 (.pointer (some q))) ∧ Aside (Fr (fun _ _ => False) w wr))
  case first =>
    have c0 : k = 0 ∨ k = 1 ∨ k = 2 := by omega
    clear hk
    rcases c0 with rfl | rfl | rfl
    · go_wp2_with fail
      refine hN.out.mono ?_
      rintro e1 w1 ⟨q, rfl, K⟩
      go_wp2_with fail
      go_meet
      exact ⟨⟨_, rfl⟩, K⟩
    · go_wp2_with fail
      refine HD1.out.mono ?_
      rintro e1 w1 ⟨p, rfl, hs1, h2⟩
      go_wp2_with fail
      refine h2.out.mono ?_
      rintro e1 w2 ⟨v, q, rfl, K⟩
      go_wp2_with fail
      go_meet
      exact ⟨⟨_, rfl⟩, K⟩
    · go_wp2_with fail
      try rw [hW1]
      try rw [HW1s.out]
      refine HU.out.mono ?_
      rintro e1 w2 ⟨q, rfl, K⟩
      go_wp2_with fail
      go_meet
      exact ⟨⟨_, rfl⟩, K⟩
  case rest =>
    obtain ⟨⟨q, rfl⟩, K⟩ := hcut
    clear hN HD1 HU hcv hbc hsc hsc1 hk
    go_wp2_with fail
    go_end0
    exact ⟨rfl, K.out⟩
set_option maxRecDepth 100000 in
set_option maxHeartbeats 1000000 in
theorem parse_ok {w : World} {k : Nat} {f : Nat} {e : Int} {ng : Bool} {X : Nat} {s : ByteArray} (hk : k ≤ 2) (g : Gv w) (sy : SyV w) (hS : SetOk s f ng e X) (hX : bl X ≤ 1100) (he : -60000 ≤ e ∧ e ≤ 60000) (hf : f ≤ 3) (h8 : Sm X) :
    Calls Tryz.prog 9 #[.string s, .int .i64 k] w fun e1 w' => e1 = .returned (.tuple #[.agg #[.int .i64 f, .bool ng, .int .i32 e, .string (mk (natText X))], .bool true]) ∧ Fr (fun _ _ => False) w w' := by
  have hG := g.g.size
  have hm := hmf
  obtain ⟨sz, hsz⟩ : ∃ x, w.heap.size = x := ⟨_, rfl⟩
  obtain ⟨w1, hw1⟩ : ∃ x, (((w.alloc (.cells #[.string s] 9)).alloc (.cells #[.int .i64 k] 3)).alloc (.cells #[.int .i64 0, .bool false, .int .i32 0, .string ⟨#[]⟩] 23)).alloc (.cells #[.bool false] 4) = x := ⟨_, rfl⟩
  have F1 : Fr (fun _ _ => False) w w1 := by rw [← hw1]; exact (((((Fr.refl _ w).alloc _).alloc _).alloc _).alloc _)
  have hs1 : w1.heap.size = sz + 4 := by rw [← hw1, ← hsz]; simp
  have cs : Cl w1 sz 0 (.string s) := by
    rw [← hw1, ← hsz]; exact (Cl.new hG (.string s) 9).fr ((((Fr.refl (fun _ _ => False) _).alloc _).alloc _).alloc _) (fun q => q)
  have cb : Cl w1 (sz + 1) 0 (.int .i64 k) := by
    have := (Cl.new (w := w.alloc (.cells #[.string s] 9)) (by simp; omega) (.int .i64 k) 3).fr (((Fr.refl (fun _ _ => False) _).alloc (.cells #[.int .i64 0, .bool false, .int .i32 0, .string ⟨#[]⟩] 23)).alloc (.cells #[.bool false] 4)) (fun q => q)
    rw [hw1, World.size_alloc, hsz] at this; exact this
  have cd : D4 w1 (sz + 2) 0 false 0 ⟨#[]⟩ := by
    have := (D4.new (w := (w.alloc (.cells #[.string s] 9)).alloc (.cells #[.int .i64 k] 3)) 0 0 false ⟨#[]⟩ 23).fr ((Fr.refl (fun _ _ => False) _).alloc (.cells #[.bool false] 4)) (fun _ q => q)
    rw [hw1, World.size_alloc, World.size_alloc, hsz] at this; exact this
  have co : Cl w1 (sz + 3) 0 (.bool false) := by
    have := (Cl.new (w := ((w.alloc (.cells #[.string s] 9)).alloc (.cells #[.int .i64 k] 3)).alloc (.cells #[.int .i64 0, .bool false, .int .i32 0, .string ⟨#[]⟩] 23)) (by simp; omega) (.bool false) 4)
    rw [hw1, World.size_alloc, World.size_alloc, World.size_alloc, hsz] at this; exact this
  have a1 := (Fr.refl (fun _ _ => False) w1).alloc (.cells #[.bool false] 4)
  obtain ⟨U, hU⟩ : ∃ U, mk (natText X) = U := ⟨_, rfl⟩
  have hSf : Hid (Calls Tryz.prog 21 #[.func (.func 22) #[] #[.pointer (some ⟨sz + 1, 0, none⟩), .pointer (some ⟨sz, 0, none⟩), .pointer (some ⟨sz + 2, 0, none⟩), .pointer (some ⟨sz + 3, 0, none⟩)]] w1 fun e1 w' =>
      e1 = .returned (.bool true) ∧ Aside (D4 w' (sz + 2) f ng e U ∧ Cl w' (sz + 3) 0 (.bool true) ∧ Fr (fun _ _ => False) w w')) := Lib.hid (by
    have hp := parse1_ok hk (g.new (F1.trans a1)) (sy.new hG (F1.trans a1)) (cb.fr a1 (fun q => q)) (cs.fr a1 (fun q => q)) (cd.fr a1 (fun _ q => q)) (co.fr a1 (fun q => q)) (by omega) hS hX he hf h8
    rw [hU] at hp
    refine (safe_any (P := fun w' => D4 w' (sz + 2) f ng e U ∧ Cl w' (sz + 3) 0 (.bool true) ∧ Fr (fun _ _ => False) w w') 22 _ w1 (enter_parse1 _) (hp.mono ?_)).mono ?_
    · rintro e w' ⟨rfl, k1, k2, k3⟩
      have hnew := Cl.new (w := w1) (by rw [hs1]; omega) (.bool false) 4
      have h4 := hnew.fr k3 (by rw [hs1]; omega)
      exact ⟨rfl, h4.cell, h4.free, k1, k2, (F1.trans a1).trans' k3 (fun _ _ _ k => k) (fun x y hx k => by rw [hsz] at hx; omega)⟩
    · rintro e w' ⟨rfl, w2, ⟨k1, k2, k3⟩, rfl⟩
      have f2 := ((Fr.refl (fun x _ => x = w1.heap.size) w2).setCell w1.heap.size 0 (.bool true) (fun _ => rfl)).setCell w1.heap.size 0 (.bool true) (fun _ => rfl)
      exact ⟨rfl, ⟨k1.fr f2 (fun _ => by rw [hs1]; omega), k2.fr f2 (by rw [hs1]; omega), k3.trans' f2 (fun _ _ _ k => k) (fun x y hx k => by rw [hsz] at hx; rw [hs1] at k; omega)⟩⟩)
  rw [hU]
  clear hk g sy hS F1 a1 cs cb cd co hs1 hX he hf h8 hU
  go_enter Tryz.func9, Tryz.ntmps9
  go_wp2_with fail
  rw [show sz + 1 + 1 + 1 = sz + 3 from rfl, show sz + 1 + 1 = sz + 2 from rfl]
  have HSZ := Aside.mk hsz
  clear hw1 hsz hG
  refine hSf.out.mono ?_
  rintro e1 w2 ⟨rfl, hA⟩
  obtain ⟨d0, d1, d2, d3, d4, d5, d6, d7⟩ := E8.of hA.out.1
  have o0 := hA.out.2.1.cell
  have o1 := hA.out.2.1.free
  clear hSf
  go_wp2_with fail
  refine bodyPost_ret (v := .tuple #[.agg #[.int .i64 f, .bool ng, .int .i32 e, .string (U)], .bool true]) (by simp [results, Tryz.results9, go_sem, d0, d1, d2, d3, o0]) rfl ⟨rfl, ?_⟩
  have hfr := hA.out.2.2
  repeat' (first | exact hfr | refine Fr.setCell ?_ _ _ _ (fun q => by rw [HSZ.out] at q; omega))
set_option maxRecDepth 100000 in
set_option maxHeartbeats 1000000 in
theorem parse_no {w : World} {k : Nat}  {s : ByteArray} (hk : k ≤ 2) (g : Gv w) (sy : SyV w) (hS : SetNo s) :
    Calls Tryz.prog 9 #[.string s, .int .i64 k] w fun e1 w' => e1 = .returned (.tuple #[.agg #[.int .i64 0, .bool false, .int .i32 0, .string ⟨#[]⟩], .bool false]) ∧ Fr (fun _ _ => False) w w' := by
  have hG := g.g.size
  have hm := hmf
  obtain ⟨sz, hsz⟩ : ∃ x, w.heap.size = x := ⟨_, rfl⟩
  obtain ⟨w1, hw1⟩ : ∃ x, (((w.alloc (.cells #[.string s] 9)).alloc (.cells #[.int .i64 k] 3)).alloc (.cells #[.int .i64 0, .bool false, .int .i32 0, .string ⟨#[]⟩] 23)).alloc (.cells #[.bool false] 4) = x := ⟨_, rfl⟩
  have F1 : Fr (fun _ _ => False) w w1 := by rw [← hw1]; exact (((((Fr.refl _ w).alloc _).alloc _).alloc _).alloc _)
  have hs1 : w1.heap.size = sz + 4 := by rw [← hw1, ← hsz]; simp
  have cs : Cl w1 sz 0 (.string s) := by
    rw [← hw1, ← hsz]; exact (Cl.new hG (.string s) 9).fr ((((Fr.refl (fun _ _ => False) _).alloc _).alloc _).alloc _) (fun q => q)
  have cb : Cl w1 (sz + 1) 0 (.int .i64 k) := by
    have := (Cl.new (w := w.alloc (.cells #[.string s] 9)) (by simp; omega) (.int .i64 k) 3).fr (((Fr.refl (fun _ _ => False) _).alloc (.cells #[.int .i64 0, .bool false, .int .i32 0, .string ⟨#[]⟩] 23)).alloc (.cells #[.bool false] 4)) (fun q => q)
    rw [hw1, World.size_alloc, hsz] at this; exact this
  have cd : D4 w1 (sz + 2) 0 false 0 ⟨#[]⟩ := by
    have := (D4.new (w := (w.alloc (.cells #[.string s] 9)).alloc (.cells #[.int .i64 k] 3)) 0 0 false ⟨#[]⟩ 23).fr ((Fr.refl (fun _ _ => False) _).alloc (.cells #[.bool false] 4)) (fun _ q => q)
    rw [hw1, World.size_alloc, World.size_alloc, hsz] at this; exact this
  have co : Cl w1 (sz + 3) 0 (.bool false) := by
    have := (Cl.new (w := ((w.alloc (.cells #[.string s] 9)).alloc (.cells #[.int .i64 k] 3)).alloc (.cells #[.int .i64 0, .bool false, .int .i32 0, .string ⟨#[]⟩] 23)) (by simp; omega) (.bool false) 4)
    rw [hw1, World.size_alloc, World.size_alloc, World.size_alloc, hsz] at this; exact this
  have a1 := (Fr.refl (fun _ _ => False) w1).alloc (.cells #[.bool false] 4)
  have hSf : Hid (Calls Tryz.prog 21 #[.func (.func 22) #[] #[.pointer (some ⟨sz + 1, 0, none⟩), .pointer (some ⟨sz, 0, none⟩), .pointer (some ⟨sz + 2, 0, none⟩), .pointer (some ⟨sz + 3, 0, none⟩)]] w1 fun e1 w' =>
      e1 = .returned (.bool true) ∧ Aside (D4 w' (sz + 2) 0 false 0 ⟨#[]⟩ ∧ Cl w' (sz + 3) 0 (.bool false) ∧ Fr (fun _ _ => False) w w')) := Lib.hid (by
    have hp := parse1_no hk (g.new (F1.trans a1)) (sy.new hG (F1.trans a1)) (cb.fr a1 (fun q => q)) (cs.fr a1 (fun q => q)) (cd.fr a1 (fun _ q => q)) (co.fr a1 (fun q => q)) (by omega) hS
    refine (safe_any (P := fun w' => D4 w' (sz + 2) 0 false 0 ⟨#[]⟩ ∧ Cl w' (sz + 3) 0 (.bool false) ∧ Fr (fun _ _ => False) w w') 22 _ w1 (enter_parse1 _) (hp.mono ?_)).mono ?_
    · rintro e w' ⟨rfl, k3⟩
      have hnew := Cl.new (w := w1) (by rw [hs1]; omega) (.bool false) 4
      have h4 := hnew.fr k3 (fun q => q)
      exact ⟨rfl, h4.cell, h4.free, (cd.fr a1 (fun _ q => q)).fr k3 (fun _ q => q), (co.fr a1 (fun q => q)).fr k3 (fun q => q), (F1.trans a1).trans k3⟩
    · rintro e w' ⟨rfl, w2, ⟨k1, k2, k3⟩, rfl⟩
      have f2 := ((Fr.refl (fun x _ => x = w1.heap.size) w2).setCell w1.heap.size 0 (.bool true) (fun _ => rfl)).setCell w1.heap.size 0 (.bool true) (fun _ => rfl)
      exact ⟨rfl, ⟨k1.fr f2 (fun _ => by rw [hs1]; omega), k2.fr f2 (by rw [hs1]; omega), k3.trans' f2 (fun _ _ _ k => k) (fun x y hx k => by rw [hsz] at hx; rw [hs1] at k; omega)⟩⟩)
  clear hk g sy hS F1 a1 cs cb cd co hs1
  go_enter Tryz.func9, Tryz.ntmps9
  go_wp2_with fail
  rw [show sz + 1 + 1 + 1 = sz + 3 from rfl, show sz + 1 + 1 = sz + 2 from rfl]
  have HSZ := Aside.mk hsz
  clear hw1 hsz hG
  refine hSf.out.mono ?_
  rintro e1 w2 ⟨rfl, hA⟩
  obtain ⟨d0, d1, d2, d3, d4, d5, d6, d7⟩ := E8.of hA.out.1
  have o0 := hA.out.2.1.cell
  have o1 := hA.out.2.1.free
  clear hSf
  go_wp2_with fail
  refine bodyPost_ret (v := .tuple #[.agg #[.int .i64 0, .bool false, .int .i32 0, .string ⟨#[]⟩], .bool false]) (by simp [results, Tryz.results9, go_sem, d0, d1, d2, d3, o0]) rfl ⟨rfl, ?_⟩
  have hfr := hA.out.2.2
  repeat' (first | exact hfr | refine Fr.setCell ?_ _ _ _ (fun q => by rw [HSZ.out] at q; omega))
end Go.Proofs.YtifkpcijheabhaaGreatDoor
namespace Go.Proofs.YtifkpcijheabhaaGreatDoor
open Go.RowKit

/-- What stands in a text of a number: digits, perhaps a point among them, perhaps an exponent behind. -/
def ManR (m : List UInt8) (ev e : Int) (s : ByteArray) (ok : Bool) : Prop := ∃ A B : List UInt8, (((46 : UInt8) ∉ m ∧ A = m ∧ B = []) ∨ (m = A ++ 46 :: B ∧ (46 : UInt8) ∉ A)) ∧
  ((ok = true ∧ Digs (A ++ B) ∧ A ++ B ≠ [] ∧ e = ev - B.length ∧ s = mk (natText (numOf (A ++ B)))) ∨ (ok = false ∧ ¬ (Digs (A ++ B) ∧ A ++ B ≠ [])))
def FinR (u : List UInt8) (e : Int) (s : ByteArray) (ok : Bool) : Prop :=
  ((101 : UInt8) ∉ u ∧ ManR u 0 e s ok) ∨ (∃ m R, (101 : UInt8) ∉ m ∧ u = m ++ 101 :: R ∧
    ((ok = false ∧ ¬ ((expR R).2 ≠ [] ∧ Digs (expR R).2)) ∨ ((expR R).2 ≠ [] ∧ Digs (expR R).2 ∧ numOf (expR R).2 ≤ 9999 ∧ ManR m (expV R) e s ok)))
/-- What the reference says of a text. -/
def SPR (l : List UInt8) (f : Int) (ng : Bool) (e : Int) (s : ByteArray) (ok : Bool) : Prop :=
  (∀ x ∈ l, x.toNat < 128) ∧ ng = (sgnR l).1 ∧
   ((∃ R, Lib.toLowerA (sgnR l).2 = 110 :: 97 :: 110 :: R ∧ R.length ≤ 15 ∧ Lib.hasPrefix R [115, 110, 97, 110] = false ∧ f = 3 ∧ e = 0 ∧ s = ⟨#[48]⟩ ∧ (ok = true ↔ Digs R))
   ∨ (∃ R, Lib.toLowerA (sgnR l).2 = 115 :: 110 :: 97 :: 110 :: R ∧ R.length ≤ 15 ∧ f = 2 ∧ e = 0 ∧ s = ⟨#[48]⟩ ∧ (ok = true ↔ Digs R))
   ∨ ((Lib.toLowerA (sgnR l).2 = [105, 110, 102] ∨ Lib.toLowerA (sgnR l).2 = [105, 110, 102, 105, 110, 105, 116, 121]) ∧ f = 1 ∧ e = 0 ∧ s = ⟨#[48]⟩ ∧ ok = true)
   ∨ (Lib.hasPrefix (Lib.toLowerA (sgnR l).2) [110, 97, 110] = false ∧ Lib.hasPrefix (Lib.toLowerA (sgnR l).2) [115, 110, 97, 110] = false ∧ Lib.toLowerA (sgnR l).2 ≠ [105, 110, 102] ∧ Lib.toLowerA (sgnR l).2 ≠ [105, 110, 102, 105, 110, 105, 116, 121] ∧ f = 0 ∧ FinR (Lib.toLowerA (sgnR l).2) e s ok))

theorem hasP1 {u : List UInt8} {c : UInt8} (h : Lib.hasPrefix u [c] = true) : ∃ t, u = c :: t := by
  cases u with
  | nil => simp [Lib.hasPrefix] at h
  | cons x t =>
    simp [Lib.hasPrefix, List.isPrefixOf] at h
    exact ⟨t, by rw [h]⟩
/-- A sign is no digit. -/
theorem man_sign {c : UInt8} {t m : List UInt8} {ev e : Int} {s : ByteArray} {ok : Bool} (hm : m = c :: t) (hc : c.toNat < 46) (h : ManR m ev e s ok) : ok = false := by
  obtain ⟨A, B, hAB, hk⟩ := h
  rcases hk with ⟨_, hd, _, _, _⟩ | ⟨h, _⟩
  · exfalso
    have hA : ∃ A', A = c :: A' := by
      rcases hAB with ⟨_, h2, _⟩ | ⟨h2, _⟩
      · exact ⟨t, by rw [h2, hm]⟩
      · rw [hm] at h2
        cases A with
        | nil =>
          simp at h2
          have : (46 : UInt8).toNat = 46 := rfl
          rw [h2.1] at hc; omega
        | cons x A' => simp at h2; exact ⟨A', by rw [h2.1]⟩
    obtain ⟨A', rfl⟩ := hA
    have := hd c (List.mem_append_left _ (List.mem_cons_self ..))
    omega
  · exact h
theorem fin_sign {c : UInt8} {t u : List UInt8} {e : Int} {s : ByteArray} {ok : Bool} (hu : u = c :: t) (hc : c.toNat < 46) (h : FinR u e s ok) : ok = false := by
  rcases h with ⟨_, h⟩ | ⟨m, R, _, h2, h3⟩
  · exact man_sign hu hc h
  · rcases h3 with ⟨h4, _⟩ | ⟨_, _, _, h4⟩
    · exact h4
    · rw [hu] at h2
      cases m with
      | nil =>
        simp at h2
        have : (101 : UInt8).toNat = 101 := rfl
        rw [h2.1] at hc; omega
      | cons x m' =>
        simp at h2
        exact man_sign (m := x :: m') (by rw [h2.1]) hc h4
theorem bl_digs3 {l : List UInt8} (h : Digs l) (hl : l.length ≤ 300) : bl (numOf l) ≤ 1100 := by
  have h1 := numOf_lt h
  have key : ∀ m, l.length ≤ 3 * m → 10 ^ l.length ≤ (2 ^ 10) ^ m := fun m hm => Nat.le_trans (Nat.pow_le_pow_right (by decide) hm) (by rw [Nat.pow_mul]; exact Nat.pow_le_pow_left (by decide) m)
  have k2 : ∀ m k, 10 * m ≤ k → (2 ^ 10) ^ m ≤ 2 ^ k := fun m k h => by rw [← Nat.pow_mul]; exact Nat.pow_le_pow_right (by decide) h
  exact (lt_two_iff _ 1100).1 (Nat.lt_of_lt_of_le (Nat.lt_of_lt_of_le h1 (key 100 hl)) (k2 100 1100 (by decide)))
theorem expV_bd {R : List UInt8} (h : numOf (expR R).2 ≤ 9999) : -9999 ≤ expV R ∧ expV R ≤ 9999 := by
  unfold expV
  split <;> omega
theorem bl_zero0 : bl 0 ≤ 1100 := bl_digs3 (l := []) (fun x hx => by simp at hx) (by simp)
theorem sm_zero0 : Sm 0 := sm_pow (n := 1) (by decide) (by decide)
theorem nought48 : (⟨#[48]⟩ : ByteArray) = mk (natText 0) := by rw [natText_zero]; rfl
theorem nan_ok {l R : List UInt8} (h0 : R ≠ []) (hl : R.length ≤ 15) (hd : Digs R) : Lib.parseUintB 64 R = .ok (numOf R) := by
  refine uintB_ok (by decide) h0 hd ?_
  have := numOf_lt hd
  have h2 : 10 ^ R.length ≤ 10 ^ 15 := Nat.pow_le_pow_right (by decide) hl
  have h3 : (10 : Nat) ^ 15 ≤ 2 ^ 64 - 1 := by decide
  omega
end Go.Proofs.YtifkpcijheabhaaGreatDoor
