/- Int.scan, setFromScanner and SetString at decimal digits, and at nothing. Int.Set and Abs of another number; BigInt's wrappers. Slices of bytes that are appended to. -/
import Derived.Test.YtgilnnipephfjaaGreatDoorM13Scan3
import Derived.Test.YtgilnnipephfjaaGreatDoorM12Big2
import Derived.Test.YtgilnnipephfjaaGreatDoorM11Cmp
import Derived.Deep.AppendSrc
import Derived.Deep.Upon
import Derived.OwnWalk
import Derived.Laws.AppendOwn
set_option linter.unusedSimpArgs false
set_option linter.unusedVariables false
namespace Go.Proofs.YtgilnnipephfjaaGreatDoor
open Go.RowKit

theorem IA.madeS {S : Nat → Nat → Prop} {w w1 : World} {b o : Nat} {neg : Bool} {a : Option Addr} {c X : Nat} (h : IA w b o neg a c X) {a' : Option Addr} {c' Y : Nat} (neg' : Bool) (hn : Nt w1 a' c' Y) (f : Fr S w w1) (h0 : ¬ S b o) (h1 : ¬ S b (o + 1)) (ho : Out w a c a' c') :
    IA ((w1.setCell ⟨b, o + 1, none⟩ (.slice a' (nlen Y) c')).setCell ⟨b, o, none⟩ (.bool neg')) b o neg' a' c' Y ∧
    Fr (fun b' o' => S b' o' ∨ (b' = b ∧ (o' = o ∨ o' = o + 1))) w ((w1.setCell ⟨b, o + 1, none⟩ (.slice a' (nlen Y) c')).setCell ⟨b, o, none⟩ (.bool neg')) := by
  have g1 : w1.cell? ⟨b, o, none⟩ = some (.bool neg) := (f.cell b o h.blk.lt h0).trans h.neg
  have g2 : w1.cell? ⟨b, o + 1, none⟩ = some (.slice a (nlen X) c) := (f.cell b (o + 1) h.blk.lt h1).trans h.abs
  have hap : ¬ foot a' c' b o ∧ ¬ foot a' c' b (o + 1) := by
    rcases ho with ⟨rfl, rfl⟩ | ⟨b', o', rfl, k⟩
    · exact h.apart h.nt.reg
    · have := h.blk.lt
      constructor <;> (rw [foot_some]; omega)
  have g := (((Fr.refl (fun b' o' => b' = b ∧ (o' = o ∨ o' = o + 1)) w1).setCell b (o + 1) (.slice a' (nlen Y) c') (fun _ => ⟨rfl, .inr rfl⟩)).setCell b o (.bool neg') (fun _ => ⟨rfl, .inl rfl⟩))
  refine ⟨⟨?_, ?_, g.nt hn ?_, g.blk (f.blk h.blk)⟩, ?_⟩
  · exact World.cell?_setCell_same _ _ _ ((World.cell?_setCell_other _ _ _ _ (by simp)).trans g1)
  · rw [World.cell?_setCell_other _ _ _ _ (by simp)]
    exact World.cell?_setCell_same _ _ _ g2
  · rintro b' o' k ⟨rfl, rfl | rfl⟩
    · exact hap.1 k
    · exact hap.2 k
  · exact f.trans' g (fun _ _ _ k => .inl k) (fun _ _ _ k => .inr k)
theorem IA.openS {S : Nat → Nat → Prop} {w w1 : World} {b o : Nat} {neg : Bool} {a : Option Addr} {c X : Nat} (h : IA w b o neg a c X) (f : Fr S w w1) (h0 : ¬ S b o) (h1 : ¬ S b (o + 1)) :
    w1.cell? ⟨b, o, none⟩ = some (.bool neg) ∧ w1.cell? ⟨b, o + 1, none⟩ = some (.slice a (nlen X) c) ∧ w1.frozen? ⟨b, o, none⟩ = false ∧ w1.frozen? ⟨b, o + 1, none⟩ = false :=
  ⟨(f.cell b o h.blk.lt h0).trans h.neg, (f.cell b (o + 1) h.blk.lt h1).trans h.abs, (f.blk h.blk).free _, (f.blk h.blk).free _⟩

theorem Rd.fr {S : Nat → Nat → Prop} {w w' : World} {b : Nat} {s : ByteArray} {i : Nat} (h : Rd w b s i) (f : Fr S w w') (hs : ∀ o, ¬ S b o) : Rd w' b s i := by
  obtain ⟨q, hq⟩ := h.rune
  have hl := h.blk.lt
  exact ⟨(f.cell b 0 hl (hs _)).trans h.str, (f.cell b 1 hl (hs _)).trans h.pos, ⟨q, (f.cell b 2 hl (hs _)).trans hq⟩, f.blk h.blk⟩
set_option maxRecDepth 100000 in
set_option maxHeartbeats 1000000 in
theorem iscan_any {b o rb : Nat} {neg : Bool} {a : Option Addr} {c X : Nat} {s : ByteArray} {ae : Addr} {w : World} (hG : NG ≤ w.heap.size) (h : IA w b o neg a c X) (hr : Rd w rb s 0) (hd : Digs s.data.toList) (h0 : 0 < s.size) (hs : s.size ≤ 1000)
    (hE : w.cell? ⟨1, 0, none⟩ = some (.iface 144 (.pointer (some ae)))) (hrb : rb ≠ b) (hap : ∀ o', ¬ foot a c rb o') :
    Calls Tryz.prog 179 #[.pointer (some ⟨b, o, none⟩), .iface 175 (.pointer (some ⟨rb, 0, none⟩)), .int .i64 10] w fun e w' => ∃ a' c', e = .returned (.tuple #[.pointer (some ⟨b, o, none⟩), .int .i64 10, .nilIface]) ∧
      IA w' b o false a' c' (numOf s.data.toList) ∧ Rd w' rb s s.size ∧ Fr (fun b' o' => b' = rb ∨ ifoot b o a c b' o') w w' ∧ Out w a c a' c' := by
  have hS := Lib.hid (scanSign_digit hr h0 (by omega) (hd.get (show 0 < s.data.toList.length from h0)).1)
  have hrl := hr.blk.lt
  have HI := Aside.mk h
  have HE := Aside.mk hE
  have HD := Aside.mk hd
  have HAP := Aside.mk hap
  have hG1 := hr.blk.1
  clear h hr hE hd hap
  go_enter Tryz.func179, Tryz.ntmps179
  go_wp2_with fail
  refine hS.out.mono ?_
  rintro e w1 ⟨rfl, r1, f1⟩
  have nS0 : ¬ b = rb := fun k => hrb k.symm
  obtain ⟨k1, k2, k3, k4⟩ := HI.out.openS f1 nS0 nS0
  have hReg : Reg w1 a c := f1.reg HI.out.nt.reg (by rintro b' o' k rfl; exact HAP.out _ k)
  have hSc := Lib.hid (scan_any (zl := nlen X) (Nat.le_trans hG f1.size) hReg HI.out.nt.len r1 HD.out h0 hs ((f1.cell _ _ (Nat.lt_of_lt_of_le (by decide : 1 < NG) hG) (fun k => absurd hG1 (by rw [← k]; decide))).trans HE.out) HAP.out)
  have F1 := Aside.mk f1
  clear r1 f1 hS hReg
  go_wp2_with fail
  refine hSc.out.mono ?_
  rintro e w2 ⟨a2, c2, rfl, S⟩
  have f2 : Fr (fun b' o' => b' = rb ∨ foot a c b' o') w w2 := F1.out.trans' S.fr (fun _ _ _ k => .inl k) (fun _ _ _ k => k)
  have nS1 : ¬ (b = rb ∨ foot a c b o) := by rintro (k | k); exact nS0 k; exact (HI.out.apart HI.out.nt.reg).1 k
  have nS2 : ¬ (b = rb ∨ foot a c b (o + 1)) := by rintro (k | k); exact nS0 k; exact (HI.out.apart HI.out.nt.reg).2 k
  have ho : Out w a c a2 c2 := by
    rcases S.out with k | ⟨b', o', k, hn⟩
    · exact .inl k
    · exact .inr ⟨b', o', k, Nat.le_trans F1.out.size hn⟩
  have M := Aside.mk (HI.out.madeS false S.nt f2 nS1 nS2 ho)
  have R : Aside (Rd ((w2.setCell ⟨b, o + 1, none⟩ (.slice a2 (nlen (numOf s.data.toList)) c2)).setCell ⟨b, o, none⟩ (.bool false)) rb s s.size) :=
    ⟨S.rd.fr (((Fr.refl (fun b' _ => b' = b) w2).setCell b (o + 1) _ (fun _ => rfl)).setCell b o _ (fun _ => rfl)) (fun _ => hrb)⟩
  obtain ⟨j1, j2, j3, j4⟩ := HI.out.openS f2 nS1 nS2
  clear S f2 k1 k2 k3 k4 hSc
  go_wp2_with fail
  all_goals go_ret3
  all_goals exact ⟨a2, c2, rfl, M.out.1, R.out, M.out.2.mono (by rintro b' o' _ ((k | k) | k); exact .inl k; exact .inr (.inr k); exact .inr (.inl k)), ho⟩

theorem run_neqE (a : Addr) (w : World) :
    (binOp .neq 61 (.iface 144 (.pointer (some a))) (.iface 144 (.pointer (some a)))).run Tryz.prog w = .ok (.bool false) w := by
  obtain ⟨i, h2, h4⟩ := Option.map_eq_some_iff.1 infoP
  obtain ⟨j, h3⟩ := Option.isSome_iff_exists.1 infoS
  simp only [binOp]
  simp [Op.equal, Op.maxDepth, run_equalIn_iface_ptr_same w 9998 a Tryz.underlying61 Tryz.underlying144 h2 h4 h3]

set_option maxRecDepth 100000 in
set_option maxHeartbeats 1000000 in
theorem setFromScanner_any {b o rb : Nat} {neg : Bool} {a : Option Addr} {c X : Nat} {s : ByteArray} {ae : Addr} {w : World} (hG : NG ≤ w.heap.size) (h : IA w b o neg a c X) (hr : Rd w rb s 0) (hd : Digs s.data.toList) (h0 : 0 < s.size) (hs : s.size ≤ 1000)
    (hE : w.cell? ⟨1, 0, none⟩ = some (.iface 144 (.pointer (some ae)))) (hrb : rb ≠ b) (hap : ∀ o', ¬ foot a c rb o') :
    Calls Tryz.prog 134 #[.pointer (some ⟨b, o, none⟩), .iface 175 (.pointer (some ⟨rb, 0, none⟩)), .int .i64 10] w fun e w' => ∃ a' c', e = .returned (.tuple #[.pointer (some ⟨b, o, none⟩), .bool true]) ∧
      IA w' b o false a' c' (numOf s.data.toList) ∧ Fr (fun b' o' => b' = rb ∨ ifoot b o a c b' o') w w' ∧ Out w a c a' c' := by
  have hS := Lib.hid (iscan_any hG h hr hd h0 hs hE hrb hap)
  have hlo : ∀ b' o', (b' = rb ∨ ifoot b o a c b' o') → NG ≤ b' := by
    rintro b' o' (rfl | ⟨rfl, _⟩ | k)
    · exact hr.blk.1
    · exact h.blk.1
    · exact h.nt.reg.lo _ _ k
  have HLO := Aside.mk hlo
  have HE := Aside.mk hE
  have hrG := hr.blk.1
  have n1 := nilA_read
  have n2 := meth_read
  have n3 := run_neqE
  have hrl := hr.blk.lt
  have hbl := h.blk.lt
  have HAP := Aside.mk hap
  clear h hr hd hE hlo h0 hap
  go_enter Tryz.func134, Tryz.ntmps134
  go_wp2_with fail
  refine hS.out.mono ?_
  rintro e w1 ⟨a1, c1, rfl, s1, s2, s3, s4⟩
  have hE1 := (s3.cell _ 0 (Nat.lt_of_lt_of_le (by decide : 1 < NG) hG) (fun k => absurd (HLO.out _ _ k) (by decide))).trans HE.out
  have hR := Lib.hid (readByte_eof s2 (by omega) hE1 (by intro k; rw [k] at hrG; exact absurd hrG (by decide)))
  have S1 := Aside.mk s1
  have S3 := Aside.mk s3
  have S4 := Aside.mk s4
  have HE1 := Aside.mk hE1
  clear s1 s2 s3 s4 hS hE1
  go_wp2_with fail
  refine hR.out.mono ?_
  rintro e w2 ⟨rfl, r1, r2⟩
  have hE2 := (r2.cell 1 0 (Nat.lt_of_lt_of_le (Nat.lt_of_lt_of_le (by decide : 1 < NG) hG) S3.out.size) (by intro k; rw [← k] at hrG; exact absurd hrG (by decide))).trans HE1.out
  have hap1 : ∀ b' o', ifoot b o a1 c1 b' o' → ¬ b' = rb := by
    rintro b' o' (⟨rfl, _⟩ | k) rfl
    · exact hrb rfl
    · rcases S4.out with ⟨rfl, rfl⟩ | ⟨b2, o2, rfl, h2⟩
      · exact HAP.out _ k
      · rw [foot_some] at k; omega
  have K1 := Aside.mk (S1.out.fr r2 hap1)
  have K2 := Aside.mk (S3.out.trans' r2 (U := fun b' o' => b' = rb ∨ ifoot b o a c b' o') (fun _ _ _ k => k) (fun _ _ _ k => .inl k))
  clear r1 r2 hap1
  go_wp2_with fail
  go_ret2
  exact ⟨a1, c1, rfl, K1.out, K2.out, S4.out⟩

/-- What a call has read of package-level variables: io.EOF. -/
def EofV (w : World) : Prop := ∃ ae : Addr, w.cell? ⟨1, 0, none⟩ = some (.iface 144 (.pointer (some ae)))
set_option maxRecDepth 100000 in
set_option maxHeartbeats 1000000 in
theorem iSetString_any {b o : Nat} {neg : Bool} {a : Option Addr} {c X : Nat} {s : ByteArray} {w : World} (hG : NG ≤ w.heap.size) (h : IA w b o neg a c X) (hd : Digs s.data.toList) (h0 : 0 < s.size) (hs : s.size ≤ 1000) (hE : EofV w) :
    Calls Tryz.prog 93 #[.pointer (some ⟨b, o, none⟩), .string s, .int .i64 10] w fun e w' => ∃ a' c', e = .returned (.tuple #[.pointer (some ⟨b, o, none⟩), .bool true]) ∧
      IA w' b o false a' c' (numOf s.data.toList) ∧ Fr (ifoot b o a c) w w' ∧ Out w a c a' c' := by
  obtain ⟨ae, hE⟩ := hE
  have hbl := h.blk.lt
  have HI := Aside.mk h
  have HE := Aside.mk hE
  have HD := Aside.mk hd
  clear h hd hE
  go_enter Tryz.func93, Tryz.ntmps93
  go_wp2_with fail
  refine (newReader_any s w hG).mono ?_
  rintro e w1 ⟨rfl, r1, f1, hlt⟩
  have hS := Lib.hid (setFromScanner_any (Nat.le_trans hG f1.size) (HI.out.fr f1 (fun _ _ _ k => k)) r1 HD.out h0 hs ((f1.cell _ _ (Nat.lt_of_lt_of_le (by decide : 1 < NG) hG) (fun k => k)).trans HE.out) (by omega)
    (fun o' k => by have := HI.out.nt.reg.lt _ _ k; omega))
  have F1 := Aside.mk f1
  clear r1 f1
  go_wp2_with fail
  refine hS.out.mono ?_
  rintro e w2 ⟨a2, c2, rfl, s1, s2, s3⟩
  have S1 := Aside.mk s1
  have S2 := Aside.mk (F1.out.trans' s2 (U := ifoot b o a c) (fun _ _ _ k => k.elim) (fun b' o' hl k => by rcases k with k | k; omega; exact k))
  have S3 : Aside (Out w a c a2 c2) := ⟨by
    rcases s3 with k | ⟨b', o', k, hn⟩
    · exact .inl k
    · exact .inr ⟨b', o', k, Nat.le_trans F1.out.size hn⟩⟩
  clear s1 s2 s3 hS
  go_wp2_with fail
  go_ret2
  exact ⟨a2, c2, rfl, S1.out, S2.out, S3.out⟩

set_option maxRecDepth 100000 in
set_option maxHeartbeats 1000000 in
theorem iSetString_empty {b o : Nat} {s : ByteArray} {w : World} (hG : NG ≤ w.heap.size) (h0 : s.size = 0) (hE : EofV w) :
    Calls Tryz.prog 93 #[.pointer (some ⟨b, o, none⟩), .string s, .int .i64 10] w fun e w' => e = .returned (.tuple #[.pointer none, .bool false]) ∧ Fr (fun _ _ => False) w w' := by
  obtain ⟨ae, hE⟩ := hE
  have HE := Aside.mk hE
  have H0 := Aside.mk h0
  clear hE h0
  have key : ∀ (w1 : World) (rb : Nat), w.heap.size ≤ rb → Rd w1 rb s 0 → w1.cell? ⟨1, 0, none⟩ = some (.iface 144 (.pointer (some ae))) → Calls Tryz.prog 134 #[.pointer (some ⟨b, o, none⟩), .iface 175 (.pointer (some ⟨rb, 0, none⟩)), .int .i64 10] w1 fun e w' =>
      e = .returned (.tuple #[.pointer none, .bool false]) ∧ Fr (fun b' _ => b' = rb) w1 w' := by
    intro w1 rb hrb r1 hE1
    have hS := Lib.hid (scanSign_eof r1 H0.out hE1 (by intro k; rw [k] at hrb; exact absurd (Nat.le_trans hG hrb) (by decide)))
    have hI : Hid (Calls Tryz.prog 179 #[.pointer (some ⟨b, o, none⟩), .iface 175 (.pointer (some ⟨rb, 0, none⟩)), .int .i64 10] w1 fun e w' =>
      e = .returned (.tuple #[.pointer none, .int .i64 0, .iface 144 (.pointer (some ae))]) ∧ Aside (Fr (fun b' _ => b' = rb) w1 w')) := Lib.hid (by
      clear hrb r1 hE1
      go_enter Tryz.func179, Tryz.ntmps179
      go_wp2_with fail
      refine hS.out.mono ?_
      rintro e w2 ⟨rfl, r1, r2⟩
      have R2 := Aside.mk r2
      clear r1 r2 hS
      go_wp2_with fail
      go_ret3
      exact ⟨rfl, R2⟩)
    clear hrb r1 hE1 hS
    go_enter Tryz.func134, Tryz.ntmps134
    go_wp2_with fail
    refine hI.out.mono ?_
    rintro e w2 ⟨rfl, R2⟩
    go_wp2_with fail
    go_ret2
    exact ⟨rfl, R2.out⟩
  have KEY := Lib.hid key
  clear key
  go_enter Tryz.func93, Tryz.ntmps93
  go_wp2_with fail
  refine (newReader_any s w hG).mono ?_
  rintro e w1 ⟨rfl, r1, f1, hlt⟩
  have hS := Lib.hid (KEY.out w1 w.heap.size (Nat.le_refl _) r1 ((f1.cell _ _ (Nat.lt_of_lt_of_le (by decide : 1 < NG) hG) (fun k => k)).trans HE.out))
  have F1 := Aside.mk f1
  clear r1 f1 KEY
  go_wp2_with fail
  refine hS.out.mono ?_
  rintro e w2 ⟨rfl, s2⟩
  have S2 := Aside.mk (F1.out.trans' s2 (U := fun _ _ => False) (fun _ _ _ k => k.elim) (fun b' o' hl k => by omega))
  clear s2 hS
  go_wp2_with fail
  go_ret2
  exact ⟨rfl, S2.out⟩
end Go.Proofs.YtgilnnipephfjaaGreatDoor
namespace Go.Proofs.YtgilnnipephfjaaGreatDoor
open Go.RowKit

set_option maxRecDepth 100000 in
set_option maxHeartbeats 1000000 in
theorem iSet_other {zb zo xb xo : Nat} {zn xn : Bool} {a xa : Option Addr} {c xc Z X : Nat} {w : World} (hG : NG ≤ w.heap.size) (hz : IA w zb zo zn a c Z) (hx : IA w xb xo xn xa xc X)
    (hap : zb ≠ xb ∨ zo + 2 ≤ xo ∨ xo + 2 ≤ zo) (hn : nlen X < 900000) :
    Calls Tryz.prog 142 #[.pointer (some ⟨zb, zo, none⟩), .pointer (some ⟨xb, xo, none⟩)] w fun e w' => ∃ a' c', e = .returned (.pointer (some ⟨zb, zo, none⟩)) ∧ IA w' zb zo xn a' c' X ∧ Fr (ifoot zb zo a c) w w' ∧ Out w a c a' c' := by
  have hza := hz.abs
  have hxa := hx.abs
  have hp := run_neqI_other (a := ⟨zb, zo, none⟩) (x := ⟨xb, xo, none⟩) hz.blk hx.blk (by simp only [ne_eq, Addr.mk.injEq, and_true]; omega)
  have HC : Hid (∀ d0, Calls Tryz.prog 184 #[.slice a (nlen Z) c, .slice xa (nlen X) xc] (w.drewN d0) fun e w1 => ∃ (a' : Option Addr) (c' : Nat) (u : Value), e = .returned (.slice a' (nlen X) c') ∧ w1.cell? ⟨zb, zo + 1, none⟩ = some u ∧
      w1.frozen? ⟨zb, zo + 1, none⟩ = false ∧ Aside (Nt w1 a' c' X ∧ Fr (foot a c) w w1 ∧ Out w a c a' c')) := Lib.hid (fun d0 => by
    refine (set_any (w := w.drewN d0) hG (hz.nt.reg.drewN d0) (hx.nt.drewN d0).words hn).mono ?_
    rintro e w1 ⟨a', c', rfl, h1, h2, h3, h4, h5⟩
    have f := ((Fr.refl (foot a c) w).drewN d0).trans h4
    obtain ⟨k1, k2, k3, k4⟩ := hz.open hz.nt.reg f
    exact ⟨a', c', _, rfl, k2, k4, ⟨⟨h2, h1, h3⟩, f, h5⟩⟩)
  have HZ := Aside.mk hz
  have HX := Aside.mk hx
  clear hz hx
  go_enter Tryz.func142, Tryz.ntmps142
  go_wp2_with fail
  go_region_with (go_at_call 184; go_must (refine (HC.out _).mono ?_; rintro e w1 ⟨a', c', u, rfl, hu1, hf1, hA⟩))
  all_goals
    obtain ⟨k1, k2, k3, k4⟩ := HZ.out.open HZ.out.nt.reg hA.out.2.1
    have hxn1 : (w1.setCell ⟨zb, zo + 1, none⟩ (.slice a' (nlen X) c')).cell? ⟨xb, xo, none⟩ = some (.bool xn) := by
      rw [World.cell?_setCell_other _ _ _ _ (by simp only [ne_eq, Addr.mk.injEq, and_true]; omega)]
      exact (hA.out.2.1.cell xb xo HX.out.blk.lt (HX.out.apart HZ.out.nt.reg).1).trans HX.out.neg
    have M := Aside.mk (HZ.out.made xn hA.out.1 hA.out.2.1 hA.out.2.2)
    clear hza hxa hu1 hf1
    go_wp2_with fail
    go_ret
    exact ⟨a', c', rfl, M.out.1, M.out.2, hA.out.2.2⟩
end Go.Proofs.YtgilnnipephfjaaGreatDoor
namespace Go.Proofs.YtgilnnipephfjaaGreatDoor
open Go.RowKit

/-- Bytes as cells. -/
def bv (l : List UInt8) : List Value := l.map fun c => Value.int .u8 ((c.toNat : Nat) : Int)
theorem bv_length (l : List UInt8) : (bv l).length = l.length := by simp [bv]
theorem bv_get (l : List UInt8) (i : Nat) (h : i < l.length) : (bv l)[i]'(by rw [bv_length]; exact h) = .int .u8 ((l[i].toNat : Nat) : Int) := by simp [bv]
theorem bv_one (l : List UInt8) : ∀ u ∈ bv l, u.oneCell' = true := by
  intro u hu
  obtain ⟨c, _, rfl⟩ := List.mem_map.1 hu
  rfl
theorem bv_append (l m : List UInt8) : bv (l ++ m) = bv l ++ bv m := by simp [bv]

theorem Fr_setCells (b : Nat) : ∀ (vs : List Value) (o : Nat) (w : World), Fr (fun b' o' => b' = b ∧ o ≤ o' ∧ o' < o + vs.length) w (w.setCells b o vs)
  | [], _, w => Fr.refl _ w
  | v :: r, o, w => by
    have h := Fr_setCells b r (o + 1) (w.setCell ⟨b, o, none⟩ v)
    have h0 := (Fr.refl (fun b' o' => b' = b ∧ o ≤ o' ∧ o' < o + (v :: r).length) w).setCell b o v (fun _ => ⟨rfl, by omega, by simp⟩)
    exact h0.trans' h (fun _ _ _ k => k) (fun b' o' _ k => ⟨k.1, by omega, by have := k.2.2; simp; omega⟩)
theorem OwnB.setCells {w : World} {b o c : Nat} (h : OwnB w b o c) (p : Nat) (l : List UInt8) (hp : p + l.length ≤ c) :
    OwnB (w.setCells b (o + p) (bv l)) b o c ∧ (∀ i (hi : i < l.length), (w.setCells b (o + p) (bv l)).cell? ⟨b, o + (p + i), none⟩ = some (.int .u8 ((l[i].toNat : Nat) : Int))) := by
  have hin : ∀ j, j < (bv l).length → (w.cell? ⟨b, o + p + j, none⟩).isSome = true := by
    intro j hj
    rw [bv_length] at hj
    obtain ⟨x, _, hx⟩ := h.cell (p + j) (by omega)
    rw [Nat.add_assoc, hx]; rfl
  have hget : ∀ i (hi : i < l.length), (w.setCells b (o + p) (bv l)).cell? ⟨b, o + (p + i), none⟩ = some (.int .u8 ((l[i].toNat : Nat) : Int)) := by
    intro i hi
    have := World.cell?_setCells_in b (bv l) (o + p) w hin i (by rw [bv_length]; exact hi)
    rw [bv_get l i hi, Nat.add_assoc] at this
    exact this
  refine ⟨⟨fun i hi => ?_, (Fr_setCells b (bv l) (o + p) w).blk h.kind⟩, hget⟩
  by_cases k : p ≤ i ∧ i < p + l.length
  · obtain ⟨j, rfl⟩ : ∃ j, i = p + j := ⟨i - p, by omega⟩
    have := UInt8.toNat_lt l[j]
    exact ⟨_, this, hget j (by omega)⟩
  · obtain ⟨x, hx, hc⟩ := h.cell i hi
    refine ⟨x, hx, ?_⟩
    rw [World.cell?_setCells_out b (bv l) (o + p) w _ (fun _ _ => by rw [bv_length]; show o + i < o + p ∨ o + p + l.length ≤ o + i; omega)]
    exact hc

/-- A slice that holds the bytes l, in an array whose cells may be written. -/
structure Bf (w : World) (a : Option Addr) (n c : Nat) (l : List UInt8) : Prop where
  len : l.length = n
  le : n ≤ c
  reg : (a = none ∧ c = 0) ∨ ∃ b o, a = some ⟨b, o, none⟩ ∧ OwnB w b o c ∧ Bs w b o l
theorem Bf.nil (w : World) : Bf w none 0 0 [] := ⟨rfl, Nat.le_refl _, .inl ⟨rfl, rfl⟩⟩
theorem Bf.fr {S : Nat → Nat → Prop} {w w' : World} {a : Option Addr} {n c : Nat} {l : List UInt8} (h : Bf w a n c l) (f : Fr S w w') (hs : ∀ b o, foot a c b o → ¬ S b o) : Bf w' a n c l := by
  refine ⟨h.len, h.le, ?_⟩
  rcases h.reg with k | ⟨b, o, rfl, ho, hb⟩
  · exact .inl k
  · have hl := h.len
    have hle := h.le
    exact .inr ⟨b, o, rfl, ho.fr f (fun i hi => hs _ _ ⟨b, o, rfl, rfl, by omega, by omega⟩), hb.fr f ho.kind.lt (fun i hi => hs _ _ ⟨b, o, rfl, rfl, by omega, by omega⟩)⟩
theorem Bf.drewN {w : World} {a : Option Addr} {n c : Nat} {l : List UInt8} (h : Bf w a n c l) (d : Nat) : Bf (w.drewN d) a n c l := h.fr ((Fr.refl (fun _ _ => False) w).drewN d) (fun _ _ _ k => k)
/-- The bytes are those of a source. -/
theorem Src.bytes {w : World} {b o n c : Nat} {l : List UInt8} (hl : l.length = n) (h : Bs w b o l) : Src Tryz.prog 1 38 (.slice (some ⟨b, o, none⟩) n c) n (bv l) w :=
  Src.ofSlice w Tryz.underlying38 ⟨b, o, none⟩ n c (bv l) (by rw [bv_length, hl, Nat.mul_one]) (fun j u hu => by
    obtain ⟨hj, rfl⟩ := List.getElem?_eq_some_iff.1 hu
    rw [bv_length] at hj
    rw [bv_get l j hj, Addr.add_lit]
    exact h j hj) (bv_one l)
theorem Src.str (s : ByteArray) (w : World) : Src Tryz.prog 1 9 (.string s) s.size (bv s.data.toList) w := Src.ofString w Tryz.underlying9 s
theorem zeroCells_get (z : Value) (k i : Nat) (h : i < k) : (Builtin.zeroCells #[z] k)[i]? = some z := by
  simp [Builtin.zeroCells, h, Nat.mod_one]
theorem grown_bytes (w : World) (hG : NG ≤ w.heap.size) (l : List UInt8) (gc : Nat) (hgc : l.length ≤ gc) (t : TypeId) :
    OwnB (w.alloc (.cells ((bv l).toArray ++ Builtin.zeroCells #[.int .u8 0] (gc - l.length)) t)) w.heap.size 0 gc ∧ Bs (w.alloc (.cells ((bv l).toArray ++ Builtin.zeroCells #[.int .u8 0] (gc - l.length)) t)) w.heap.size 0 l := by
  have hb : Bs (w.alloc (.cells ((bv l).toArray ++ Builtin.zeroCells #[.int .u8 0] (gc - l.length)) t)) w.heap.size 0 l := by
    intro i hi
    rw [Nat.zero_add, World.cell?_alloc_new, Array.getElem?_append_left (by simp [bv_length]; exact hi)]
    simp [bv, hi]
  refine ⟨⟨fun i hi => ?_, ⟨hG, t, kind_alloc_new _ _ _ _⟩⟩, hb⟩
  by_cases h : i < l.length
  · exact ⟨_, by have := UInt8.toNat_lt l[i]; omega, hb i h⟩
  · refine ⟨0, by omega, ?_⟩
    rw [Nat.zero_add, World.cell?_alloc_new, Array.getElem?_append_right (by simp [bv_length]; omega), zeroCells_get _ _ _ (by simp [bv_length]; omega)]
    rfl
theorem run_appendB {w : World} {a : Option Addr} {n c : Nat} {l : List UInt8} (hG : NG ≤ w.heap.size) (h : Bf w a n c l) {tx ty : TypeId} {x : Value} {m : Nat} {news : List UInt8} (hs : Src Tryz.prog 1 tx x m (bv news) w) (hm : news.length = m) (hlen : n + m < 100000000) :
    ∃ a' c' w', (Builtin.append_ #[38, tx] ty #[.slice a n c, x]).run Tryz.prog w = .ok (.slice a' (n + m) c') w' ∧ Bf w' a' (n + m) c' (l ++ news) ∧ Fr (foot a c) w w' ∧ Out w a c a' c' := by
  obtain ⟨i, hi, hz, hsz, hby⟩ := info_parts infoB
  have hl := h.len
  have hle := h.le
  have ht := Tryz.underlying38
  rw [← hsz] at hs
  by_cases hroom : n + m ≤ c
  · rcases h.reg with ⟨rfl, rfl⟩ | ⟨b, o, rfl, ho, hb⟩
    · obtain rfl : n = 0 := by omega
      obtain rfl : m = 0 := by omega
      have hn : news = [] := List.eq_nil_of_length_eq_zero hm
      subst hn
      refine ⟨none, 0, w, run_append_nothing w _ tx ty _ i ht hi none 0 0 (Nat.le_refl _) x hs, ?_, Fr.refl _ _, .inl ⟨rfl, rfl⟩⟩
      rw [List.append_nil]; exact h
    · have hin : ∀ j, j < (bv news).length → (w.cell? ⟨b, o + n * i.size + j, none⟩).isSome = true := by
        intro j hj
        rw [bv_length] at hj
        obtain ⟨x, _, hx⟩ := ho.cell (n + j) (by omega)
        rw [hsz, Nat.mul_one, Nat.add_assoc, hx]; rfl
      refine ⟨_, _, _, run_append_room_src w _ tx ty _ i ht hi b o n c x m (bv news) hs hroom hin (fun j _ => ho.kind.free _), ?_, ?_, .inl ⟨rfl, rfl⟩⟩
      · rw [hsz, Nat.mul_one]
        obtain ⟨k1, k2⟩ := ho.setCells n news (by omega)
        refine ⟨by simp [hl, hm], hroom, .inr ⟨b, o, rfl, k1, ?_⟩⟩
        intro j hj
        by_cases hjl : j < l.length
        · rw [List.getElem_append_left hjl, World.cell?_setCells_out b (bv news) (o + n) w _ (fun _ _ => by left; show o + j < o + n; omega)]
          exact hb j hjl
        · rw [List.length_append] at hj
          have := k2 (j - l.length) (by omega)
          rw [List.getElem_append_right (by omega)]
          rw [show n + (j - l.length) = j from by omega] at this
          exact this
      · refine (Fr_setCells b (bv news) (o + n * i.size) w).mono fun x y _ k => ?_
        rw [bv_length, hsz] at k
        rw [foot_some]; omega
  · have hold : (Builtin.firstCells i.size n (.slice a n c)).run Tryz.prog w.drew = .ok (bv l).toArray w.drew := by
      rcases h.reg with ⟨rfl, rfl⟩ | ⟨b, o, rfl, ho, hb⟩
      · obtain rfl : n = 0 := by omega
        rw [List.eq_nil_of_length_eq_zero hl]
        exact run_firstCells_none w.drew _ _ _ _
      · refine run_firstCells_some w.drew i.size n ⟨b, o, none⟩ n c (bv l) (by rw [bv_length, hl, hsz, Nat.mul_one]) (fun j u hu => ?_)
        obtain ⟨hj, rfl⟩ := List.getElem?_eq_some_iff.1 hu
        rw [bv_length] at hj
        rw [bv_get l j hj, Addr.add_lit]
        exact hb j hj
    have hfit : Builtin.nextslicecap (n + m) c * i.bytes ≤ 281474976710656 := growslice_fits (by omega) (by rw [hby]; omega)
    have hr := run_append_grow_src w _ tx ty _ i _ ht hi hz a n c (bv l) hold x m (bv news) hs (by omega) (by omega) hfit
    have hge := grownCap_ge w (n + m) c 5
    have hlm : (l ++ news).length = n + m := by simp [hl, hm]
    have e1 : (bv l ++ bv news).toArray = (bv (l ++ news)).toArray := by rw [bv_append]
    obtain ⟨k1, k2⟩ := grown_bytes w.drew hG (l ++ news) (grownCap w (n + m) c 5) (by rw [hlm]; exact hge) 5
    rw [e1, ← hlm] at hr
    rw [hlm] at k1 k2 hr
    refine ⟨_, _, _, hr, ⟨hlm, hge, .inr ⟨_, _, rfl, k1, k2⟩⟩, ((Fr.refl _ w).drew).alloc _, .inr ⟨_, _, rfl, Nat.le_refl _⟩⟩
theorem wpList_appendB (w : World) {ops : Array Oper} {rest : List Oper} {o : Oper} {ac : Act} {Q : Exit → Act → World → Prop} (hgd : o.guard = none) (s x : Operand) (tx : TypeId)
    (ho : o.op = .call { callee := .builtin .append, args := #[s, x], argTypes := #[38, tx] })
    {a : Option Addr} {n c : Nat} {l : List UInt8} (hG : NG ≤ w.heap.size) (h : Bf w a n c l) (hv : ac.eval s = .slice a n c)
    {xv : Value} {m : Nat} {news : List UInt8} (hx : ac.eval x = xv) (hs : Src Tryz.prog 1 tx xv m (bv news) w) (hm : news.length = m) (hlen : n + m < 100000000)
    (hK : ∀ (a' : Option Addr) (c' : Nat) w', Bf w' a' (n + m) c' (l ++ news) → Fr (foot a c) w w' → Out w a c a' c' → wpList Tryz.prog ops Q rest (ac.put o.dst (.slice a' (n + m) c')) w') : wpList Tryz.prog ops Q (o :: rest) ac w := by
  refine wpList_plain hgd fun K hK' => ?_
  obtain ⟨a', c', w', hr, h1, h2, h3⟩ := run_appendB hG h hs hm hlen (ty := o.type)
  unfold Oper.wp execOp
  simp only [ho, resolve, invoke, builtin, Sem.run_bind, Sem.run_pure, Result.andThen_ok, List.map_toArray, List.map_cons, List.map_nil, hv, hx, hr]
  exact hK' _ _ (hK a' c' w' h1 h2 h3)
end Go.Proofs.YtgilnnipephfjaaGreatDoor
