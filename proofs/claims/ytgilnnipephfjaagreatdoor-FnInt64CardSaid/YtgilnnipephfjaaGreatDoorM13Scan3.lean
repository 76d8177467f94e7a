/- strings.Reader: NewReader, ReadByte, UnreadByte; scanSign at digits. Digits as a number: plain facts. nat.scan at decimal digits. nat.scan at decimal digits: the walk. -/
import Derived.Test.YtgilnnipephfjaaGreatDoorM12Big2
import Derived.Test.YtgilnnipephfjaaGreatDoorM10Txt
import Derived.LaidEql
set_option linter.unusedSimpArgs false
set_option linter.unusedVariables false
namespace Go.Proofs.YtgilnnipephfjaaGreatDoor
open Go.RowKit

/-- A reader of s, i bytes of which are read. -/
structure Rd (w : World) (b : Nat) (s : ByteArray) (i : Nat) : Prop where
  str : w.cell? ⟨b, 0, none⟩ = some (.string s)
  pos : w.cell? ⟨b, 1, none⟩ = some (.int .i64 i)
  rune : ∃ p : Int, w.cell? ⟨b, 2, none⟩ = some (.int .i64 p)
  blk : Blk w b
theorem newReader_any (s : ByteArray) (w : World) (hG : NG ≤ w.heap.size) :
    Calls Tryz.prog 135 #[.string s] w fun e w' => e = .returned (.pointer (some ⟨w.heap.size, 0, none⟩)) ∧ Rd w' w.heap.size s 0 ∧ Fr (fun _ _ => False) w w' ∧ w.heap.size < w'.heap.size := by
  go_enter Tryz.func135, Tryz.ntmps135
  go_wp2_with fail
  go_ret
  refine ⟨rfl, ⟨by rw [World.cell?_alloc_new]; rfl, by rw [World.cell?_alloc_new]; rfl, ⟨-1, by rw [World.cell?_alloc_new]; rfl⟩, ⟨hG, _, kind_alloc_new _ _ _ _⟩⟩, (Fr.refl _ _).alloc _, by simp⟩

theorem Rd.next {w : World} {b : Nat} {s : ByteArray} {i : Nat} (h : Rd w b s i) (p : Int) (d j : Nat) (z : Int) (hz : z = j) :
    Rd (((w.setCell ⟨b, 2, none⟩ (.int .i64 p)).drewN d).setCell ⟨b, 1, none⟩ (.int .i64 z)) b s j ∧ Fr (fun b' _ => b' = b) w (((w.setCell ⟨b, 2, none⟩ (.int .i64 p)).drewN d).setCell ⟨b, 1, none⟩ (.int .i64 z)) := by
  obtain ⟨q, hq⟩ := h.rune
  subst hz
  have f2 : Fr (fun b' _ => b' = b) w (((w.setCell ⟨b, 2, none⟩ (.int .i64 p)).drewN d).setCell ⟨b, 1, none⟩ (.int .i64 (j : Nat))) := (((Fr.refl _ w).setCell b 2 _ (fun _ => rfl)).drewN d).setCell b 1 _ (fun _ => rfl)
  refine ⟨⟨?_, ?_, ⟨p, ?_⟩, f2.blk h.blk⟩, f2⟩
  · rw [World.cell?_setCell_other _ _ _ _ (by simp)]
    show World.cell? (w.setCell _ _) _ = _
    rw [World.cell?_setCell_other _ _ _ _ (by simp)]; exact h.str
  · have e : ((w.setCell ⟨b, 2, none⟩ (.int .i64 p)).drewN d).cell? ⟨b, 1, none⟩ = some (.int .i64 i) := (World.cell?_setCell_other _ _ _ _ (by simp)).trans h.pos
    exact World.cell?_setCell_same _ _ _ e
  · rw [World.cell?_setCell_other _ _ _ _ (by simp)]
    show World.cell? (w.setCell _ _) _ = _
    exact World.cell?_setCell_same _ _ _ hq
theorem Rd.stay {w : World} {b : Nat} {s : ByteArray} {i : Nat} (h : Rd w b s i) (p : Int) (d : Nat) :
    Rd ((w.setCell ⟨b, 2, none⟩ (.int .i64 p)).drewN d) b s i ∧ Fr (fun b' _ => b' = b) w ((w.setCell ⟨b, 2, none⟩ (.int .i64 p)).drewN d) := by
  obtain ⟨q, hq⟩ := h.rune
  have f2 : Fr (fun b' _ => b' = b) w ((w.setCell ⟨b, 2, none⟩ (.int .i64 p)).drewN d) := ((Fr.refl _ w).setCell b 2 _ (fun _ => rfl)).drewN d
  refine ⟨⟨?_, ?_, ⟨p, ?_⟩, f2.blk h.blk⟩, f2⟩
  · show World.cell? (w.setCell _ _) _ = _
    rw [World.cell?_setCell_other _ _ _ _ (by simp)]; exact h.str
  · show World.cell? (w.setCell _ _) _ = _
    rw [World.cell?_setCell_other _ _ _ _ (by simp)]; exact h.pos
  · show World.cell? (w.setCell _ _) _ = _
    exact World.cell?_setCell_same _ _ _ hq
theorem readByte_some {w : World} {b : Nat} {s : ByteArray} {i : Nat} (h : Rd w b s i) (hi : i < s.size) (hs : s.size < 1000000) :
    Calls Tryz.prog 366 #[.pointer (some ⟨b, 0, none⟩)] w fun e w' => e = .returned (.tuple #[.int .u8 s[i].toNat, .nilIface]) ∧ Rd w' b s (i + 1) ∧ Fr (fun b' _ => b' = b) w w' := by
  have h0 := h.str
  have h1 := h.pos
  obtain ⟨p, h2⟩ := h.rune
  have f0 := h.blk.free 0
  have f1 := h.blk.free 1
  have f2 := h.blk.free 2
  have H := Aside.mk h
  clear h
  have q1 : decide ((s.size : Int) ≤ (i : Int)) = false := by simp; omega
  have q2 : decide (s.size ≤ i) = false := by simp; omega
  go_enter Tryz.func366, Tryz.ntmps366
  go_wp2_with fail
  go_quiet (fail)
  go_wp2_with fail
  go_quiet (fail)
  go_wp2_with fail
  go_ret2
  refine ⟨rfl, H.out.next _ _ (i + 1) _ (by omega)⟩

theorem readByte_eof {w : World} {b : Nat} {s : ByteArray} {E : Value} (h : Rd w b s s.size) (hs : s.size < 1000000) (hE : w.cell? ⟨1, 0, none⟩ = some E) (hb : b ≠ 1) :
    Calls Tryz.prog 366 #[.pointer (some ⟨b, 0, none⟩)] w fun e w' => e = .returned (.tuple #[.int .u8 0, E]) ∧ Rd w' b s s.size ∧ Fr (fun b' _ => b' = b) w w' := by
  have h0 := h.str
  have h1 := h.pos
  obtain ⟨p, h2⟩ := h.rune
  have f2 := h.blk.free 2
  have H := Aside.mk h
  clear h
  have q1 : decide ((s.size : Int) ≤ (s.size : Int)) = true := by simp
  have q2 : decide (s.size ≤ s.size) = true := by simp
  go_enter Tryz.func366, Tryz.ntmps366
  go_wp2_with fail
  go_quiet (fail)
  go_wp2_with fail
  go_quiet (fail)
  go_wp2_with fail
  go_ret2
  rw [World.drewN_drewN]
  refine ⟨rfl, H.out.stay _ _⟩

theorem unread_any {w : World} {b : Nat} {s : ByteArray} {i : Nat} (h : Rd w b s (i + 1)) (hs : i < 1000000) :
    Calls Tryz.prog 367 #[.pointer (some ⟨b, 0, none⟩)] w fun e w' => e = .returned .nilIface ∧ Rd w' b s i ∧ Fr (fun b' _ => b' = b) w w' := by
  have h0 := h.str
  have h1 := h.pos
  obtain ⟨p, h2⟩ := h.rune
  have f1 := h.blk.free 1
  have f2 := h.blk.free 2
  have H := Aside.mk h
  clear h
  go_enter Tryz.func367, Tryz.ntmps367
  go_wp2_with fail
  go_ret
  refine ⟨rfl, H.out.next _ 0 i _ (by omega)⟩

theorem nilA_read (a : Addr) (w : World) : (nilAhead 464 175 (.pointer (some a)) "ReadByte").run Tryz.prog w = .ok (some false) w := by kernel_rfl
theorem meth_read (a : Addr) (w : World) : (method 464 175 (.pointer (some a)) "ReadByte").run Tryz.prog w = .ok (366, .pointer (some a)) w := by kernel_rfl
theorem nilA_unread (a : Addr) (w : World) : (nilAhead 464 175 (.pointer (some a)) "UnreadByte").run Tryz.prog w = .ok (some false) w := by kernel_rfl
theorem meth_unread (a : Addr) (w : World) : (method 464 175 (.pointer (some a)) "UnreadByte").run Tryz.prog w = .ok (367, .pointer (some a)) w := by kernel_rfl

set_option maxRecDepth 100000 in
theorem scanSign_digit {w : World} {b : Nat} {s : ByteArray} (h : Rd w b s 0) (h0 : 0 < s.size) (hs : s.size < 1000000) (hd : 48 ≤ s[0].toNat) :
    Calls Tryz.prog 212 #[.iface 175 (.pointer (some ⟨b, 0, none⟩))] w fun e w' => e = .returned (.tuple #[.bool false, .nilIface]) ∧ Rd w' b s 0 ∧ Fr (fun b' _ => b' = b) w w' := by
  have HR := Lib.hid (readByte_some h h0 hs)
  have n1 := nilA_read
  have n2 := meth_read
  have n3 := nilA_unread
  have n4 := meth_unread
  obtain ⟨c, hc⟩ : ∃ c, s[0].toNat = c := ⟨_, rfl⟩
  rw [hc] at HR hd
  have q1 : ((c : Int) == 45) = false := by simp; omega
  have q2 : ((c : Int) == 43) = false := by simp; omega
  clear h hc
  go_enter Tryz.func212, Tryz.ntmps212
  go_wp2_with fail
  refine HR.out.mono ?_
  rintro e w1 ⟨rfl, r1, r2⟩
  have HU := Lib.hid (unread_any r1 (by omega))
  have R2 := Aside.mk r2
  clear r1 r2 HR
  go_wp2_with fail
  refine HU.out.mono ?_
  rintro e w2 ⟨rfl, r1, r2⟩
  have R3 := Aside.mk r1
  have R4 := Aside.mk r2
  clear r1 r2 HU
  go_wp2_with fail
  go_ret2
  exact ⟨rfl, R3.out, R2.out.trans R4.out⟩
set_option maxRecDepth 100000 in
theorem scanSign_eof {w : World} {b : Nat} {s : ByteArray} {T : TypeId} {a : Addr} (h : Rd w b s 0) (h0 : s.size = 0) (hE : w.cell? ⟨1, 0, none⟩ = some (.iface T (.pointer (some a)))) (hb : b ≠ 1) :
    Calls Tryz.prog 212 #[.iface 175 (.pointer (some ⟨b, 0, none⟩))] w fun e w' => e = .returned (.tuple #[.bool false, .iface T (.pointer (some a))]) ∧ Rd w' b s 0 ∧ Fr (fun b' _ => b' = b) w w' := by
  have HR := Lib.hid (readByte_eof (by rw [h0]; exact h) (by omega) hE hb)
  rw [h0] at HR
  have n1 := nilA_read
  have n2 := meth_read
  clear h h0 hE
  go_enter Tryz.func212, Tryz.ntmps212
  go_wp2_with fail
  refine HR.out.mono ?_
  rintro e w1 ⟨rfl, r1, r2⟩
  have R1 := Aside.mk r1
  have R2 := Aside.mk r2
  clear r1 r2 HR
  go_wp2_with fail
  go_ret2
  exact ⟨rfl, R1.out, R2.out⟩
end Go.Proofs.YtgilnnipephfjaaGreatDoor
namespace Go.Proofs.YtgilnnipephfjaaGreatDoor

/-- The number that decimal digits are. -/
def numOf (l : List UInt8) : Nat := l.foldl (fun n c => n * 10 + (c.toNat - 48)) 0
theorem numOf_nil : numOf [] = 0 := rfl
theorem numOf_snoc (l : List UInt8) (c : UInt8) : numOf (l ++ [c]) = numOf l * 10 + (c.toNat - 48) := by simp [numOf]
/-- Digits alone. -/
def Digs (l : List UInt8) : Prop := ∀ c ∈ l, 48 ≤ c.toNat ∧ c.toNat ≤ 57
theorem take_snoc {l : List UInt8} {k : Nat} (h : k < l.length) : l.take (k + 1) = l.take k ++ [l[k]] := by
  rw [List.take_succ_eq_append_getElem h]
theorem numOf_take {l : List UInt8} {k : Nat} (h : k < l.length) : numOf (l.take (k + 1)) = numOf (l.take k) * 10 + (l[k].toNat - 48) := by
  rw [take_snoc h, numOf_snoc]
theorem Digs.get {l : List UInt8} (h : Digs l) {k : Nat} (hk : k < l.length) : 48 ≤ l[k].toNat ∧ l[k].toNat ≤ 57 := h _ (List.getElem_mem hk)
theorem numOf_lt_take {l : List UInt8} (h : Digs l) : ∀ k, k ≤ l.length → numOf (l.take k) < 10 ^ k := by
  intro k
  induction k with
  | zero => intro _; simp [numOf]
  | succ k ih =>
    intro hk
    have := ih (by omega)
    have hd := h.get (show k < l.length by omega)
    rw [numOf_take (by omega), Nat.pow_succ]
    omega
theorem numOf_lt {l : List UInt8} (h : Digs l) : numOf l < 10 ^ l.length := by
  have := numOf_lt_take h l.length (Nat.le_refl _)
  rwa [List.take_length] at this
theorem ten1000 : (10 : Nat) ^ 1000 < B ^ 60 := by decide +kernel
theorem nlen_small {X k : Nat} (h : X < 10 ^ k) (hk : k ≤ 1000) : nlen X ≤ 60 :=
  nlen_le (Nat.lt_trans (Nat.lt_of_lt_of_le h (Nat.pow_le_pow_right (by omega) hk)) ten1000)

/-- A number's text is that number. -/
theorem natText_zero : natText 0 = [48] := by
  rw [natText, show ndig 0 = 1 from by rw [ndig]; simp]; simp [dg]
theorem natText_digs (X : Nat) : Digs (natText X) := by
  intro c hc
  rw [natText, List.mem_map] at hc
  obtain ⟨i, _, rfl⟩ := hc
  have := dg_lt X (ndig X - 1 - i)
  simp only [UInt8.toNat_ofNat']
  omega
theorem numOf_natText_take (X : Nat) : ∀ k, k ≤ ndig X → numOf ((natText X).take k) = X / 10 ^ (ndig X - k) := by
  intro k
  induction k with
  | zero =>
    intro _
    rw [Nat.sub_zero, Nat.div_eq_of_lt (lt_ndig X)]; simp [numOf]
  | succ k ih =>
    intro hk
    rw [numOf_take (by rw [natText_length]; omega), ih (by omega), natText_get X k (by omega)]
    have e : ndig X - k = (ndig X - (k + 1)) + 1 := by omega
    have e2 : ndig X - 1 - k = ndig X - (k + 1) := by omega
    rw [e2, e, dg, Nat.pow_succ, ← Nat.div_div_eq_div_mul]
    have := Nat.div_add_mod (X / 10 ^ (ndig X - (k + 1))) 10
    omega
theorem numOf_natText (X : Nat) : numOf (natText X) = X := by
  have := numOf_natText_take X (ndig X) (Nat.le_refl _)
  rw [List.take_of_length_le (by rw [natText_length]; exact Nat.le_refl _)] at this
  rw [this]; simp
/-- Two lists of digits, of one length, that are one number are one. -/
theorem numOf_inj : ∀ (n : Nat) (l m : List UInt8), l.length = n → m.length = n → Digs l → Digs m → numOf l = numOf m → l = m := by
  intro n
  induction n with
  | zero => intro l m hl hm _ _ _; rw [List.length_eq_zero_iff.1 hl, List.length_eq_zero_iff.1 hm]
  | succ n ih =>
    intro l m hl hm dl dm he
    have hl' := List.dropLast_concat_getLast (l := l) (by intro k; rw [k] at hl; simp at hl)
    have hm' := List.dropLast_concat_getLast (l := m) (by intro k; rw [k] at hm; simp at hm)
    rw [← hl', ← hm', numOf_snoc, numOf_snoc] at he
    have d1 := dl _ (List.getLast_mem (l := l) (by intro k; rw [k] at hl; simp at hl))
    have d2 := dm _ (List.getLast_mem (l := m) (by intro k; rw [k] at hm; simp at hm))
    have h1 := ih l.dropLast m.dropLast (by simp; omega) (by simp; omega) (fun c hc => dl c ((List.dropLast_subset _) hc)) (fun c hc => dm c ((List.dropLast_subset _) hc)) (by omega)
    rw [← hl', ← hm', h1]
    congr 2
    exact UInt8.toNat_inj.1 (by omega)
/-- Digits without noughts ahead are the text of their number. -/
theorem natText_numOf {l : List UInt8} (h : Digs l) (h0 : l ≠ []) (hz : l.length = 1 ∨ ∀ h : 0 < l.length, l[0] ≠ 48) : natText (numOf l) = l := by
  have hp : 0 < l.length := List.length_pos_iff.2 h0
  have hlen : ndig (numOf l) = l.length := by
    rcases Nat.eq_or_lt_of_le (show 1 ≤ l.length from hp) with e | e
    · have := numOf_lt h
      rw [← e] at this ⊢
      rw [ndig, dif_pos (by simpa using this)]
    · have hz' := (hz.resolve_left (by omega)) hp
      have key : ∀ k, k < l.length → 10 ^ k ≤ numOf (l.take (k + 1)) := by
        intro k
        induction k with
        | zero =>
          intro hk
          rw [numOf_take hk]
          have := h.get hk
          have : l[0].toNat ≠ 48 := fun e => hz' (UInt8.toNat_inj.1 e)
          simp [numOf]; omega
        | succ k ih =>
          intro hk
          rw [numOf_take hk, Nat.pow_succ]
          have := ih (by omega)
          omega
      have h1 := key (l.length - 1) (by omega)
      rw [show l.length - 1 + 1 = l.length from by omega, List.take_length] at h1
      have h2 := numOf_lt h
      have := ndig_eq_of h1 (by rwa [show l.length - 1 + 1 = l.length from by omega])
      omega
  exact numOf_inj l.length _ _ (by rw [natText_length]; exact hlen) rfl (natText_digs _) h (numOf_natText _)
end Go.Proofs.YtgilnnipephfjaaGreatDoor
namespace Go.Proofs.YtgilnnipephfjaaGreatDoor
open Go.RowKit

/-- What the scanning has come to. -/
structure SC (w wr : World) (a : Option Addr) (c b : Nat) (s : ByteArray) (pos Z : Nat) (az : Option Addr) (cz : Nat) : Prop where
  rd : Rd wr b s pos
  nt : Nt wr az cz Z
  fr : Fr (fun b' o' => b' = b ∨ foot a c b' o') w wr
  out : Out w a c az cz
theorem SC.read {w wr w1 : World} {a : Option Addr} {c b : Nat} {s : ByteArray} {pos pos' Z : Nat} {az : Option Addr} {cz : Nat} (h : SC w wr a c b s pos Z az cz) (hb : ∀ o, ¬ foot a c b o) (hbl : b < w.heap.size) (hr : Rd w1 b s pos') (f : Fr (fun b' _ => b' = b) wr w1) :
    SC w w1 a c b s pos' Z az cz := by
  refine ⟨hr, f.nt h.nt ?_, h.fr.trans' f (fun _ _ _ k => k) (fun _ _ _ k => .inl k), h.out⟩
  rintro b' o' k rfl
  rcases h.out with ⟨rfl, rfl⟩ | ⟨b2, o2, rfl, h2⟩
  · exact hb _ k
  · rw [foot_some] at k; omega
theorem SC.put {w wr w1 : World} {a : Option Addr} {c b : Nat} {s : ByteArray} {pos Z Z' : Nat} {az az' : Option Addr} {cz cz' : Nat} (h : SC w wr a c b s pos Z az cz) (hb : ∀ o, ¬ foot a c b o) (hbl : b < w.heap.size) (hn : Nt w1 az' cz' Z') (f : Fr (foot az cz) wr w1) (ho : Out wr az cz az' cz') :
    SC w w1 a c b s pos Z' az' cz' := by
  have key : ∀ o, ¬ foot az cz b o := by
    intro o k
    rcases h.out with ⟨rfl, rfl⟩ | ⟨b2, o2, rfl, h2⟩
    · exact hb _ k
    · rw [foot_some] at k; omega
  refine ⟨?_, hn, ?_, ?_⟩
  · obtain ⟨q, hq⟩ := h.rd.rune
    have hl := h.rd.blk.lt
    exact ⟨(f.cell b 0 hl (key _)).trans h.rd.str, (f.cell b 1 hl (key _)).trans h.rd.pos, ⟨q, (f.cell b 2 hl (key _)).trans hq⟩, f.blk h.rd.blk⟩
  · refine h.fr.trans' f (fun _ _ _ k => k) (fun b' o' hl k => ?_)
    rcases h.out with ⟨rfl, rfl⟩ | ⟨b2, o2, rfl, h2⟩
    · exact .inr k
    · rw [foot_some] at k; omega
  · rcases ho with ⟨rfl, rfl⟩ | ⟨b2, o2, rfl, h2⟩
    · exact h.out
    · exact .inr ⟨b2, o2, rfl, Nat.le_trans h.fr.size h2⟩
theorem infoP : (Tryz.prog.info? 144).map (fun i => i.comparable) = some true := by kernel_rfl
theorem infoS : (Tryz.prog.info? 146).isSome = true := by kernel_rfl
theorem run_eqlE (a : Addr) (w : World) :
    (binOp .eql 61 (.iface 144 (.pointer (some a))) (.iface 144 (.pointer (some a)))).run Tryz.prog w = .ok (.bool true) w := by
  obtain ⟨i, h2, h4⟩ := Option.map_eq_some_iff.1 infoP
  obtain ⟨j, h3⟩ := Option.isSome_iff_exists.1 infoS
  exact run_eql_iface_ptr_same w a Tryz.underlying61 Tryz.underlying144 h2 h4 h3
/-- The digits read so far: what is in the number, what is not yet. -/
structure Dg (s : ByteArray) (k Z m D : Nat) : Prop where
  val : Z * 10 ^ m + D = numOf (s.data.toList.take k)
  lt : D < 10 ^ m
theorem Dg.zero (s : ByteArray) : Dg s 0 0 0 0 := ⟨by simp [numOf], by simp⟩
theorem Dg.next {s : ByteArray} {k Z m D d : Nat} (h : Dg s k Z m D) (hk : k < s.size) (hd : d = s[k].toNat - 48) (h9 : d < 10) : Dg s (k + 1) Z (m + 1) (D * 10 + d) := by
  have hl : k < s.data.toList.length := hk
  refine ⟨?_, by have := h.lt; rw [Nat.pow_succ]; omega⟩
  rw [numOf_take hl, ← h.val, Nat.pow_succ, hd]
  have e : s.data.toList[k] = s[k] := rfl
  rw [e, Nat.add_mul, Nat.mul_assoc, Nat.add_assoc]
theorem Dg.full {s : ByteArray} {k Z D : Nat} (h : Dg s k Z 19 D) : Dg s k (Z * p10 19 + D) 0 0 := ⟨by rw [← h.val]; simp [p10], by simp⟩
theorem Dg.bound {s : ByteArray} {k Z m D : Nat} (h : Dg s k Z m D) (hd : Digs s.data.toList) (hk : k ≤ s.size) (hs : s.size ≤ 1000) : nlen Z ≤ 60 := by
  have h1 := numOf_lt_take hd k hk
  rw [← h.val] at h1
  have h2 : Z ≤ Z * 10 ^ m := Nat.le_mul_of_pos_right _ (Nat.pow_pos (by decide))
  exact nlen_small (k := k) (by omega) (by omega)
theorem Dg.small {s : ByteArray} {k Z m D : Nat} (h : Dg s k Z m D) (hm : m < 19) : D < 1000000000000000000 := by
  have := h.lt
  have h2 := p10_mono (show m ≤ 18 by omega)
  rw [p10_18] at h2
  unfold p10 at h2
  omega
end Go.Proofs.YtgilnnipephfjaaGreatDoor
namespace Go.Proofs.YtgilnnipephfjaaGreatDoor
open Go.RowKit

def chOf (s : ByteArray) (k : Nat) : Nat := if h : k < s.size then s[k].toNat else 0
def errAt (s : ByteArray) (k : Nat) (a : Addr) : Value := if k < s.size then .nilIface else .iface 144 (.pointer (some a))
def prevAt (k : Nat) : Int := if k = 0 then 46 else 48
def posAt (s : ByteArray) (k : Nat) : Nat := if k < s.size then k + 1 else s.size
theorem powB_small {m : Nat} (h : m < 19) : powB 10 m = 10 ^ m := by
  have := p10_mono (show m ≤ 18 by omega)
  rw [p10_18] at this
  unfold p10 at this
  exact Nat.mod_eq_of_lt (by unfold B; omega)

theorem chOf_lt (s : ByteArray) (k : Nat) : chOf s k < 256 := by
  unfold chOf; split
  · exact UInt8.toNat_lt _
  · omega
theorem read_at {w : World} {b : Nat} {s : ByteArray} {k : Nat} {ae : Addr} (h : Rd w b s k) (hk : k ≤ s.size) (hs : s.size < 1000000)
    (hE : w.cell? ⟨1, 0, none⟩ = some (.iface 144 (.pointer (some ae)))) (hb : b ≠ 1) :
    Calls Tryz.prog 366 #[.pointer (some ⟨b, 0, none⟩)] w fun e w' => e = .returned (.tuple #[.int .u8 (chOf s k : Nat), errAt s k ae]) ∧ Rd w' b s (posAt s k) ∧ Fr (fun b' _ => b' = b) w w' := by
  rcases Nat.lt_or_ge k s.size with hl | hl
  · refine (readByte_some h hl hs).mono ?_
    rintro e w' ⟨rfl, h1, h2⟩
    refine ⟨?_, ?_, h2⟩
    · unfold chOf errAt; rw [dif_pos hl, if_pos hl]
    · unfold posAt; rw [if_pos hl]; exact h1
  · obtain rfl : k = s.size := by omega
    refine (readByte_eof h hs hE hb).mono ?_
    rintro e w' ⟨rfl, h1, h2⟩
    refine ⟨?_, ?_, h2⟩
    · unfold chOf errAt; rw [dif_neg (by omega), if_neg (by omega)]; rfl
    · unfold posAt; rw [if_neg (by omega)]; exact h1
theorem SC.eof {w wr : World} {a : Option Addr} {c b : Nat} {s : ByteArray} {pos Z : Nat} {az : Option Addr} {cz : Nat} {v : Value} (h : SC w wr a c b s pos Z az cz) (hz : Reg w a c) (hG : NG ≤ w.heap.size) (hb : NG ≤ b) (hE : w.cell? ⟨1, 0, none⟩ = some v) :
    wr.cell? ⟨1, 0, none⟩ = some v := by
  refine (h.fr.cell _ _ (Nat.lt_of_lt_of_le (by decide : 1 < NG) hG) ?_).trans hE
  rintro (rfl | k)
  · exact absurd hb (by decide)
  · exact absurd (hz.lo _ _ k) (by decide)

set_option maxRecDepth 100000 in
set_option maxHeartbeats 4000000 in
theorem scan_any {a : Option Addr} {zl c b : Nat} {s : ByteArray} {ae : Addr} {w : World} (hG : NG ≤ w.heap.size) (hz : Reg w a c) (hzl : zl ≤ c) (h : Rd w b s 0) (hd : Digs s.data.toList) (h0 : 0 < s.size) (hs : s.size ≤ 1000)
    (hE : w.cell? ⟨1, 0, none⟩ = some (.iface 144 (.pointer (some ae)))) (hap : ∀ o, ¬ foot a c b o) :
    Calls Tryz.prog 213 #[.slice a zl c, .iface 175 (.pointer (some ⟨b, 0, none⟩)), .int .i64 10, .bool false] w fun e w' => ∃ a' c',
      e = .returned (.tuple #[.slice a' (nlen (numOf s.data.toList)) c', .int .i64 10, .int .i64 s.size, .nilIface]) ∧ SC w w' a c b s s.size (numOf s.data.toList) a' c' := by
  have hbl := h.blk.lt
  have hbE : b ≠ 1 := by have := h.blk.1; unfold NG at this; omega
  have n1 := nilA_read
  have n2 := meth_read
  have n3 := run_eqlE
  have n4 := maxPow_ten
  have S0 : SC w w a c b s 0 0 a c := ⟨h, Nt.zero hz, Fr.refl _ _, .inl ⟨rfl, rfl⟩⟩
  have hc0 := S0.nt.len
  have HB := Aside.mk h.blk.1
  have HZ := Aside.mk hz
  have hR := Lib.hid (readByte_some h h0 (by omega))
  have HE := Aside.mk hE
  have HS0 := Aside.mk S0
  have HAP := Aside.mk hap
  have HD := Aside.mk hd
  have hck := hz.1
  clear S0 h hz hE hap hd
  go_enter Tryz.func213, Tryz.ntmps213
  go_wp2_with fail
  refine hR.out.mono ?_
  rintro e w1 ⟨rfl, r1, r2⟩
  have S1 : Aside (SC w w1 a c b s 1 0 a c) := ⟨HS0.out.read HAP.out hbl r1 r2⟩
  clear r1 r2 hR HS0
  go_wp2_with fail
  refine (n4 _).mono ?_
  rintro e w' ⟨rfl, rfl⟩
  go_wp2_with fail
  have q0 : Aside (chOf s 0 = s[0].toNat) := ⟨by unfold chOf; rw [dif_pos h0]⟩
  rw [← q0.out]
  go_loopw [0, 3, 10, 11, 13, 14, 15, 20, 21, 22] (fun z fo cnt er pv iv ch di i dp wr => ∃ (k Z m D zl : Nat) (az : Option Addr) (cz : Nat), k ≤ s.size ∧ m < 19 ∧ z = .slice az zl cz ∧ fo = .bool false ∧ cnt = .int .i64 k ∧ er = errAt s k ae ∧ pv = .int .i32 (prevAt k) ∧ iv = .bool false ∧ ch = .int .u8 (chOf s k : Nat) ∧ di = .int .u64 D ∧ i = .int .i64 m ∧ dp = .int .i64 (-1) ∧ Aside (zl = nlen Z) ∧ Aside (Dg s k Z m D) ∧ Aside (SC w wr a c b s (posAt s k) Z az cz)) (fun _ _ cnt _ _ _ _ _ _ _ _ => s.size + 1 - (intOf cnt).toNat)
  case atStart => exact ⟨0, 0, 0, 0, 0, a, c, by omega, by omega, rfl, rfl, rfl, by unfold errAt; rw [if_pos h0], rfl, rfl, rfl, rfl, rfl, rfl, ⟨rfl⟩, ⟨Dg.zero s⟩, ⟨by unfold posAt; rw [if_pos h0]; exact S1.out⟩⟩
  case round =>
    obtain ⟨k, Z, m, D, zl2, az, cz, hk, hm, rfl, rfl, rfl, rfl, rfl, rfl, rfl, rfl, rfl, rfl, hzl2, hDg, hSC⟩ := hrel
    have hnZ : nlen Z ≤ 60 := hDg.out.bound HD.out hk hs
    have hEr := hSC.out.eof HZ.out hG HB.out HE.out
    rcases Nat.lt_or_ge k s.size with hl | hl
    · have e1 : errAt s k ae = .nilIface := by unfold errAt; rw [if_pos hl]
      have e2 : posAt s k = k + 1 := by unfold posAt; rw [if_pos hl]
      rw [e2] at hSC
      rw [e1]
      obtain ⟨ch, hch⟩ : ∃ x, chOf s k = x := ⟨_, rfl⟩
      rw [hch]
      have hd := HD.out.get (show k < s.data.toList.length from hl)
      have hch2 : chOf s k = s[k].toNat := by unfold chOf; rw [dif_pos hl]
      have e3 : s.data.toList[k] = s[k] := rfl
      rw [e3, ← hch2, hch] at hd
      obtain ⟨d, hdd⟩ : ∃ d, ch = 48 + d := ⟨ch - 48, by omega⟩
      have hD18 := hDg.out.small hm
      have hDg2 : Aside (Dg s (k + 1) Z (m + 1) (D * 10 + d)) := ⟨hDg.out.next hl (by rw [← hch2, hch, hdd]; omega) (by omega)⟩
      have q1 : ((ch : Int) == 46) = false := by simp; omega
      have q2 : ((ch : Int) == 95) = false := by simp; omega
      have b1 : 48 ≤ (ch : Int) := by omega
      have b2 : (ch : Int) ≤ 57 := by omega
      have b3 : (D : Int) ≤ 1000000000000000000 := by omega
      have hR := Lib.hid (read_at (k := k + 1) hSC.out.rd (by omega) (by omega) hEr hbE)
      have hcz := hSC.out.nt.len
      have HHD := Aside.mk hd
      have HDD := Aside.mk hdd
      clear hd hdd hch2 e3 hch e1 e2 hEr hD18 hDg
      by_cases hm18 : m = 18
      · have q3 : ((m : Int) + 1 == 19) = true := by simp; omega
        have q4 : ((p10 19 : Nat) == 0) = false := by decide
        have q5 : ((p10 19 : Int) == 0) = false := by simp [p10]
        obtain rfl := hm18
        have hDf : Aside (Dg s (k + 1) (Z * p10 19 + (D * 10 + d)) 0 0) := ⟨hDg2.out.full⟩
        have hM := Lib.hid (mulAddWW_any (zl := nlen Z) (Nat.le_trans hG hSC.out.fr.size) hSC.out.nt.reg hSC.out.nt (by omega) (show p10 19 < B by rw [p10_19]; decide) (by rw [p10_19]; decide) (show D * 10 + d < B by have := HDD.out; unfold B; omega) (.inl ⟨rfl, rfl⟩))
        rw [← hzl2.out] at hM
        have hde : Aside ((D : Int) * 10 + ((ch : Int) - 48) = ((D * 10 + d : Nat) : Int)) := ⟨by have := HDD.out; omega⟩
        clear hR
        go_wp2_with fail
        rw [hde.out]
        refine hM.out.mono ?_
        rintro e w2 ⟨a2, c2, rfl, s1, s2, s3⟩
        have S2 : SC w w2 a c b s (k + 1) (Z * p10 19 + (D * 10 + d)) a2 c2 := hSC.out.put HAP.out hbl s1 s2 s3
        have hR := Lib.hid (read_at (k := k + 1) S2.rd (by omega) (by omega) (S2.eof HZ.out hG HB.out HE.out) hbE)
        have hS2 := Aside.mk S2
        clear S2 s1 s2 s3 hM
        go_wp2_with fail
        refine hR.out.mono ?_
        rintro e w3 ⟨rfl, r1, r2⟩
        have S3 : Aside (SC w w3 a c b s (posAt s (k + 1)) (Z * p10 19 + (D * 10 + d)) a2 c2) := ⟨hS2.out.read HAP.out hbl r1 r2⟩
        clear r1 r2 hR
        go_wp2_with fail
        go_roundw
        case rel => exact ⟨k + 1, Z * p10 19 + (D * 10 + d), 0, 0, _, a2, c2, by omega, by omega, rfl, rfl, by go_num, rfl, by unfold prevAt; rw [if_neg (by omega)], rfl, rfl, rfl, rfl, rfl, ⟨rfl⟩, hDf, S3⟩
        case measure => simp [intOf]; omega
      · have q3 : decide ((m : Int) + 1 = 19) = false := by simp; omega
        have q3' : ((m : Int) + 1 == 19) = false := by simp; omega
        go_wp2_with fail
        refine hR.out.mono ?_
        rintro e w2 ⟨rfl, r1, r2⟩
        have S2 : Aside (SC w w2 a c b s (posAt s (k + 1)) Z az cz) := ⟨hSC.out.read HAP.out hbl r1 r2⟩
        clear r1 r2 hR
        go_wp2_with fail
        go_roundw
        case rel => exact ⟨k + 1, Z, m + 1, D * 10 + d, zl2, az, cz, by omega, by omega, rfl, rfl, by go_num, rfl, by unfold prevAt; rw [if_neg (by omega)], rfl, rfl, congrArg (Value.int .u64) (by have := HDD.out; omega), by go_num, rfl, hzl2, hDg2, S2⟩
        case measure => simp [intOf]; omega
    · obtain rfl : k = s.size := by omega
      have e1 : errAt s s.size ae = .iface 144 (.pointer (some ae)) := by unfold errAt; rw [if_neg (by omega)]
      have e2 : posAt s s.size = s.size := by unfold posAt; rw [if_neg (by omega)]
      have e3 : prevAt s.size = 48 := by unfold prevAt; rw [if_neg (by omega)]
      rw [e2] at hSC
      rw [e1, e3]
      have q4 : ((p10 19 : Nat) == 0) = false := by decide
      have q5 : ((p10 19 : Int) == 0) = false := by simp [p10]
      have q6 : ((s.size : Int) == 0) = false := by rw [beq_eq_false_iff_ne]; omega
      have hv := hDg.out.val
      rw [show s.data.toList.take s.size = s.data.toList from List.take_of_length_le (Nat.le_refl _)] at hv
      clear e1 e2 e3
      have hD18 := hDg.out.small hm
      by_cases hm0 : m = 0
      · subst hm0
        have := hDg.out.lt
        have hZn : Z = numOf s.data.toList := by rw [← hv]; simp at this ⊢; exact this
        rw [hZn] at hSC hzl2
        have HZ2 := Aside.mk hzl2.out
        clear hzl2 hv hDg hZn this hD18
        go_wp2_with fail
        refine bodyPost_ret (v := .tuple #[.slice az zl2 cz, .int .i64 10, .int .i64 s.size, .nilIface]) (by simp [results, Tryz.results213, go_sem]) rfl ⟨az, cz, by rw [HZ2.out], hSC.out⟩
      · have q7 : decide (0 < (m : Int)) = true := by simp; omega
        have hM := Lib.hid (mulAddWW_any (zl := nlen Z) (Nat.le_trans hG hSC.out.fr.size) hSC.out.nt.reg hSC.out.nt (by omega) (show powB 10 m < B from Nat.mod_lt _ B_pos) (by rw [powB_small hm]; exact Nat.pos_iff_ne_zero.1 (Nat.pow_pos (by decide))) (show D < B by unfold B; omega) (.inl ⟨rfl, rfl⟩))
        rw [← hzl2.out, powB_small hm, hv] at hM
        rw [← powB_small hm] at hM
        have hP := Lib.hid (fun w => pow_any 10 m w (by decide) (by omega))
        clear hv hDg hD18
        go_wp2_with fail
        refine (hP.out _).mono ?_
        rintro e w2 ⟨rfl, rfl⟩
        go_wp2_with fail
        refine hM.out.mono ?_
        rintro e w2 ⟨a2, c2, rfl, s1, s2, s3⟩
        have S2 : Aside (SC w w2 a c b s s.size (numOf s.data.toList) a2 c2) := ⟨hSC.out.put HAP.out hbl s1 s2 s3⟩
        clear s1 s2 s3 hM
        go_wp2_with fail
        refine bodyPost_ret (v := .tuple #[.slice a2 (nlen (numOf s.data.toList)) c2, .int .i64 10, .int .i64 s.size, .nilIface]) (by simp [results, Tryz.results213, go_sem]) rfl ⟨a2, c2, rfl, S2.out⟩
end Go.Proofs.YtgilnnipephfjaaGreatDoor
