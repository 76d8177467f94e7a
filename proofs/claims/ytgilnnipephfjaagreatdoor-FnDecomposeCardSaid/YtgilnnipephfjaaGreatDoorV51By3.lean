/- nat.bytes: the bytes of a number, the highest first. Bytes and FillBytes of Int and BigInt. Decimal.Decompose; Decimal.Compose of what is not finite. -/
import Derived.Test.YtgilnnipephfjaaGreatDoorU49BS3
import Derived.Test.YtgilnnipephfjaaGreatDoorM25Dig
import Derived.Test.YtgilnnipephfjaaGreatDoorV50Co3
set_option linter.unusedSimpArgs false
set_option linter.unusedVariables false
namespace Go.Proofs.YtgilnnipephfjaaGreatDoor
open Go.RowKit

/-- Byte p of a number, from below. -/
def byt (X p : Nat) : Nat := X / 256 ^ p % 256
theorem byt_lt (X p : Nat) : byt X p < 256 := Nat.mod_lt _ (by decide)
theorem byt_wd (X t j : Nat) (h : j < 8) : byt X (8 * t + j) = wd X t / 256 ^ j % 256 := by
  have e1 : B ^ t = 256 ^ (8 * t) := (p256_B t).symm
  have e2 : B = 256 ^ j * 256 ^ (8 - j) := by rw [← Nat.pow_add, show j + (8 - j) = 8 from by omega]; decide
  have e3 : (256 : Nat) ∣ 256 ^ (8 - j) := by
    obtain ⟨q, hq⟩ : ∃ q, 8 - j = q + 1 := ⟨7 - j, by omega⟩
    rw [hq, Nat.pow_succ]
    exact Nat.dvd_mul_left _ _
  unfold byt wd
  rw [e1, e2, Nat.mod_mul_right_div_self, Nat.mod_mod_of_dvd _ e3, Nat.pow_add, Nat.div_div_eq_div_mul]
theorem byt_top {X p : Nat} (h : X < 256 ^ (p + 1)) : byt X p = X / 256 ^ p := by
  unfold byt
  apply Nat.mod_eq_of_lt
  rw [Nat.div_lt_iff_lt_mul (Nat.pow_pos (by decide)), Nat.mul_comm]
  rwa [Nat.pow_succ] at h
theorem byt_zero {X p : Nat} (h : X < 256 ^ (p + 1)) : byt X p = 0 ↔ X < 256 ^ p := by
  rw [byt_top h, Nat.div_eq_zero_iff]
  have : (256 : Nat) ^ p ≠ 0 := Nat.ne_of_gt (Nat.pow_pos (by decide))
  omega
/-- The bytes from place i on stand in the block. -/
structure YB (w wr : World) (b o i n X : Nat) : Prop where
  ow : OwnB wr b o n
  hi : ∀ p, i ≤ p → p < n → wr.cell? ⟨b, o + p, none⟩ = some (.int .u8 ((byt X (n - 1 - p) : Nat) : Int))
  fr : Fr (fun b' o' => b' = b ∧ o ≤ o' ∧ o' < o + n) w wr
theorem YB.drew {w wr : World} {b o i n X : Nat} (h : YB w wr b o i n X) : YB w wr.drew b o i n X := ⟨⟨h.ow.1, h.ow.2⟩, h.hi, h.fr.drew⟩
theorem YB.push {w wr : World} {b o i n X : Nat} (h : YB w wr b o (i + 1) n X) (hi : i < n) (z : Nat) (hz : z = byt X (n - 1 - i)) :
    YB w (wr.setCell ⟨b, o + i, none⟩ (.int .u8 (z : Nat))) b o i n X := by
  subst hz
  refine ⟨h.ow.set i (byt_lt _ _), fun p hp hpn => ?_, h.fr.setCell _ _ _ (fun _ => ⟨rfl, by omega, by omega⟩)⟩
  by_cases e : p = i
  · subst e
    obtain ⟨x, _, hx⟩ := h.ow.cell p hpn
    exact World.cell?_setCell_same _ _ _ hx
  · exact (World.cell?_setCell_other _ _ _ _ (by intro q; injection q with _ q2 _; omega)).trans (h.hi p (by omega) hpn)

set_option maxRecDepth 100000 in
set_option maxHeartbeats 1000000 in
theorem bytes_any {w : World} {zb zo zc k X b o n : Nat} (hz : Words w zb zo k X) (hk : k ≤ 1000) (hc : k ≤ zc) (hn : n = 8 * k) (ho : OwnB w b o n) (hne : zb ≠ b) (hzl : zb < w.heap.size) :
    Calls Tryz.prog 147 #[.slice (some ⟨zb, zo, none⟩) k zc, .slice (some ⟨b, o, none⟩) n n] w fun e w' => ∃ i : Nat, e = .returned (.int .i64 (i : Nat)) ∧ i ≤ n ∧ X < 256 ^ (n - i) ∧ YB w w' b o 0 n X := by
  have S0 : Aside (YB w w b o n n X) := ⟨⟨ho, fun p h1 h2 => by omega, Fr.refl _ _⟩⟩
  have HZ := Aside.mk hz
  have HN := Aside.mk hn
  clear ho hz hn
  have hn8 : n ≤ 8000 := by have := HN.out; omega
  go_enter Tryz.func147, Tryz.ntmps147
  go_wp2_with fail
  go_loopw [4, 12] (fun iv tv wr => ∃ i t : Nat, iv = .int .i64 (i : Nat) ∧ tv = .int .i64 (t : Nat) ∧ t ≤ k ∧ Aside (i + 8 * t = n) ∧ Aside (YB w wr b o i n X)) (fun _ tv _ => k - (intOf tv).toNat)
  case atStart => exact ⟨n, 0, rfl, rfl, Nat.zero_le _, ⟨by omega⟩, S0⟩
  case round =>
    obtain ⟨i, t, rfl, rfl, htk, HI, hS⟩ := hrel
    clear S0
    by_cases h8 : t < k
    · have hcz : wr.cell? ⟨zb, zo + t, none⟩ = some (.int .u64 ((wd X t : Nat) : Int)) := (hS.out.fr.cell _ _ hzl (fun q => hne q.1)).trans (HZ.out.cell t h8)
      obtain ⟨z, hz⟩ : ∃ z, wd X t = z := ⟨_, rfl⟩
      have hzB : z < 18446744073709551616 := by rw [← hz]; exact wd_lt X t
      rw [hz] at hcz
      have HZW := Aside.mk hz
      have h8i : (t : Int) < (k : Int) := by omega
      clear hz
      go_wp2_with fail
      go_loopw [4, 6, 7] (fun iv dv jv wx => ∃ i2 d j : Nat, iv = .int .i64 (i2 : Nat) ∧ dv = .int .u64 (d : Nat) ∧ jv = .int .i64 (j : Nat) ∧ j ≤ 8 ∧ Aside (i2 + 8 * t + j = n) ∧ Aside (d = z / 256 ^ j) ∧ d < 18446744073709551616 ∧ Aside (YB w wx b o i2 n X)) (fun _ _ jv _ => 8 - (intOf jv).toNat)
      case atStart => exact ⟨i, z, 0, rfl, rfl, rfl, by omega, ⟨by have := HI.out; omega⟩, ⟨by simp⟩, hzB, hS⟩
      case round =>
        obtain ⟨i2, d, j, rfl, rfl, rfl, hj8, HIJ, HD, hdB, hX⟩ := hrel
        clear hS hcz
        by_cases hj : j < 8
        · obtain ⟨p, rfl⟩ : ∃ p, i2 = p + 1 := ⟨i2 - 1, by have := HIJ.out; have := HN.out; omega⟩
          have hpn : p < n := by have := HIJ.out; omega
          obtain ⟨y, hy, hcy⟩ := hX.out.ow.cell p hpn
          have hfy := hX.out.ow.kind.free (o + p)
          have hval : d % 256 = byt X (n - 1 - p) := by
            rw [show n - 1 - p = 8 * t + j from by have := HIJ.out; omega, byt_wd X t j hj, HZW.out, HD.out]
          have hS3 := Aside.mk (hX.out.push hpn (d % 256) hval)
          have hw0 : IntKind.i64.wrap ((p : Int) + 1 - 1) = (p : Int) := by rw [IntKind.wrap_i64]; omega
          have hw1 : IntKind.u8.wrap (d : Int) = ((d % 256 : Nat) : Int) := by rw [IntKind.wrap_u8]; omega
          have hw3 : IntKind.i64.wrap ((j : Int) + 1) = ((j + 1 : Nat) : Int) := by rw [IntKind.wrap_i64]; omega
          have hd2 : Aside (d / 256 = z / 256 ^ (j + 1)) := ⟨by rw [HD.out, Nat.pow_succ, Nat.div_div_eq_div_mul]⟩
          have hji : (j : Int) < 8 := by omega
          have hpni : (p : Int) < (n : Int) := by omega
          have hij2 : Aside (p + 8 * t + (j + 1) = n) := ⟨by have := HIJ.out; omega⟩
          clear hval hy
          go_wp2_with fail
          go_roundw
          case rel => exact ⟨p, d / 256, j + 1, by go_num, by go_num, by go_num, by omega, hij2, hd2, by omega, hS3⟩
          case measure => simp [intOf]; omega
        · obtain rfl : j = 8 := by omega
          have hji : ¬ ((8 : Nat) : Int) < 8 := by omega
          have HI2 : Aside (i2 + 8 * (t + 1) = n) := ⟨by have := HIJ.out; omega⟩
          clear HI HIJ HD
          go_wp2_with fail
          go_roundw
          case rel => exact ⟨i2, t + 1, by go_num, by go_num, by omega, HI2, hX⟩
          case measure => simp [intOf]; omega
    · obtain rfl : t = k := by omega
      obtain rfl : i = 0 := by have := HI.out; have := HN.out; omega
      have hti : ¬ ((t : Nat) : Int) < ((t : Nat) : Int) := by omega
      clear HI
      go_wp2_with fail
      go_loopw [4] (fun iv wx => ∃ i2 : Nat, iv = .int .i64 (i2 : Nat) ∧ i2 ≤ n ∧ Aside (X < 256 ^ (n - i2)) ∧ Aside (wx = wr)) (fun iv _ => n - (intOf iv).toNat)
      case atStart => exact ⟨0, by go_num, Nat.zero_le _, ⟨by rw [Nat.sub_zero, HN.out, p256_B]; exact HZ.out.lt⟩, ⟨rfl⟩⟩
      case round =>
        obtain ⟨i2, rfl, hin, hXl, hwx⟩ := hrel
        obtain rfl := hwx.out
        by_cases hi : i2 < n
        · have hc2 := hS.out.hi i2 (Nat.zero_le _) hi
          obtain ⟨z, hz⟩ : ∃ z, byt X (n - 1 - i2) = z := ⟨_, rfl⟩
          have hzz := byt_zero (X := X) (p := n - 1 - i2) (by have := hXl.out; rwa [show n - 1 - i2 + 1 = n - i2 from by omega])
          rw [hz] at hc2 hzz
          have hii : (i2 : Int) < (n : Int) := by omega
          by_cases h0 : z = 0
          · subst h0
            have hX2 : Aside (X < 256 ^ (n - (i2 + 1))) := ⟨by rw [show n - (i2 + 1) = n - 1 - i2 from by omega]; exact hzz.1 rfl⟩
            have hw0 : IntKind.i64.wrap ((i2 : Int) + 1) = ((i2 + 1 : Nat) : Int) := by rw [IntKind.wrap_i64]; omega
            clear hzz hz hXl
            go_wp2_with fail
            go_roundw
            case rel => exact ⟨i2 + 1, by go_num, by omega, hX2, ⟨by first | rfl | trivial⟩⟩
            case measure => simp [intOf]; omega
          · have hzi : ¬ (z : Int) = 0 := by omega
            clear hzz hz
            go_wp2_with fail
            go_ret
            exact ⟨i2, by go_num, hin, hXl.out, hS.out⟩
        · have hii : ¬ (i2 : Int) < (n : Int) := by omega
          go_wp2_with fail
          go_ret
          exact ⟨i2, by go_num, hin, hXl.out, hS.out⟩
end Go.Proofs.YtgilnnipephfjaaGreatDoor
namespace Go.Proofs.YtgilnnipephfjaaGreatDoor
open Go.RowKit

/-- The m lowest bytes of a number, the highest first. -/
def bytL (X m : Nat) : List UInt8 := (List.range m).map fun q => UInt8.ofNat (byt X (m - 1 - q))
theorem bytL_length (X m : Nat) : (bytL X m).length = m := by simp [bytL]
theorem bytL_succ (X m : Nat) : bytL X (m + 1) = UInt8.ofNat (byt X m) :: bytL X m := by
  unfold bytL
  rw [List.range_succ_eq_map, List.map_cons, List.map_map]
  congr 1
  apply List.map_congr_left
  intro q _
  show UInt8.ofNat (byt X (m + 1 - 1 - (q + 1))) = _
  rw [show m + 1 - 1 - (q + 1) = m - 1 - q from by omega]
theorem beN_bytL (X m : Nat) : beN (bytL X m) = X % 256 ^ m := by
  induction m with
  | zero => simp [bytL, beN, Nat.mod_one]
  | succ m ih =>
    have e := beN_app [UInt8.ofNat (byt X m)] (bytL X m)
    rw [List.singleton_append] at e
    rw [bytL_succ, e, bytL_length, ih, Nat.mod_pow_succ]
    have e2 : beN [UInt8.ofNat (byt X m)] = byt X m := by
      simp only [beN, List.foldl_cons, List.foldl_nil, Nat.zero_mul, Nat.zero_add]
      exact UInt8.toNat_ofNat_of_lt' (byt_lt X m)
    rw [e2]
    unfold byt
    rw [Nat.mul_comm, Nat.add_comm]
theorem YB.bs {w wr : World} {b o n X : Nat} (h : YB w wr b o 0 n X) {i : Nat} (hi : i ≤ n) : Bs wr b (o + i) (bytL X (n - i)) := by
  intro q hq
  have hq' := hq
  rw [bytL_length] at hq'
  have := h.hi (i + q) (Nat.zero_le _) (by omega)
  rw [Nat.add_assoc, this]
  congr 2
  have e : (bytL X (n - i))[q] = UInt8.ofNat (byt X (n - i - 1 - q)) := by simp [bytL]
  rw [e, UInt8.toNat_ofNat_of_lt' (byt_lt X _)]
  congr 2
  omega

set_option maxRecDepth 100000 in
set_option maxHeartbeats 400000 in
theorem iBytes_any {b o : Nat} {neg : Bool} {a : Option Addr} {c X : Nat} {w : World} (hG : NG ≤ w.heap.size) (h : IA w b o neg a c X) (h0 : X ≠ 0) (hk : nlen X < 1000) :
    Calls Tryz.prog 107 #[.pointer (some ⟨b, o, none⟩)] w fun e w' => ∃ a' m, e = .returned (.slice a' m m) ∧ m ≤ 8 * nlen X ∧ RdB w' a' m m (bytL X m) ∧ beN (bytL X m) = X ∧ Fr (fun _ _ => False) w w' := by
  have ha := h.abs
  obtain ⟨zb, zo, rfl, zow, zwd⟩ := h.nt.pos h0
  have hkc := h.nt.len
  have hzl := zow.kind.lt
  obtain ⟨k, hkk⟩ : ∃ k, nlen X = k := ⟨_, rfl⟩
  have hk0 : 0 < k := by rw [← hkk]; exact nlen_pos h0
  rw [hkk] at ha hk hkc zwd ⊢
  obtain ⟨n, hn⟩ : ∃ n, 8 * k = n := ⟨_, rfl⟩
  have fm := run_makeB n n (Nat.le_refl _) (by omega)
  have hw1 : IntKind.i64.wrap ((k : Int) * 8) = (n : Int) := by rw [IntKind.wrap_i64]; omega
  obtain ⟨W, hW⟩ : ∃ W, w.alloc (.cells (madeCells #[.int .u8 0] n) 5) = W := ⟨_, rfl⟩
  have fW : Fr (fun _ _ => False) w W := by rw [← hW]; exact (Fr.refl _ w).alloc _
  have oW : OwnB W w.heap.size 0 n := by rw [← hW]; exact OwnB_made _ _ _ hG
  have haW := (fW.cell b (o + 1) h.blk.lt (fun q => q)).trans ha
  obtain ⟨s, hs⟩ : ∃ s, w.heap.size = s := ⟨_, rfl⟩
  have hlt := h.blk.lt
  have H := Lib.hid (bytes_any (w := W) (fW.words zwd (fun _ _ q => q)) (by omega) hkc hn.symm oW (by omega) (Nat.lt_of_lt_of_le hzl fW.size))
  rw [hs] at H oW
  have FW := Aside.mk fW
  have HX0 := Aside.mk h0
  have HS := Aside.mk hs
  have HZ := Aside.mk (And.intro zwd.lt hkk)
  have HN := Aside.mk hn
  clear h fW h0 zwd zow oW hkk hkc hzl hG hn
  go_enter Tryz.func107, Tryz.ntmps107
  go_wp2_with fail
  refine H.out.mono ?_
  rintro e w1 ⟨i, rfl, hin, hiX, hY⟩
  have hi' : i < n := by
    apply Classical.byContradiction
    intro q
    rw [show n - i = 0 from by omega] at hiX
    exact HX0.out (by simpa using hiX)
  have hini : (i : Int) ≤ (n : Int) := by omega
  have HY := Aside.mk hY
  have HI := Aside.mk hiX
  clear hY hiX H haW hW fm
  go_wp2_with fail
  go_ret
  refine ⟨some ⟨s, i, none⟩, n - i, rfl, by have := HN.out; omega, ⟨bytL_length _ _, Nat.le_refl _, .inr ⟨s, i, rfl, HY.out.ow.kind.lt, ?_⟩⟩, ?_, ?_⟩
  · have := HY.out.bs hin
    rwa [Nat.zero_add] at this
  · rw [beN_bytL, Nat.mod_eq_of_lt HI.out]
  · exact FW.out.trans' HY.out.fr (fun _ _ _ q => q) (fun x y hx q => by rw [HS.out] at hx; omega)
set_option maxRecDepth 100000 in
theorem bBytes_any {b o : Nat} {neg : Bool} {a : Option Addr} {c X : Nat} {w : World} (hG : NG ≤ w.heap.size) (h : IA w b o neg a c X) (h0 : X ≠ 0) (hk : nlen X < 1000) :
    Calls Tryz.prog 76 #[.pointer (some ⟨b, o, none⟩)] w fun e w' => ∃ a' m, e = .returned (.slice a' m m) ∧ m ≤ 8 * nlen X ∧ RdB w' a' m m (bytL X m) ∧ beN (bytL X m) = X ∧ Fr (fun _ _ => False) w w' := by
  have H := Lib.hid (iBytes_any hG h h0 hk)
  clear h h0 hk
  go_enter Tryz.func76, Tryz.ntmps76
  go_wp2_with fail
  refine H.out.mono ?_
  rintro e w1 ⟨a', m, rfl, s⟩
  have S := Aside.mk s
  clear s H
  go_wp2_with fail
  go_ret
  exact ⟨a', m, rfl, S.out⟩
/-- Of 0, into no bytes. -/
theorem bytes_zero {w : World} {a b : Option Addr} {c d : Nat} :
    Calls Tryz.prog 147 #[.slice a 0 c, .slice b 0 d] w fun e w' => e = .returned (.int .i64 0) ∧ w' = w := by
  go_enter Tryz.func147, Tryz.ntmps147
  go_wp2_with fail
  go_loop [4, 12] (fun iv tv => iv = .int .i64 0 ∧ tv = .int .i64 0) (fun _ _ => 0)
  case atStart => exact ⟨rfl, rfl⟩
  case round =>
    obtain ⟨rfl, rfl⟩ := hrel
    go_wp2_with fail
    go_loop [4] (fun iv => iv = .int .i64 0) (fun _ => 0)
    case atStart => rfl
    case round =>
      obtain rfl := hrel
      go_wp2_with fail
      go_ret
      exact ⟨rfl, rfl⟩
set_option maxRecDepth 100000 in
theorem iFill_zero {b o : Nat} {neg : Bool} {a : Option Addr} {c : Nat} {w : World} (h : IA w b o neg a c 0) :
    Calls Tryz.prog 106 #[.pointer (some ⟨b, o, none⟩), .slice none 0 0] w fun e w' => e = .returned (.slice none 0 0) ∧ w' = w := by
  have ha := h.abs
  rw [nlen_zero] at ha
  have H := Lib.hid (bytes_zero (w := w) (a := a) (b := none) (c := c) (d := 0))
  have hcl : (Builtin.clear_ #[38] 0 #[.slice none 0 0]).run Tryz.prog w = .ok (.tuple #[]) w := by kernel_rfl
  clear h
  go_enter Tryz.func106, Tryz.ntmps106
  go_wp2_with fail
  refine H.out.mono ?_
  rintro e w1 ⟨rfl, rfl⟩
  clear H
  go_wp2_with fail
  go_ret
  exact ⟨rfl, rfl⟩
set_option maxRecDepth 100000 in
theorem bFill_zero {b o : Nat} {neg : Bool} {a : Option Addr} {c : Nat} {w : World} (h : IA w b o neg a c 0) :
    Calls Tryz.prog 75 #[.pointer (some ⟨b, o, none⟩), .slice none 0 0] w fun e w' => e = .returned (.slice none 0 0) ∧ w' = w := by
  have H := Lib.hid (iFill_zero h)
  clear h
  go_enter Tryz.func75, Tryz.ntmps75
  go_wp2_with fail
  refine H.out.mono ?_
  rintro e w1 ⟨rfl, rfl⟩
  clear H
  go_wp2_with fail
  go_ret
  exact ⟨rfl, rfl⟩
end Go.Proofs.YtgilnnipephfjaaGreatDoor
namespace Go.Proofs.YtgilnnipephfjaaGreatDoor
open Go.RowKit

set_option maxRecDepth 100000 in
set_option maxHeartbeats 400000 in
theorem dDec_fin {z : Nat} {n : Bool} {e : Int} {a : Option Addr} {c X : Nat} {w : World} (hG : NG ≤ w.heap.size) (h : DA w z 0 n e a c X) (hk : nlen X < 1000) :
    Calls Tryz.prog 41 #[.pointer (some ⟨z, 0, none⟩), .slice none 0 0] w fun r w' => ∃ a' m l, r = .returned (.tuple #[.int .u8 0, .bool n, .slice a' m m, .int .i32 e]) ∧ m ≤ 8 * nlen X ∧ RdB w' a' m m l ∧ beN l = X ∧ Fr (fun _ _ => False) w w' := by
  have y0 := h.form
  have y1 := h.neg
  have y2 := h.exp
  have HBL := Lib.hid (bBitLen_any h.num hk)
  by_cases h0 : X = 0
  · subst h0
    have HF := Lib.hid (bFill_zero h.num)
    rw [show bl 0 = 0 from rfl] at HBL
    clear h
    go_enter Tryz.func41, Tryz.ntmps41
    go_wp2_with fail
    refine HBL.out.mono ?_
    rintro e1 w1 ⟨rfl, rfl⟩
    clear HBL
    go_wp2_with fail
    refine HF.out.mono ?_
    rintro e1 w1 ⟨rfl, rfl⟩
    clear HF
    go_wp2_with fail
    refine bodyPost_ret (v := .tuple #[.int .u8 0, .bool n, .slice none 0 0, .int .i32 e]) (by simp [results, Tryz.results41, go_sem]) rfl ?_
    exact ⟨none, 0, [], rfl, Nat.zero_le _, ⟨rfl, Nat.le_refl _, .inl rfl⟩, rfl, Fr.refl _ _⟩
  · have HB := Lib.hid (bBytes_any hG h.num h0 hk)
    have hb0 := bl_pos h0
    have hbm : bl X ≤ 64 * nlen X := (lt_two_iff X _).1 (by have := nlen_lt X; rwa [B_two, ← Nat.pow_mul] at this)
    obtain ⟨q, hq⟩ : ∃ q, bl X = q := ⟨_, rfl⟩
    rw [hq] at HBL hb0 hbm
    obtain ⟨m, hm⟩ : ∃ m, (q + 7) / 8 = m := ⟨_, rfl⟩
    have hmn : 0 < m := by rw [← hm]; exact Nat.div_pos (Nat.le_trans (show 8 ≤ 1 + 7 by decide) (Nat.add_le_add_right hb0 7)) (by decide)
    have hm0 : ¬ (m : Int) ≤ 0 := fun p => absurd (Int.ofNat_le.1 p) (Nat.not_le.2 hmn)
    have hw1 : IntKind.i64.wrap ((q : Int) + 8) = (q : Int) + 8 := by rw [IntKind.wrap_i64]; omega
    have hw2 : IntKind.i64.wrap ((q : Int) + 8 - 1) = (q : Int) + 7 := by rw [IntKind.wrap_i64]; omega
    have hw3 : ((q : Int) + 7) / 8 = (m : Int) := by omega
    have hw4 : IntKind.i64.wrap (m : Int) = (m : Int) := by rw [IntKind.wrap_i64]; omega
    have hw5 : wrap64 (((q : Int) + 7).tdiv 8) = (m : Int) := by rw [Int.tdiv_eq_ediv_of_nonneg (by omega), hw3]; unfold wrap64; omega
    clear h h0 hb0 hbm hq
    go_enter Tryz.func41, Tryz.ntmps41
    go_wp2_with fail
    refine HBL.out.mono ?_
    rintro e1 w1 ⟨rfl, rfl⟩
    clear HBL
    go_wp2_with fail
    refine HB.out.mono ?_
    rintro e1 w1 ⟨a', k, rfl, k1, k2, k3, k4⟩
    have K := Aside.mk (And.intro k1 (And.intro k2 (And.intro k3 k4)))
    clear k1 k2 k3 k4 HB hw1 hw2 hw3 hw4 hw5 hm0
    go_wp2_with fail
    refine bodyPost_ret (v := .tuple #[.int .u8 0, .bool n, .slice a' k k, .int .i32 e]) (by simp [results, Tryz.results41, go_sem]) rfl ?_
    exact ⟨a', k, _, rfl, K.out.1, K.out.2.1, K.out.2.2.1, K.out.2.2.2⟩
set_option maxRecDepth 100000 in
set_option maxHeartbeats 400000 in
theorem dDec_inf {z : Nat} {n : Bool} {e : Int} {a : Option Addr} {c X : Nat} {w : World} (h : DA w z 1 n e a c X) :
    Calls Tryz.prog 41 #[.pointer (some ⟨z, 0, none⟩), .slice none 0 0] w fun r w' => r = .returned (.tuple #[.int .u8 1, .bool n, .slice none 0 0, .int .i32 0]) ∧ w' = w := by
  have y0 := h.form
  have y1 := h.neg
  clear h
  go_enter Tryz.func41, Tryz.ntmps41
  go_wp2_with fail
  refine bodyPost_ret (v := .tuple #[.int .u8 1, .bool n, .slice none 0 0, .int .i32 0]) (by simp [results, Tryz.results41, go_sem]) rfl ?_
  exact ⟨rfl, rfl⟩
set_option maxRecDepth 100000 in
set_option maxHeartbeats 400000 in
theorem dDec_nan {z : Nat} {f : Int} {n : Bool} {e : Int} {a : Option Addr} {c X : Nat} {w : World} (hf : f = 2 ∨ f = 3) (h : DA w z f n e a c X) :
    Calls Tryz.prog 41 #[.pointer (some ⟨z, 0, none⟩), .slice none 0 0] w fun r w' => r = .returned (.tuple #[.int .u8 2, .bool n, .slice none 0 0, .int .i32 0]) ∧ w' = w := by
  have y0 := h.form
  have y1 := h.neg
  clear h
  rcases hf with rfl | rfl
  · go_enter Tryz.func41, Tryz.ntmps41
    go_wp2_with fail
    refine bodyPost_ret (v := .tuple #[.int .u8 2, .bool n, .slice none 0 0, .int .i32 0]) (by simp [results, Tryz.results41, go_sem]) rfl ?_
    exact ⟨rfl, rfl⟩
  · go_enter Tryz.func41, Tryz.ntmps41
    go_wp2_with fail
    refine bodyPost_ret (v := .tuple #[.int .u8 2, .bool n, .slice none 0 0, .int .i32 0]) (by simp [results, Tryz.results41, go_sem]) rfl ?_
    exact ⟨rfl, rfl⟩
set_option maxRecDepth 100000 in
set_option maxHeartbeats 400000 in
theorem dCom_inf {z : Nat} {neg0 : Bool} {e0 : Int} {w : World} {a : Option Addr} {nb cb : Nat} (n : Bool) (e : Int) (h : DA w z 0 neg0 e0 none 0 0) :
    Calls Tryz.prog 43 #[.pointer (some ⟨z, 0, none⟩), .int .u8 1, .bool n, .slice a nb cb, .int .i32 e] w fun e1 w' => e1 = .returned .nilIface ∧ DA w' z 1 n e0 none 0 0 ∧ Fr (fun x _ => x = z) w w' := by
  have D1 := Aside.mk ((h.setForm 1).setNeg n)
  have y0 := h.form
  have y1 := h.neg
  have f0 := h.num.blk.free 0
  have f1 := h.num.blk.free 1
  clear h
  go_enter Tryz.func43, Tryz.ntmps43
  go_wp2_with fail
  go_ret
  exact ⟨rfl, D1.out, ((Fr.refl _ w).setCell z 0 _ (fun _ => rfl)).setCell z 1 _ (fun _ => rfl)⟩
set_option maxRecDepth 100000 in
set_option maxHeartbeats 400000 in
theorem dCom_nan {z : Nat} {neg0 : Bool} {e0 : Int} {w : World} {a : Option Addr} {nb cb : Nat} (n : Bool) (e : Int) (h : DA w z 0 neg0 e0 none 0 0) :
    Calls Tryz.prog 43 #[.pointer (some ⟨z, 0, none⟩), .int .u8 2, .bool n, .slice a nb cb, .int .i32 e] w fun e1 w' => e1 = .returned .nilIface ∧ DA w' z 3 n e0 none 0 0 ∧ Fr (fun x _ => x = z) w w' := by
  have D1 := Aside.mk ((h.setForm 3).setNeg n)
  have y0 := h.form
  have y1 := h.neg
  have f0 := h.num.blk.free 0
  have f1 := h.num.blk.free 1
  clear h
  go_enter Tryz.func43, Tryz.ntmps43
  go_wp2_with fail
  go_ret
  exact ⟨rfl, D1.out, ((Fr.refl _ w).setCell z 0 _ (fun _ => rfl)).setCell z 1 _ (fun _ => rfl)⟩
end Go.Proofs.YtgilnnipephfjaaGreatDoor
