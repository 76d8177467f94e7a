/- Context.SetString, NewFromString, at a mark, digits, a point, digits. -/
import Derived.Test.YtgilnnipephfjaaGreatDoorM27Str1
set_option linter.unusedSimpArgs false
set_option linter.unusedVariables false
namespace Go.Proofs.YtgilnnipephfjaaGreatDoor
open Go.RowKit

/-- What the package-level variables hold that the calls read. -/
structure Gv (w : World) : Prop where
  g : Gl w
  eof : EofV w
  base : CA w 0 0 100000 (-100000) 1967 ⟨#[]⟩
theorem Gv.fr {S : Nat → Nat → Prop} {w w' : World} (h : Gv w) (f : Fr S w w') (hs : ∀ x y, S x y → NG ≤ x) : Gv w' :=
  ⟨h.g.fr f hs, h.eof.fr h.g.size f hs, h.base.fr f (fun _ k => absurd (hs _ _ k) (by decide))⟩
theorem Gv.new {w w' : World} (h : Gv w) (f : Fr (fun _ _ => False) w w') : Gv w' := h.fr f (fun _ _ k => k.elim)
theorem Gv.drewN {w : World} (h : Gv w) (d : Nat) : Gv (w.drewN d) := h.new ((Fr.refl _ w).drewN d)

set_option maxRecDepth 100000 in
theorem cSetString_neg {w : World} {b : Nat} {f e : Int} {n : Bool} {a : Option Addr} {c X : Nat} {A B : List UInt8} {s : ByteArray} (g : Gv w) (h : DA w b f n e a c X)
    (hs : s = mk (45 :: (A ++ 46 :: B))) (hA : Digs A) (hB : Digs B) (h0 : 0 < (A ++ B).length) (hlen : (A ++ B).length ≤ 300) (hX : bl (numOf (A ++ B)) ≤ 1100) :
    Calls Tryz.prog 26 #[.pointer (some ⟨0, 0, none⟩), .pointer (some ⟨b, 0, none⟩), .string s] w fun e1 w' => ∃ a' c',
      e1 = .returned (.tuple #[.pointer (some ⟨b, 0, none⟩), .int .u32 0, .nilIface]) ∧ DA w' b 0 true (-(B.length : Int)) a' c' (numOf (A ++ B)) ∧ Fr (dfoot b a c) w w' ∧ Out w a c a' c' := by
  have hcb : 0 ≠ b := by rintro rfl; exact absurd h.num.blk.1 (by decide)
  have hlB : B.length ≤ 300 := by rw [List.length_append] at hlen; omega
  have hnd := ndig_bl (numOf (A ++ B))
  have hnp := ndig_pos (numOf (A ++ B))
  have hS := Lib.hid (setString_neg g.g g.eof h g.base hcb (fun o k => absurd (h.num.nt.reg.lo _ _ k) (by decide)) (by omega) (by omega) hs hA hB h0 hlen hX (by omega) (by omega))
  have HLO := Aside.mk h.lo
  have HG := Aside.mk g
  obtain ⟨bb, hbb⟩ : ∃ x, B.length = x := ⟨_, rfl⟩
  rw [hbb] at hS hlB ⊢
  clear hs hA hB h0 hbb h g
  go_enter Tryz.func26, Tryz.ntmps26
  go_wp2_with fail
  refine hS.out.mono ?_
  rintro e1 w1 ⟨a1, c1, rfl, s1, s2, s3⟩
  have G1 := HG.out.fr s2 HLO.out
  have hR := Lib.hid (cround0_any G1.g s1 hX G1.base hcb (by omega) (by omega) (by omega) (by omega) (by omega) (by omega))
  have S2 := Aside.mk s2
  have S3 := Aside.mk s3
  clear s1 s2 s3 G1 hS hnd hnp
  go_wp2_with fail
  refine hR.out.mono ?_
  rintro e1 w2 ⟨rfl, t1, t2⟩
  have T1 := Aside.mk t1
  have T2 := Aside.mk (S2.out.trans' t2 (U := dfoot b a c) (fun _ _ _ k => k) (fun _ _ _ k => .inl k))
  clear t1 t2 hR
  go_wp2_with fail
  refine (goError0 _ _).mono ?_
  rintro e1 w3 ⟨rfl, rfl⟩
  go_wp2_with fail
  go_ret3
  exact ⟨a1, c1, rfl, T1.out, T2.out, S3.out⟩
set_option maxRecDepth 100000 in
theorem newFromString_neg {w : World} {A B : List UInt8} {s : ByteArray} (g : Gv w)
    (hs : s = mk (45 :: (A ++ 46 :: B))) (hA : Digs A) (hB : Digs B) (h0 : 0 < (A ++ B).length) (hlen : (A ++ B).length ≤ 300) (hX : bl (numOf (A ++ B)) ≤ 1100) :
    Calls Tryz.prog 48 #[.string s] w fun e1 w' => ∃ a' c',
      e1 = .returned (.tuple #[.pointer (some ⟨w.heap.size, 0, none⟩), .int .u32 0, .nilIface]) ∧ DA w' w.heap.size 0 true (-(B.length : Int)) a' c' (numOf (A ++ B)) ∧ Fr (fun _ _ => False) w w' := by
  have F1 := Aside.mk ((Fr.refl (fun _ _ => False) w).alloc (.cells #[.int .i8 0, .bool false, .int .i32 0, .bool false, .slice none 0 0] 71))
  have hS := Lib.hid (cSetString_neg (g.new F1.out) (DA.new g.g.size 71 0 false 0) hs hA hB h0 hlen hX)
  obtain ⟨bb, hbb⟩ : ∃ x, B.length = x := ⟨_, rfl⟩
  rw [hbb] at hS ⊢
  have hC : Hid (Calls Tryz.prog 27 #[.pointer (some ⟨0, 0, none⟩), .string s] w fun e1 w' => ∃ a' c',
      e1 = .returned (.tuple #[.pointer (some ⟨w.heap.size, 0, none⟩), .int .u32 0, .nilIface]) ∧ Aside (DA w' w.heap.size 0 true (-(bb : Int)) a' c' (numOf (A ++ B)) ∧ Fr (fun _ _ => False) w w')) := Lib.hid (by
    clear hs hA hB h0 hbb g hX hlen
    go_enter Tryz.func27, Tryz.ntmps27
    go_wp2_with fail
    refine hS.out.mono ?_
    rintro e1 w1 ⟨a1, c1, rfl, s1, s2, s3⟩
    have S := Aside.mk (And.intro s1 (F1.out.trans' s2 (U := fun _ _ => False) (fun _ _ _ k => k) (fun x y hx k => by
      rcases k with rfl | k
      · omega
      · exact foot_none _ _ _ k)))
    clear s1 s2 s3 hS
    go_wp2_with fail
    go_ret3
    exact ⟨a1, c1, rfl, S⟩)
  clear hs hA hB h0 hbb g hX hlen hS
  go_enter Tryz.func48, Tryz.ntmps48
  go_wp2_with fail
  refine hC.out.mono ?_
  rintro e1 w1 ⟨a1, c1, rfl, S⟩
  go_wp2_with fail
  go_ret3
  exact ⟨a1, c1, rfl, S.out⟩
end Go.Proofs.YtgilnnipephfjaaGreatDoor
