/- laws.FnParse. -/
import Derived.Test.YtifkpcijheabhaaGreatDoorQ49SpecP3
import Derived.Test.YtifkpcijheabhaaGreatDoorP44Par6s
import Derived.Test.YtifkpcijheabhaaGreatDoorQ46Par6
import Derived.Test.YtifkpcijheabhaaGreatDoorM33Eql
set_option linter.unusedSimpArgs false
set_option linter.unusedVariables false
namespace Go.Proofs.YtifkpcijheabhaaGreatDoor
open Go.RowKit

set_option maxRecDepth 100000 in
theorem fnParse_big {w : World} {s : ByteArray} {b1 : Int} (h : ¬ s.size ≤ 2147483647) : Calls Tryz.prog 3 #[.string s, .int .u8 b1] w fun e1 w' => e1 = .returned (.bool true) ∧ Fr (fun _ _ => False) w w' := by
  have h2 : (2147483647 : Int) < (s.size : Int) := by omega
  clear h
  go_enter Tryz.func3, Tryz.ntmps3
  go_wp2_with fail
  go_ret
  exact ⟨rfl, Fr.refl _ _⟩
set_option maxRecDepth 100000 in
theorem fnParse_any {w : World} (g : Gv w) (sy : SyV w) {l : List UInt8} {b1 : Int} (hb : 0 ≤ b1 ∧ b1 ≤ 255) : Calls Tryz.prog 3 #[.string (mk l), .int .u8 b1] w fun e1 w' => e1 = .returned (.bool true) ∧ Fr (fun _ _ => False) w w' := by
  obtain ⟨s0, hs0⟩ : ∃ s, mk l = s := ⟨_, rfl⟩
  by_cases hz : s0.size ≤ 2147483647
  case neg => rw [hs0]; exact fnParse_big hz
  have hsl : l.length = s0.size := by rw [← hs0, mk_size]
  have hG := g.g.size
  have hSp : Hid (∀ w1, Fr (fun _ _ => False) w w1 → Calls Tryz.prog 7 #[.string s0] w1 fun e1 w' => ∃ (f : Int) (ng : Bool) (e : Int) (s : ByteArray) (ok sd : Bool), e1 = .returned (.agg #[.int .i64 f, .bool ng, .int .i32 e, .string s, .bool ok, .bool sd]) ∧ Aside (l.length ≤ 1000 → sd = true → SPR l f ng e s ok) ∧ Aside (Fr (fun _ _ => False) w1 w')) := Lib.hid (fun w1 q => by
    rw [← hs0]
    refine (specParse_any (Nat.le_trans hG q.size) (by omega)).mono ?_
    rintro e1 w' ⟨f, ng, e, s, ok, sd, rfl, h1, h2⟩
    exact ⟨f, ng, e, s, ok, sd, rfl, ⟨h1⟩, ⟨h2⟩⟩)
  have hA : Hid (∀ w1, Fr (fun _ _ => False) w w1 → Calls Tryz.prog 8 #[] w1 fun e1 w2 => e1 = .returned (.bool true) ∧ Fr (fun _ _ => False) w1 w2) := Lib.hid (fun w1 q => alive (g.new q))
  obtain ⟨k, hk, hk2⟩ : ∃ k : Nat, b1 % 3 = (k : Int) ∧ k ≤ 2 := ⟨(b1 % 3).toNat, by omega, by omega⟩
  have hPo : Hid (∀ w1, Fr (fun _ _ => False) w w1 → ∀ (f : Nat) (ng : Bool) (e : Int) (X : Nat), SetOk (mk l) f ng e X → bl X ≤ 1100 → (-60000 ≤ e ∧ e ≤ 60000) → f ≤ 3 → Sm X →
      Calls Tryz.prog 9 #[.string s0, .int .i64 k] w1 fun e1 w' => e1 = .returned (.tuple #[.agg #[.int .i64 f, .bool ng, .int .i32 e, .string (mk (natText X))], .bool true]) ∧ Aside (Fr (fun _ _ => False) w1 w')) := Lib.hid (fun w1 q f ng e X h1 h2 h3 h4 h5 => by
    rw [hs0] at h1
    refine (parse_ok hk2 (g.new q) (sy.new hG q) h1 h2 h3 h4 h5).mono ?_
    rintro e1 w' ⟨rfl, h⟩
    exact ⟨rfl, ⟨h⟩⟩)
  have hPn : Hid (∀ w1, Fr (fun _ _ => False) w w1 → SetNo (mk l) →
      Calls Tryz.prog 9 #[.string s0, .int .i64 k] w1 fun e1 w' => e1 = .returned (.tuple #[.agg #[.int .i64 0, .bool false, .int .i32 0, .string ⟨#[]⟩], .bool false]) ∧ Aside (Fr (fun _ _ => False) w1 w')) := Lib.hid (fun w1 q h1 => by
    rw [hs0] at h1
    refine (parse_no hk2 (g.new q) (sy.new hG q) h1).mono ?_
    rintro e1 w' ⟨rfl, h⟩
    exact ⟨rfl, ⟨h⟩⟩)
  have HSL := Aside.mk hsl
  obtain ⟨hb1, hb2⟩ := hb
  have hz2 : (s0.size : Int) ≤ 2147483647 := by omega
  rw [hs0]
  clear hs0 hsl g sy hz
  go_enter Tryz.func3, Tryz.ntmps3
  go_wp2_with fail
  refine (hSp.out _ (Fr.refl _ _)).mono ?_
  rintro e1 w2 ⟨f, ng, e, s, ok, sd, rfl, HR, k2⟩
  clear hSp
  have hc : ∀ o, (w2.alloc (.cells #[.int .i64 f, .bool ng, .int .i32 e, .string s, .bool ok, .bool sd] 25)).cell? ⟨w2.heap.size, o, none⟩ = (#[.int .i64 f, .bool ng, .int .i32 e, .string s, .bool ok, .bool sd] : Array Value)[o]? := fun o => World.cell?_alloc_new _ _ _ o
  have HP : Aside (Cl (w2.alloc (.cells #[.int .i64 f, .bool ng, .int .i32 e, .string s, .bool ok, .bool sd] 25)) w2.heap.size 0 (.int .i64 f) ∧ Cl (w2.alloc (.cells #[.int .i64 f, .bool ng, .int .i32 e, .string s, .bool ok, .bool sd] 25)) w2.heap.size 1 (.bool ng) ∧ Cl (w2.alloc (.cells #[.int .i64 f, .bool ng, .int .i32 e, .string s, .bool ok, .bool sd] 25)) w2.heap.size 2 (.int .i32 e) ∧ Cl (w2.alloc (.cells #[.int .i64 f, .bool ng, .int .i32 e, .string s, .bool ok, .bool sd] 25)) w2.heap.size 3 (.string s) ∧ Cl (w2.alloc (.cells #[.int .i64 f, .bool ng, .int .i32 e, .string s, .bool ok, .bool sd] 25)) w2.heap.size 4 (.bool ok) ∧ Cl (w2.alloc (.cells #[.int .i64 f, .bool ng, .int .i32 e, .string s, .bool ok, .bool sd] 25)) w2.heap.size 5 (.bool sd)) := ⟨by
    have fr := fun o => free_of_kind (kind_alloc_new w2 #[.int .i64 f, .bool ng, .int .i32 e, .string s, .bool ok, .bool sd] 25 (0, 0)) o
    exact ⟨⟨hc 0, fr 0⟩, ⟨hc 1, fr 1⟩, ⟨hc 2, fr 2⟩, ⟨hc 3, fr 3⟩, ⟨hc 4, fr 4⟩, ⟨hc 5, fr 5⟩⟩⟩
  have F3 := Aside.mk (k2.out.alloc (.cells #[.int .i64 f, .bool ng, .int .i32 e, .string s, .bool ok, .bool sd] 25))
  clear hc
  obtain ⟨x, hx⟩ : ∃ x, w2.heap.size = x := ⟨_, rfl⟩
  have hlt : x < (w2.alloc (.cells #[.int .i64 f, .bool ng, .int .i32 e, .string s, .bool ok, .bool sd] 25)).heap.size := by rw [← hx, World.size_alloc]; omega
  have HLT := Aside.mk hlt
  clear hlt
  rw [hx] at HP
  go_upto_region 4 with fail
  try rw [hx]
  obtain ⟨W3, hW3⟩ : ∃ y, (w2.alloc (.cells #[.int .i64 f, .bool ng, .int .i32 e, .string s, .bool ok, .bool sd] 25)) = y := ⟨_, rfl⟩
  rw [hW3] at HP F3 HLT ⊢
  clear hW3 k2 hx
  obtain ⟨⟨c0, g0⟩, ⟨c1, g1⟩, ⟨c2, g2⟩, ⟨c3, g3⟩, ⟨c4, g4⟩, ⟨c5, g5⟩⟩ := HP.out
  have alive_end : True := trivial
  by_cases h300 : (300 : Int) < (s0.size : Int)
  · clear c0 c1 c2 c3 c4 c5 g0 g1 g2 g3 g4 g5
    go_wp2_with fail
    refine (hA.out _ F3.out).mono ?_
    rintro e1 w5 ⟨rfl, k5⟩
    have F5 := Aside.mk (F3.out.trans k5)
    clear k5
    go_wp2_with fail
    go_ret
    exact ⟨rfl, F5.out⟩
  cases sd
  · go_wp2_with fail
    refine (hA.out _ F3.out).mono ?_
    rintro e1 w5 ⟨rfl, k5⟩
    have F5 := Aside.mk (F3.out.trans k5)
    clear k5
    go_wp2_with fail
    go_ret
    exact ⟨rfl, F5.out⟩
  have HAns : Aside (Ans l f ng e s ok) := ⟨ans_of (HR.out (by have := HSL.out; omega) rfl) (by have := HSL.out; omega)⟩
  clear HR
  have hq := fun w => eql_dec w f e ng s
  cases ok
  · have hSN := Aside.mk (HAns.out.2 rfl)
    go_wp2_with fail
    refine (hPn.out _ F3.out hSN.out).mono ?_
    rintro e1 w4 ⟨rfl, k4⟩
    have HP4 : Aside (Cl w4 x 4 (.bool false)) := ⟨HP.out.2.2.2.2.1.fr k4.out (fun q => q)⟩
    have F4 := Aside.mk (F3.out.trans k4.out)
    clear c0 c1 c2 c3 c4 c5 g0 g1 g2 g3 g4 g5 k4 hPo hPn HP HLT
    have HP5 := Aside.mk (HP4.out.fr ((Fr.refl (fun _ _ => False) w4).alloc (.cells #[.int .i64 0, .bool false, .int .i32 0, .string ⟨#[]⟩] 23)) (fun q => q))
    have F5 := Aside.mk (F4.out.alloc (.cells #[.int .i64 0, .bool false, .int .i32 0, .string ⟨#[]⟩] 23))
    clear HP4 F4
    go_wp2_with fail
    refine (hA.out _ F5.out).mono ?_
    rintro e1 w6 ⟨rfl, k6⟩
    obtain ⟨c4, g4⟩ := HP5.out.fr k6 (fun q => q)
    have F6 := Aside.mk (F5.out.trans k6)
    clear k6
    go_wp2_with fail
    go_ret
    exact ⟨rfl, F6.out⟩
  · obtain ⟨X, f1, hf, hf3, hs, hS, hbl, hSm, he⟩ := HAns.out.1 rfl
    subst hf
    have HS := Aside.mk (And.intro hS (And.intro hbl (And.intro he (And.intro hf3 hSm))))
    have HSN := Aside.mk hs
    clear hS hbl hSm he hf3 hs HAns
    go_wp2_with fail
    refine (hPo.out _ F3.out _ _ _ _ HS.out.1 HS.out.2.1 HS.out.2.2.1 HS.out.2.2.2.1 HS.out.2.2.2.2).mono ?_
    rintro e1 w4 ⟨rfl, k4⟩
    have F4 := Aside.mk (F3.out.trans k4.out)
    have HP4 := Aside.mk (And.intro (HP.out.1.fr k4.out (fun q => q)) (And.intro (HP.out.2.1.fr k4.out (fun q => q)) (And.intro (HP.out.2.2.1.fr k4.out (fun q => q)) (And.intro (HP.out.2.2.2.1.fr k4.out (fun q => q)) (HP.out.2.2.2.2.1.fr k4.out (fun q => q))))))
    clear c0 c1 c2 c3 c4 c5 g0 g1 g2 g3 g4 g5 k4 hPo hPn HP HLT HS
    rw [← HSN.out]
    have HB := Aside.mk (D4.new (w := w4) f1 e ng s 23)
    have FA := (Fr.refl (fun _ _ => False) w4).alloc (.cells #[.int .i64 f1, .bool ng, .int .i32 e, .string s] 23)
    have HP5 := Aside.mk (And.intro (HP4.out.1.fr FA (fun q => q)) (And.intro (HP4.out.2.1.fr FA (fun q => q)) (And.intro (HP4.out.2.2.1.fr FA (fun q => q)) (And.intro (HP4.out.2.2.2.1.fr FA (fun q => q)) (HP4.out.2.2.2.2.fr FA (fun q => q))))))
    have F5 := Aside.mk (F4.out.alloc (.cells #[.int .i64 f1, .bool ng, .int .i32 e, .string s] 23))
    clear HP4 F4 FA
    go_wp2_with fail
    refine (hA.out _ F5.out).mono ?_
    rintro e1 w6 ⟨rfl, k6⟩
    obtain ⟨d0, d1, d2, d3, _⟩ := E8.of (HB.out.fr k6 (fun _ q => q))
    obtain ⟨c0, g0⟩ := HP5.out.1.fr k6 (fun q => q)
    obtain ⟨c1, g1⟩ := HP5.out.2.1.fr k6 (fun q => q)
    obtain ⟨c2, g2⟩ := HP5.out.2.2.1.fr k6 (fun q => q)
    obtain ⟨c3, g3⟩ := HP5.out.2.2.2.1.fr k6 (fun q => q)
    obtain ⟨c4, g4⟩ := HP5.out.2.2.2.2.fr k6 (fun q => q)
    have F6 := Aside.mk (F5.out.trans k6)
    have hq6 := hq w6
    clear k6 hq HP5 HB F5
    go_wp2_with fail
    go_ret
    exact ⟨rfl, F6.out⟩
end Go.Proofs.YtifkpcijheabhaaGreatDoor
