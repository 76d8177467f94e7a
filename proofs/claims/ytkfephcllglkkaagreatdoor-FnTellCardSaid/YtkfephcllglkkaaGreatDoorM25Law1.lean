/- Comparing structs of plain fields. laws.FnFromInt. -/
import Derived.Test.YtkfephcllglkkaaGreatDoorM24Spec3
set_option linter.unusedSimpArgs false
set_option linter.unusedVariables false
namespace Go.Proofs.YtkfephcllglkkaaGreatDoor
open Go.RowKit

theorem eqFields_same {w : World} (d : Nat) (xs : Array Value) : ∀ fs : List Field, (∀ f ∈ fs, ∃ v, (part f.type xs f.offset).run Tryz.prog w = .ok v w ∧ (Op.equalIn d f.type v v).run Tryz.prog w = .ok true w) → (Op.eqFields d xs xs fs).run Tryz.prog w = .ok true w
  | [], _ => by simp [Op.eqFields]
  | f :: fs, h => by
    have ih := eqFields_same d xs fs (fun g hg => h g (List.mem_cons_of_mem _ hg))
    obtain ⟨v, h1, h2⟩ := h f (List.mem_cons_self ..)
    simp only [Op.eqFields]
    split
    · simp [h1, h2, ih]
    · exact ih
theorem fields_dec : ((Tryz.prog.fieldsOf 23).toList.map fun f => (f.type, f.offset)) = [(3, 0), (4, 1), (21, 2), (9, 3)] := by kernel_rfl
theorem under_dec : Tryz.prog.underlying 23 = some (.struct (Tryz.prog.fieldsOf 23)) := by kernel_rfl
theorem held_dec : Tryz.prog.stoodInHeld 23 = false := by kernel_rfl
theorem eql_dec (w : World) (f e : Int) (n : Bool) (s : ByteArray) : (binOp .eql 23 (.agg #[.int .i64 f, .bool n, .int .i32 e, .string s]) (.agg #[.int .i64 f, .bool n, .int .i32 e, .string s])).run Tryz.prog w = .ok (.bool true) w := by
  rw [run_eql_struct, run_equalIn_agg w 9999 23 _ _ under_dec held_dec, eqFields_same]
  · rfl
  · intro g hg
    have hm : (g.type, g.offset) ∈ ((Tryz.prog.fieldsOf 23).toList.map fun f => (f.type, f.offset)) := List.mem_map_of_mem (f := fun f : Field => (f.type, f.offset)) hg
    rw [fields_dec] at hm
    simp only [List.mem_cons, List.not_mem_nil, or_false, Prod.mk.injEq] at hm
    rcases hm with ⟨h1, h2⟩ | ⟨h1, h2⟩ | ⟨h1, h2⟩ | ⟨h1, h2⟩ <;> rw [h1, h2]
    · exact ⟨.int .i64 f, by simp [go_sem], by rw [run_equalIn_int w 9998 3 .i64 .i64 f f Tryz.underlying3]; simp⟩
    · exact ⟨.bool n, by simp [go_sem], by rw [run_equalIn_bool' w 9998 4 n n Tryz.underlying4]; simp⟩
    · exact ⟨.int .i32 e, by simp [go_sem], by rw [run_equalIn_int w 9998 21 .i32 .i32 e e Tryz.underlying21]; simp⟩
    · exact ⟨.string s, by simp [go_sem], by rw [run_equalIn_string w 9998 9 s s Tryz.underlying9]; simp⟩
theorem fields_told : ((Tryz.prog.fieldsOf 27).toList.map fun f => (f.type, f.offset)) = [(4, 0), (3, 1), (2, 2)] := by kernel_rfl
theorem under_told : Tryz.prog.underlying 27 = some (.struct (Tryz.prog.fieldsOf 27)) := by kernel_rfl
theorem held_told : Tryz.prog.stoodInHeld 27 = false := by kernel_rfl
theorem eql_told (w : World) (z : Bool) (s d : Int) : (binOp .eql 27 (.agg #[.bool z, .int .i64 s, .int .i64 d]) (.agg #[.bool z, .int .i64 s, .int .i64 d])).run Tryz.prog w = .ok (.bool true) w := by
  rw [run_eql_struct, run_equalIn_agg w 9999 27 _ _ under_told held_told, eqFields_same]
  · rfl
  · intro g hg
    have hm : (g.type, g.offset) ∈ ((Tryz.prog.fieldsOf 27).toList.map fun f => (f.type, f.offset)) := List.mem_map_of_mem (f := fun f : Field => (f.type, f.offset)) hg
    rw [fields_told] at hm
    simp only [List.mem_cons, List.not_mem_nil, or_false, Prod.mk.injEq] at hm
    rcases hm with ⟨h1, h2⟩ | ⟨h1, h2⟩ | ⟨h1, h2⟩ <;> rw [h1, h2]
    · exact ⟨.bool z, by simp [go_sem], by rw [run_equalIn_bool' w 9998 4 z z Tryz.underlying4]; simp⟩
    · exact ⟨.int .i64 s, by simp [go_sem], by rw [run_equalIn_int w 9998 3 .i64 .i64 s s Tryz.underlying3]; simp⟩
    · exact ⟨.int .i64 d, by simp [go_sem], by rw [run_equalIn_int w 9998 2 .i64 .i64 d d Tryz.underlying2]; simp⟩
end Go.Proofs.YtkfephcllglkkaaGreatDoor
namespace Go.Proofs.YtkfephcllglkkaaGreatDoor
open Go.RowKit

theorem ndig_i64 {X : Nat} (h : X ≤ 9223372036854775808) : ndig X ≤ 100000 := by
  have h1 := ndig_bl X
  have h2 := bl_le (x := X) (by have hb : B = 18446744073709551616 := by decide
                                omega)
  omega
set_option maxRecDepth 100000 in
set_option maxHeartbeats 1000000 in
theorem fnFromInt_any {w : World} {x y : Int} (g : Gv w) (h0 : -9223372036854775808 ≤ x) (h1 : x ≤ 9223372036854775807) :
    Calls Tryz.prog 4 #[.int .i64 x, .int .i32 y] w fun e1 w' => e1 = .returned (.bool true) ∧ Fr (fun _ _ => False) w w' := by
  have hA : Hid (∀ w1, Fr (fun _ _ => False) w w1 → Calls Tryz.prog 7 #[] w1 fun e1 w2 => e1 = .returned (.bool true) ∧ Fr (fun _ _ => False) w1 w2) := Lib.hid (fun w1 f => alive (g.new f))
  have hF := Lib.hid (fromInt_any (y := y) g h0 h1)
  obtain ⟨T, hT⟩ : ∃ T, mk (natText x.natAbs) = T := ⟨_, rfl⟩
  have hlen : (dlow x.natAbs).length ≤ 100000 := by
    by_cases h : x.natAbs = 0
    · rw [h, dlow_zero]; simp
    · rw [dlow_length h]; exact ndig_i64 (by omega)
  have hO : Hid (∀ w1, Fr (fun _ _ => False) w w1 → Calls Tryz.prog 10 #[.int .i64 x] w1 fun e1 w2 => ∃ s a m c, e1 = .returned (.agg #[.bool s, .slice a m c]) ∧
      Hid (Calls Tryz.prog 11 #[.agg #[.bool s, .slice a m c]] w2 fun e1 w3 => e1 = .returned (.agg #[.bool false, .slice a m c]) ∧
        Hid (Calls Tryz.prog 12 #[.agg #[.bool false, .slice a m c]] w3 fun e1 w4 => e1 = .returned (.string T) ∧ Aside (Fr (fun _ _ => False) w1 w4)))) := Lib.hid (fun w1 f => by
    have g1 := g.new f
    refine (of_any x g1.g.size h0 h1).mono ?_
    rintro e1 w2 ⟨s, a, m, c, rfl, k1, k2⟩
    refine ⟨s, a, m, c, rfl, Lib.hid ?_⟩
    refine (numAbs_any (s := s) k1).mono ?_
    rintro e1 w3 ⟨rfl, k3, k4⟩
    refine ⟨rfl, Lib.hid ?_⟩
    refine (numText_any (g1.new (k2.trans k4)).g.size k3 (by rw [← k3.len]; exact hlen)).mono ?_
    rintro e1 w4 ⟨rfl, k5⟩
    rw [hT]
    exact ⟨rfl, ⟨(k2.trans k4).trans k5⟩⟩)
  rw [hT] at hF
  have hbx : decide (x < 0) = decide (x < 0) := rfl
  clear hT hlen h0 h1 g hbx
  by_cases hy : y < -100000
  · clear hF hO
    go_enter Tryz.func4, Tryz.ntmps4
    go_wp2_with fail
    refine (hA.out _ (by repeat first | exact Fr.refl _ _ | refine Fr.drewN ?_ _ | refine Fr.drew ?_)).mono ?_
    rintro e1 w1 ⟨rfl, k1⟩
    have K1 := Aside.mk k1
    clear k1
    go_wp2_with fail
    go_ret
    exact ⟨rfl, K1.out⟩
  · by_cases hz : y > 100000
    · clear hF hO
      go_enter Tryz.func4, Tryz.ntmps4
      go_wp2_with fail
      refine (hA.out _ (by repeat first | exact Fr.refl _ _ | refine Fr.drewN ?_ _ | refine Fr.drew ?_)).mono ?_
      rintro e1 w1 ⟨rfl, k1⟩
      have K1 := Aside.mk k1
      clear k1
      go_wp2_with fail
      go_ret
      exact ⟨rfl, K1.out⟩
    · go_enter Tryz.func4, Tryz.ntmps4
      go_wp2_with fail
      clear hy hz
      refine hF.out.mono ?_
      rintro e1 w1 ⟨rfl, k1⟩
      have K1 := Aside.mk k1
      clear k1 hF
      go_wp2_with fail
      refine (hO.out _ ((K1.out.alloc _).alloc _)).mono ?_
      rintro e1 w2 ⟨s, a, m, c, rfl, q1⟩
      clear hO
      go_wp2_with fail
      refine q1.out.mono ?_
      rintro e1 w3 ⟨rfl, q2⟩
      clear q1
      go_wp2_with fail
      refine q2.out.mono ?_
      rintro e1 w4 ⟨rfl, q3⟩
      clear q2
      have F4 := Aside.mk (((K1.out.alloc (.cells #[.int .i64 0, .bool (decide (x < 0)), .int .i32 0, .string T] 23)).alloc (.cells #[.int .i64 0, .bool (decide (x < 0)), .int .i32 y, .string T] 23)).trans q3.out)
      have A4 := Aside.mk (((D4.new (w := w1) 0 0 (decide (x < 0)) T 23).fr ((Fr.refl (fun _ _ => False) _).alloc (.cells #[.int .i64 0, .bool (decide (x < 0)), .int .i32 y, .string T] 23)) (fun _ q => q)).fr q3.out (fun _ q => q))
      have B4 := Aside.mk ((D4.new (w := w1.alloc (.cells #[.int .i64 0, .bool (decide (x < 0)), .int .i32 0, .string T] 23)) 0 y (decide (x < 0)) T 23).fr q3.out (fun _ q => q))
      clear q3
      go_wp2_with fail
      refine (hA.out _ ((F4.out.alloc _).alloc _)).mono ?_
      rintro e1 w5 ⟨rfl, k5⟩
      have C5 := ((D4.new (w := w4) 0 0 (decide (x < 0)) T 23).fr ((Fr.refl (fun _ _ => False) _).alloc (.cells #[.int .i64 0, .bool (decide (x < 0)), .int .i32 y, .string T] 23)) (fun _ q => q)).fr k5 (fun _ q => q)
      have D5 := (D4.new (w := w4.alloc (.cells #[.int .i64 0, .bool (decide (x < 0)), .int .i32 0, .string T] 23)) 0 y (decide (x < 0)) T 23).fr k5 (fun _ q => q)
      have f5 := ((Fr.refl (fun _ _ => False) w4).alloc (.cells #[.int .i64 0, .bool (decide (x < 0)), .int .i32 0, .string T] 23)).alloc (.cells #[.int .i64 0, .bool (decide (x < 0)), .int .i32 y, .string T] 23)
      have A5 := A4.out.fr (f5.trans k5) (fun _ q => q)
      have B5 := B4.out.fr (f5.trans k5) (fun _ q => q)
      have F5 := Aside.mk (F4.out.trans (f5.trans k5))
      rw [World.size_alloc] at D5 B5
      obtain ⟨a0, a1, a2, a3, _⟩ := E8.of A5
      obtain ⟨b0, b1, b2, b3, _⟩ := E8.of B5
      obtain ⟨c0, c1, c2, c3, _⟩ := E8.of C5
      obtain ⟨d0, d1, d2, d3, _⟩ := E8.of D5
      have e1 := eql_dec w5 0 0 (decide (x < 0)) T
      have e2 := eql_dec w5 0 y (decide (x < 0)) T
      clear A4 B4 F4 hA k5 f5 A5 B5 C5 D5
      go_wp2_with fail
      go_ret
      exact ⟨rfl, F5.out⟩
end Go.Proofs.YtkfephcllglkkaaGreatDoor
