/- Decimal.Append and Text in all formats. impl.Text by Text in whatever format, the variables of strconv at hand. The text of a decimal, read again: what it means. What is written is read as the same decimal: the plain law; and that a clear decimal is told so. -/
import Derived.Test.YtifkpcijheabhaaGreatDoorP39Fmt9
import Derived.Test.YtifkpcijheabhaaGreatDoorP37Fmt8f
import Derived.Test.YtifkpcijheabhaaGreatDoorP38Fmt8t
import Derived.Test.YtifkpcijheabhaaGreatDoorP46SpecT4
import Derived.Test.YtifkpcijheabhaaGreatDoorM33Eql
import Derived.Test.YtifkpcijheabhaaGreatDoorP44Par6s
import Derived.Test.YtifkpcijheabhaaGreatDoorP45SpecP1
set_option linter.unusedSimpArgs false
set_option linter.unusedVariables false
namespace Go.Proofs.YtifkpcijheabhaaGreatDoor
open Go.RowKit

theorem dAppg_any {w : World} {b : Nat} {e : Int} {ng : Bool} {f : Nat} {a : Option Addr} {c X : Nat} {ba : Option Addr} {n bc : Nat} {l : List UInt8} (hf : f ≤ 3) (g : Gv w) (hp : PT w) (h : DA w b f ng e a c X) (h8 : Sm X) (hX : bl X ≤ 1100) (hm : ndig X ≤ 1000) (he : -5000 ≤ e ∧ e ≤ 5000)
    (hB : Bf w ba n bc l) (hn : n ≤ 5000) (hdis : ∀ x y, foot ba bc x y → ¬ dfoot b a c x y) :
    Calls Tryz.prog 31 #[.pointer (some ⟨b, 0, none⟩), .slice ba n bc, .int .u8 103] w fun e1 w' => ∃ a' n' c',
      e1 = .returned (.slice a' n' c') ∧ BW w w' ba bc a' n' c' (l ++ textL f ng e (natText X) 103) := by
  have c0 : f = 0 ∨ f = 1 ∨ f = 2 ∨ f = 3 := by omega
  rcases c0 with rfl | rfl | rfl | rfl
  · have e0 : textL ((0 : Nat) : Int) ng e (natText X) 103 = markL ng ++ bodyL (natText X) e 103 := rfl
    rw [e0]
    by_cases x0 : X = 0
    · have en : natText X = [48] := natText_48.2 x0
      have hb : bodyL (natText X) e 103 = if 0 < e ∨ e < -2000 then sciL (natText X) e 101 else plainL (natText X) e := by
        unfold bodyL
        rw [if_neg (by omega), if_neg (by omega), if_neg (by omega), en]
        simp
      rw [hb]
      by_cases h1 : 0 < e
      · rw [if_pos (.inl h1)]
        cases ng
        · exact dApp103_f_3 g hp h h8 hX hm he hB hn hdis x0 h1
        · exact dApp103_t_3 g hp h h8 hX hm he hB hn hdis x0 h1
      · by_cases h2 : e < -2000
        · rw [if_pos (.inr h2)]
          cases ng
          · exact dApp103_f_4 g hp h h8 hX hm he hB hn hdis x0 h2
          · exact dApp103_t_4 g hp h h8 hX hm he hB hn hdis x0 h2
        · rw [if_neg (by omega)]
          by_cases h3 : e = 0
          · cases ng
            · exact dApp103_f_2 g hp h h8 hX hm he hB hn hdis x0 h3
            · exact dApp103_t_2 g hp h h8 hX hm he hB hn hdis x0 h3
          · cases ng
            · exact dApp103_f_1 g hp h h8 hX hm he hB hn hdis x0 (by omega) (by omega)
            · exact dApp103_t_1 g hp h h8 hX hm he hB hn hdis x0 (by omega) (by omega)
    · have en : natText X ≠ [48] := fun k => x0 (natText_48.1 k)
      have hb : bodyL (natText X) e 103 = if 0 < e ∨ e + (ndig X : Int) - 1 < -6 then sciL (natText X) e 101 else plainL (natText X) e := by
        unfold bodyL
        rw [if_neg (by omega), if_neg (by omega), if_neg (by omega), natText_length, if_neg (c := natText X = [48]) en]
        simp
      rw [hb]
      by_cases h1 : 0 < e
      · rw [if_pos (.inl h1)]
        cases ng
        · exact dApp103_f_6 g hp h h8 hX hm he hB hn hdis x0 h1
        · exact dApp103_t_6 g hp h h8 hX hm he hB hn hdis x0 h1
      · by_cases h2 : e + (ndig X : Int) - 1 < -6
        · rw [if_pos (.inr h2)]
          cases ng
          · exact dApp103_f_7 g hp h h8 hX hm he hB hn hdis x0 (by omega) (by omega)
          · exact dApp103_t_7 g hp h h8 hX hm he hB hn hdis x0 (by omega) (by omega)
        · rw [if_neg (by omega)]
          cases ng
          · exact dApp103_f_5 g hp h h8 hX hm he hB hn hdis x0 (by omega) (by omega)
          · exact dApp103_t_5 g hp h h8 hX hm he hB hn hdis x0 (by omega) (by omega)
  · cases ng
    · exact dAppNF_f_1 g.g.size h hB hn hdis
    · exact dAppNF_t_1 g.g.size h hB hn hdis
  · cases ng
    · exact dAppNF_f_2 g.g.size h hB hn hdis
    · exact dAppNF_t_2 g.g.size h hB hn hdis
  · cases ng
    · exact dAppNF_f_3 g.g.size h hB hn hdis
    · exact dAppNF_t_3 g.g.size h hB hn hdis
theorem appAll {f fm : Nat} {ng : Bool} {e : Int} {X : Nat} (hfm : FmOk fm) (hf : f ≤ 3) (h8 : Sm X) (hX : bl X ≤ 1100) (hm : ndig X ≤ 1000) (he : -5000 ≤ e ∧ e ≤ 5000) : App fm f ng e X := by
  intro w b a c ba n bc l g hp h hB hn hdis
  by_cases h0 : f = 0
  · subst h0
    have e0 : textL ((0 : Nat) : Int) ng e (natText X) fm = markL ng ++ bodyL (natText X) e fm := rfl
    rcases hfm with rfl | rfl | rfl | rfl | rfl
    · rw [e0]
      cases ng
      · exact dApp101_f g hp h h8 hX hm he hB hn hdis
      · exact dApp101_t g hp h h8 hX hm he hB hn hdis
    · rw [e0]
      cases ng
      · exact dApp69_f g hp h h8 hX hm he hB hn hdis
      · exact dApp69_t g hp h h8 hX hm he hB hn hdis
    · rw [e0]
      cases ng
      · exact dApp102_f g hp h h8 hX hm he hB hn hdis
      · exact dApp102_t g hp h h8 hX hm he hB hn hdis
    · exact dAppg_any (by omega) g hp h h8 hX hm he hB hn hdis
    · exact dAppG_any (by omega) g hp h h8 hX hm he hB hn hdis
  · have e1 : textL (f : Int) ng e (natText X) fm = markL ng ++ formL f := by unfold textL; rw [if_neg (by omega)]
    rw [e1]
    have c0 : f = 1 ∨ f = 2 ∨ f = 3 := by omega
    rcases c0 with rfl | rfl | rfl
    · cases ng
      · exact dAppNF_f_1 g.g.size h hB hn hdis
      · exact dAppNF_t_1 g.g.size h hB hn hdis
    · cases ng
      · exact dAppNF_f_2 g.g.size h hB hn hdis
      · exact dAppNF_t_2 g.g.size h hB hn hdis
    · cases ng
      · exact dAppNF_f_3 g.g.size h hB hn hdis
      · exact dAppNF_t_3 g.g.size h hB hn hdis
end Go.Proofs.YtifkpcijheabhaaGreatDoor
namespace Go.Proofs.YtifkpcijheabhaaGreatDoor
open Go.RowKit

/-- What Text answers of a decimal that dec has made. -/
def SaysP (f : Nat) (n : Bool) (e : Int) (X : Nat) (fm : Nat) (T : ByteArray) : Prop := ∀ (w : World) (p : Nat) (a : Option Addr) (c : Nat), Gv w → PT w → DA w p f n e a c X →
  Calls Tryz.prog 32 #[.pointer (some ⟨p, 0, none⟩), .int .u8 fm] w fun e w' => e = .returned (.string T) ∧ Fr (fun _ _ => False) w w'
set_option maxRecDepth 100000 in
set_option maxHeartbeats 1000000 in
theorem text1_all {w : World} {pb pd pf pr : Nat} {s T s0 : ByteArray} {f fm : Nat} {e : Int} {n : Bool} (hf : f ≤ 3) (g : Gv w) (hp : PT w) (hb : Cl w pb 0 (.int .i64 0)) (hd : D4 w pd f n e s) (hfm : Cl w pf 0 (.int .u8 fm)) (hr : Cl w pr 0 (.string s0))
    (hdg : Digs s.data.toList) (h0 : 0 < s.size) (hs : s.size ≤ 1000) (hT : SaysP f n e (numOf s.data.toList) fm T) :
    Calls Tryz.prog 30 #[.pointer (some ⟨pb, 0, none⟩), .pointer (some ⟨pd, 0, none⟩), .pointer (some ⟨pf, 0, none⟩), .pointer (some ⟨pr, 0, none⟩)] w fun e1 w' =>
      e1 = .returned (.tuple #[]) ∧ Cl w' pr 0 (.string T) ∧ Fr (fun x _ => x = pr) w w' := by
  have hbc := hb.cell
  have d0 := hd.c0.cell
  have d1 := hd.c1.cell
  have d2 := hd.c2.cell
  have d3 := hd.c3.cell
  have f0 := hfm.cell
  have H : Hid (∀ w1, Fr (fun _ _ => False) w w1 → Calls Tryz.prog 24 #[.agg #[.int .i64 f, .bool n, .int .i32 e, .string s]] w1 fun e1 w2 => ∃ p, e1 = .returned (.pointer (some ⟨p, 0, none⟩)) ∧
      w2.cell? ⟨pf, 0, none⟩ = some (.int .u8 fm) ∧ Hid (Calls Tryz.prog 32 #[.pointer (some ⟨p, 0, none⟩), .int .u8 fm] w2 fun e1 w3 => e1 = .returned (.string T) ∧
        w3.cell? ⟨pr, 0, none⟩ = some (.string s0) ∧ w3.frozen? ⟨pr, 0, none⟩ = false ∧ Aside (Fr (fun _ _ => False) w w3))) := Lib.hid (fun w1 k => by
    refine (dec_any f hf (g.new k) hdg h0 hs).mono ?_
    rintro e1 w2 ⟨p, a, c, rfl, k1, k2, k3⟩
    refine ⟨p, rfl, (hfm.fr (k.trans k2) (fun q => q)).cell, Lib.hid ?_⟩
    refine (hT w2 p a c (g.new (k.trans k2)) (hp.new g.g.size (k.trans k2)) k1).mono ?_
    rintro e1 w3 ⟨rfl, k4⟩
    have r3 := hr.fr ((k.trans k2).trans k4) (fun q => q)
    exact ⟨rfl, r3.cell, r3.free, ⟨(k.trans k2).trans k4⟩⟩)
  have HR := Aside.mk hr
  clear hb hd hfm hr g hp hdg h0 hs hT hf
  go_enter Tryz.func30, Tryz.ntmps30
  go_wp2_with fail
  go_region_with (first | (go_at_call 24; go_must (refine (H.out _ (by repeat first | exact Fr.refl _ _ | refine Fr.drewN ?_ _ | refine Fr.drew ?_)).mono ?_; rintro e1 w2 ⟨p, rfl, q1, q2⟩)) | (go_at_call 32; go_must (refine q2.out.mono ?_; rintro e1 w3 ⟨rfl, q3, q4, q5⟩)))
  all_goals
    go_wp2_with fail
    go_end0
    refine ⟨rfl, ⟨World.cell?_setCell_same _ _ _ q3, by rw [World.frozen?_setCell]; exact q4⟩, (q5.out.mono (T := fun x _ => x = pr) (fun _ _ _ k => k.elim)).setCell pr 0 _ (fun _ => rfl)⟩
set_option maxRecDepth 100000 in
set_option maxHeartbeats 1000000 in
theorem text_all {w : World} {s T : ByteArray} {f fm : Nat} {e : Int} {n : Bool} (hf : f ≤ 3) (g : Gv w) (hpt : PT w) (hdg : Digs s.data.toList) (h0 : 0 < s.size) (hs : s.size ≤ 1000) (hT : SaysP f n e (numOf s.data.toList) fm T) :
    Calls Tryz.prog 13 #[.agg #[.int .i64 f, .bool n, .int .i32 e, .string s], .int .u8 fm, .int .i64 0] w fun e1 w' => e1 = .returned (.string T) ∧ Fr (fun _ _ => False) w w' := by
  have hG := g.g.size
  have hm := hmf
  obtain ⟨sz, hsz⟩ : ∃ x, w.heap.size = x := ⟨_, rfl⟩
  obtain ⟨w1, hw1⟩ : ∃ x, (((w.alloc (.cells #[.int .i64 f, .bool n, .int .i32 e, .string s] 23)).alloc (.cells #[.int .u8 fm] 5)).alloc (.cells #[.int .i64 0] 3)).alloc (.cells #[.string ⟨#[]⟩] 9) = x := ⟨_, rfl⟩
  have F1 : Fr (fun _ _ => False) w w1 := by rw [← hw1]; exact (((((Fr.refl _ w).alloc _).alloc _).alloc _).alloc _)
  have hs1 : w1.heap.size = sz + 4 := by rw [← hw1, ← hsz]; simp
  have cd : D4 w1 sz f n e s := by
    rw [← hw1, ← hsz]; exact (D4.new (w := w) f e n s 23).fr ((((Fr.refl (fun _ _ => False) _).alloc _).alloc _).alloc _) (fun _ q => q)
  have cf : Cl w1 (sz + 1) 0 (.int .u8 fm) := by
    have := (Cl.new (w := w.alloc (.cells #[.int .i64 f, .bool n, .int .i32 e, .string s] 23)) (by simp; omega) (.int .u8 fm) 5).fr (((Fr.refl (fun _ _ => False) _).alloc (.cells #[.int .i64 0] 3)).alloc (.cells #[.string ⟨#[]⟩] 9)) (fun q => q)
    rw [hw1, World.size_alloc, hsz] at this; exact this
  have cb : Cl w1 (sz + 2) 0 (.int .i64 0) := by
    have := (Cl.new (w := (w.alloc (.cells #[.int .i64 f, .bool n, .int .i32 e, .string s] 23)).alloc (.cells #[.int .u8 fm] 5)) (by simp; omega) (.int .i64 0) 3).fr ((Fr.refl (fun _ _ => False) _).alloc (.cells #[.string ⟨#[]⟩] 9)) (fun q => q)
    rw [hw1, World.size_alloc, World.size_alloc, hsz] at this; exact this
  have cr : Cl w1 (sz + 3) 0 (.string ⟨#[]⟩) := by
    have := (Cl.new (w := ((w.alloc (.cells #[.int .i64 f, .bool n, .int .i32 e, .string s] 23)).alloc (.cells #[.int .u8 fm] 5)).alloc (.cells #[.int .i64 0] 3)) (by simp; omega) (.string ⟨#[]⟩) 9)
    rw [hw1, World.size_alloc, World.size_alloc, World.size_alloc, hsz] at this; exact this
  have a1 := (Fr.refl (fun _ _ => False) w1).alloc (.cells #[.bool false] 4)
  have hS : Hid (Calls Tryz.prog 21 #[.func (.func 30) #[] #[.pointer (some ⟨sz + 2, 0, none⟩), .pointer (some ⟨sz, 0, none⟩), .pointer (some ⟨sz + 1, 0, none⟩), .pointer (some ⟨sz + 3, 0, none⟩)]] w1 fun e w' =>
      e = .returned (.bool true) ∧ Aside (Cl w' (sz + 3) 0 (.string T) ∧ Fr (fun _ _ => False) w w')) := Lib.hid (by
    have hp := text1_all hf (g.new (F1.trans a1)) (hpt.new hG (F1.trans a1)) (cb.fr a1 (fun q => q)) (cd.fr a1 (fun _ q => q)) (cf.fr a1 (fun q => q)) (cr.fr a1 (fun q => q)) hdg h0 hs hT
    refine (safe_any (P := fun w' => Cl w' (sz + 3) 0 (.string T) ∧ Fr (fun _ _ => False) w w') 30 _ w1 (enter_text1 _) (hp.mono ?_)).mono ?_
    · rintro e w' ⟨rfl, k2, k3⟩
      have hnew := Cl.new (w := w1) (by rw [hs1]; omega) (.bool false) 4
      have h4 := hnew.fr k3 (by rw [hs1]; omega)
      exact ⟨rfl, h4.cell, h4.free, k2, (F1.trans a1).trans' k3 (fun _ _ _ k => k) (fun x y hx k => by rw [hsz] at hx; omega)⟩
    · rintro e w' ⟨rfl, w2, ⟨k2, k3⟩, rfl⟩
      have f2 := ((Fr.refl (fun x _ => x = w1.heap.size) w2).setCell w1.heap.size 0 (.bool true) (fun _ => rfl)).setCell w1.heap.size 0 (.bool true) (fun _ => rfl)
      exact ⟨rfl, ⟨k2.fr f2 (by rw [hs1]; omega), k3.trans' f2 (fun _ _ _ k => k) (fun x y hx k => by rw [hsz] at hx; rw [hs1] at k; omega)⟩⟩)
  clear hdg h0 hs hT g hpt F1 a1 cd cf cb cr hs1 hf
  go_enter Tryz.func13, Tryz.ntmps13
  go_wp2_with fail
  rw [show sz + 1 + 1 + 1 = sz + 3 from rfl, show sz + 1 + 1 = sz + 2 from rfl]
  have HSZ := Aside.mk hsz
  clear hw1 hsz hG
  refine hS.out.mono ?_
  rintro e w2 ⟨rfl, hA⟩
  have o0 := hA.out.1.cell
  have o1 := hA.out.1.free
  clear hS
  go_wp2_with fail
  refine bodyPost_ret (v := .string T) (by simp [results, Tryz.results13, go_sem, o0]) rfl ⟨rfl, ?_⟩
  have hfr := hA.out.2
  repeat' (first | exact hfr | refine Fr.setCell ?_ _ _ _ (fun q => by rw [HSZ.out] at q; omega))
end Go.Proofs.YtifkpcijheabhaaGreatDoor
namespace Go.Proofs.YtifkpcijheabhaaGreatDoor
open Go.RowKit

/-- What setString answers at a text that the reference takes, however long. -/
theorem ok_of {l : List UInt8} {f : Int} {ng : Bool} {e : Int} {s : ByteArray} (h : SPR l f ng e s true) (hl : l.length ≤ 1000) (hX : ∀ X, s = mk (natText X) → bl X ≤ 1100 ∧ Sm X) (he : -9000 ≤ e ∧ e ≤ 9000) :
    ∃ (X f' : Nat), f = (f' : Int) ∧ f' ≤ 3 ∧ s = mk (natText X) ∧ SetOk (mk l) f' ng e X ∧ bl X ≤ 1100 ∧ Sm X := by
  obtain ⟨hasc, hng, hk⟩ := h
  obtain ⟨r, hr⟩ : ∃ r, (sgnR l).2 = r := ⟨_, rfl⟩
  have hsg : sgnR (mk l).data.toList = (ng, r) := by rw [mk_toList, hng, ← hr]
  have hsz : (mk l).size ≤ 1000 := by rw [mk_size]; omega
  have hrasc : ∀ x ∈ r, x.toNat < 128 := by
    intro x hx
    rcases sgnR_cases l with ⟨q, h1, h2⟩ | ⟨q, h1, h2⟩ | ⟨h1, _, _⟩
    · rw [h2] at hr; subst hr; exact hasc x (by rw [h1]; exact List.mem_cons_of_mem _ hx)
    · rw [h2] at hr; subst hr; exact hasc x (by rw [h1]; exact List.mem_cons_of_mem _ hx)
    · rw [h1] at hr; subst hr; exact hasc x hx
  rw [hr] at hk
  rcases hk with ⟨R, hu, hR, hN2, rfl, rfl, rfl, hok⟩ | ⟨R, hu, hR, rfl, rfl, rfl, hok⟩ | ⟨hu, rfl, rfl, rfl, _⟩ | ⟨hN1, hN2, hQ2, hQ1, rfl, hfin⟩
  · by_cases h0 : R = []
    · subst h0
      exact ⟨0, 3, rfl, by omega, nought48, fun w b f0 e0 n0 a c X0 g sy h => setString_nan0 g h hsg hrasc hsz hu, bl_zero0, sm_zero0⟩
    · exact ⟨0, 3, rfl, by omega, nought48, fun w b f0 e0 n0 a c X0 g sy h => setString_nan1 g h hsg hrasc hsz hu hN2 h0 (nan_ok (l := l) h0 hR (hok.1 rfl)), bl_zero0, sm_zero0⟩
  · by_cases h0 : R = []
    · subst h0
      exact ⟨0, 2, rfl, by omega, nought48, fun w b f0 e0 n0 a c X0 g sy h => setString_snan0 g h hsg hrasc hsz hu, bl_zero0, sm_zero0⟩
    · exact ⟨0, 2, rfl, by omega, nought48, fun w b f0 e0 n0 a c X0 g sy h => setString_snan1 g h hsg hrasc hsz hu h0 (nan_ok (l := l) h0 hR (hok.1 rfl)), bl_zero0, sm_zero0⟩
  · refine ⟨0, 1, rfl, by omega, nought48, ?_, bl_zero0, sm_zero0⟩
    rcases hu with hu | hu
    · exact fun w b f0 e0 n0 a c X0 g sy h => setString_inf2 g h hsg hrasc hsz hu
    · exact fun w b f0 e0 n0 a c X0 g sy h => setString_inf1 g h hsg hrasc hsz hu
  · have hP1 : Lib.hasPrefix (Lib.toLowerA r) [45] = false := by
      cases hP1 : Lib.hasPrefix (Lib.toLowerA r) [45] with
      | true =>
        obtain ⟨t, ht⟩ := hasP1 hP1
        have : true = false := fin_sign ht (by decide) hfin
        cases this
      | false => rfl
    have hP2 : Lib.hasPrefix (Lib.toLowerA r) [43] = false := by
      cases hP2 : Lib.hasPrefix (Lib.toLowerA r) [43] with
      | true =>
        obtain ⟨t, ht⟩ := hasP1 hP2
        have : true = false := fin_sign ht (by decide) hfin
        cases this
      | false => rfl
    have fin : ∀ {A B : List UInt8} {ev : Int}, (true = true ∧ Digs (A ++ B) ∧ A ++ B ≠ [] ∧ e = ev - B.length ∧ s = mk (natText (numOf (A ++ B)))) ∨ (true = false ∧ ¬ (Digs (A ++ B) ∧ A ++ B ≠ [])) →
        ((bl (numOf (A ++ B)) ≤ 1100) → ∀ (w : World) (b : Nat) (f0 e0 : Int) (n0 : Bool) (a : Option Addr) (c X0 : Nat), Gv w → SyV w → DA w b f0 n0 e0 a c X0 →
          Calls Tryz.prog 59 #[.pointer (some ⟨b, 0, none⟩), .pointer (some ⟨0, 0, none⟩), .string (mk l)] w fun e1 w' =>
            (Digs (A ++ B) ∧ A ++ B ≠ [] ∧ ∃ a' c', e1 = .returned (.tuple #[.int .u32 0, .nilIface]) ∧ DA w' b 0 ng (ev - B.length) a' c' (numOf (A ++ B)) ∧ Fr (dfoot b a c) w w' ∧ Out w a c a' c') ∨
            (¬ (Digs (A ++ B) ∧ A ++ B ≠ []) ∧ ∃ p, e1 = .returned (.tuple #[.int .u32 0, .iface 150 (.pointer (some p))]) ∧ Fr (dfoot b a c) w w')) →
        ∃ (X f' : Nat), (0 : Int) = (f' : Int) ∧ f' ≤ 3 ∧ s = mk (natText X) ∧ SetOk (mk l) f' ng e X ∧ bl X ≤ 1100 ∧ Sm X := fun {A B ev} k hS => by
      rcases k with ⟨_, h2, h3, h4, h5⟩ | ⟨k, _⟩
      · obtain ⟨x1, x2⟩ := hX _ h5
        refine ⟨numOf (A ++ B), 0, rfl, by omega, h5, fun w b f0 e0 n0 a c X0 g sy h => (hS x1 w b f0 e0 n0 a c X0 g sy h).mono ?_, x1, x2⟩
        rintro e1 w' (⟨_, _, a', c', q1, q2, q3, q4⟩ | ⟨q, _⟩)
        · exact ⟨a', c', q1, by rw [h4]; exact q2, q3, q4⟩
        · exact absurd ⟨h2, h3⟩ q
      · cases k
    rcases hfin with ⟨h101, A, B, hAB, hk⟩ | ⟨m, R, h101, hu, hk⟩
    · rcases hAB with ⟨h46, rfl, rfl⟩ | ⟨hm, h46⟩
      · refine fin (ev := 0) (B := []) hk ?_
        intro hbl w b f0 e0 n0 a c X0 g sy h
        simp only [List.append_nil, List.length_nil] at hbl ⊢
        exact setString_fin00 g h hsg hrasc hsz rfl hP1 hP2 hQ1 hQ2 hN1 hN2 h46 h101 (fun _ => hbl)
      · refine fin (ev := 0) hk ?_
        intro hbl w b f0 e0 n0 a c X0 g sy h
        rw [hm] at hP1 hP2 hQ1 hQ2 hN1 hN2 h101
        rw [Int.zero_sub]
        exact setString_fin01 g h hsg hrasc hsz hm hP1 hP2 hQ1 hQ2 hN1 hN2 h46 h101 (fun _ => hbl)
    · rw [hu] at hP1 hP2 hQ1 hQ2 hN1 hN2
      rcases hk with ⟨k, _⟩ | ⟨g1, g2, g3, A, B, hAB, hk⟩
      · cases k
      · have hv := intB_ok g1 g2 g3
        have hvb := expV_bd g3
        rcases hAB with ⟨h46, rfl, rfl⟩ | ⟨hm, h46⟩
        · refine fin (ev := expV R) (B := []) hk ?_
          intro hbl w b f0 e0 n0 a c X0 g sy h
          simp only [List.append_nil, List.length_nil] at hbl ⊢
          have := setString_fin10 g h hsg hrasc hsz hu hP1 hP2 hQ1 hQ2 hN1 hN2 h46 h101 hv (by omega) (fun _ => hbl)
          have e0 : expV R - ((0 : Nat) : Int) = expV R := by simp
          rw [e0]
          exact this
        · subst hm
          refine fin (ev := expV R) hk ?_
          intro hbl w b f0 e0 n0 a c X0 g sy h
          have e0 : expV R - (B.length : Int) = expV R + -(B.length : Int) := by omega
          rw [e0]
          exact setString_fin11 g h hsg hrasc hsz hu hP1 hP2 hQ1 hQ2 hN1 hN2 h46 h101 hv (by omega) (fun _ => hbl)
theorem low_digs {l : List UInt8} (h : ∀ x ∈ l, x.toNat < 65 ∨ 90 < x.toNat) : Lib.toLowerA l = l := by
  unfold Lib.toLowerA
  conv => rhs; rw [← List.map_id l]
  exact List.map_congr_left (fun x hx => lower_no (by have := h x hx; omega))
theorem low_app (l m : List UInt8) : Lib.toLowerA (l ++ m) = Lib.toLowerA l ++ Lib.toLowerA m := by simp [Lib.toLowerA]
theorem digs_nat (X : Nat) : Digs (natText X) := by
  intro c hc
  obtain ⟨j, hj, rfl⟩ := List.mem_iff_getElem.1 hc
  rw [natText_length] at hj
  have := natText_get X j hj
  have := dg_lt X (ndig X - 1 - j)
  omega
/-- A mark, and what has none. -/
theorem sgn_mark (n : Bool) {l : List UInt8} (h : ∀ x r, l = x :: r → x.toNat ≠ 45 ∧ x.toNat ≠ 43) : sgnR (markL n ++ l) = (n, l) := by
  cases n
  · show sgnR l = _
    cases l with
    | nil => rfl
    | cons x r =>
      obtain ⟨h1, h2⟩ := h x r rfl
      unfold sgnR
      simp only [h1, h2, if_false]
  · rfl
theorem mark_asc (n : Bool) {l : List UInt8} (h : ∀ x ∈ l, x.toNat < 128) : ∀ x ∈ markL n ++ l, x.toNat < 128 := by
  intro x hx
  rcases List.mem_append.1 hx with k | k
  · cases n
    · simp [markL] at k
    · simp [markL] at k; subst k; decide
  · exact h x k
/-- What is not finite. -/
theorem spr_nf {f : Nat} {n : Bool} (hf : 1 ≤ f ∧ f ≤ 3) : SPR (markL n ++ formL f) f n 0 (mk [48]) true := by
  have c : f = 1 ∨ f = 2 ∨ f = 3 := by omega
  have e0 : (mk [48]) = ⟨#[48]⟩ := rfl
  rcases c with rfl | rfl | rfl
  · have hs := sgn_mark n (l := formL ((1 : Nat) : Int)) (fun x r k => by simp [formL] at k; rw [← k.1]; decide)
    refine ⟨mark_asc n (by simp [formL]), by rw [hs], .inr (.inr (.inl ⟨.inr ?_, rfl, rfl, e0, rfl⟩))⟩
    rw [hs]; show Lib.toLowerA (formL ((1 : Nat) : Int)) = _; decide
  · have hs := sgn_mark n (l := formL ((2 : Nat) : Int)) (fun x r k => by simp [formL] at k; rw [← k.1]; decide)
    refine ⟨mark_asc n (by simp [formL]), by rw [hs], .inr (.inl ⟨[], ?_, by simp, rfl, rfl, e0, by simp [Digs]⟩)⟩
    rw [hs]; show Lib.toLowerA (formL ((2 : Nat) : Int)) = _; decide
  · have hs := sgn_mark n (l := formL ((3 : Nat) : Int)) (fun x r k => by simp [formL] at k; rw [← k.1]; decide)
    refine ⟨mark_asc n (by simp [formL]), by rw [hs], .inl ⟨[], ?_, by simp, rfl, rfl, rfl, e0, by simp [Digs]⟩⟩
    rw [hs]; show Lib.toLowerA (formL ((3 : Nat) : Int)) = _; decide
/-- A text that begins with a digit is none of the names. -/
theorem spr_fin {n : Bool} {x : UInt8} {r : List UInt8} {e : Int} {s : ByteArray} (hx : 48 ≤ x.toNat ∧ x.toNat ≤ 57) (ha : ∀ y ∈ x :: r, y.toNat < 128) (hf : FinR (Lib.toLowerA (x :: r)) e s true) : SPR (markL n ++ (x :: r)) 0 n e s true := by
  have hs := sgn_mark n (l := x :: r) (fun y q k => by simp at k; rw [← k.1]; omega)
  have hl : ∃ q, Lib.toLowerA (x :: r) = x :: q := ⟨Lib.toLowerA r, by show Lib.lowerB x :: _ = _; rw [lower_no (by omega)]; rfl⟩
  obtain ⟨q, hq⟩ := hl
  have h1 : x ≠ 110 := fun k => by rw [k] at hx; revert hx; decide
  have h2 : x ≠ 115 := fun k => by rw [k] at hx; revert hx; decide
  have h3 : x ≠ 105 := fun k => by rw [k] at hx; revert hx; decide
  refine ⟨mark_asc n ha, by rw [hs], .inr (.inr (.inr ⟨?_, ?_, ?_, ?_, rfl, by rw [hs]; exact hf⟩))⟩
  · rw [hs, hq]; simp [Lib.hasPrefix, List.isPrefixOf, Ne.symm h1]
  · rw [hs, hq]; simp [Lib.hasPrefix, List.isPrefixOf, Ne.symm h2]
  · rw [hs, hq]; simp [h3]
  · rw [hs, hq]; simp [h3]
theorem digs_low {l : List UInt8} (h : Digs l) : ∀ x ∈ l, x.toNat < 65 ∨ 90 < x.toNat := fun x hx => by have := h x hx; omega
theorem digs_asc {l : List UInt8} (h : Digs l) : ∀ x ∈ l, x.toNat < 128 := fun x hx => by have := h x hx; omega
theorem expR_expL (A : Int) : expR (expL A) = (decide (A < 0), natText A.natAbs) := by
  unfold expL
  by_cases h : A < 0
  · rw [if_pos h]; simp [expR, h]
  · rw [if_neg h]; simp [expR, h]
theorem expV_expL (A : Int) : expV (expL A) = A := by
  unfold expV
  rw [expR_expL]
  simp only [numOf_natText, decide_eq_true_eq]
  split <;> omega
/-- The scientific text. -/
theorem spr_sci {n : Bool} {dl : List UInt8} {e : Int} {fm : UInt8} (hfm : fm = 101 ∨ fm = 69) (hd : Digs dl) (h0 : 0 < dl.length) (h3 : dl.length ≤ 300) (he : -5000 ≤ e ∧ e ≤ 5000) (hc : natText (numOf dl) = dl) :
    SPR (markL n ++ sciL dl e fm) 0 n e (mk dl) true := by
  obtain ⟨x, r, rfl⟩ : ∃ x r, dl = x :: r := by
    cases dl with
    | nil => simp at h0
    | cons x r => exact ⟨x, r, rfl⟩
  obtain ⟨A, hA⟩ : ∃ A : Int, e + (x :: r).length - 1 = A := ⟨_, rfl⟩
  have hx := hd x (List.mem_cons_self ..)
  have hr : Digs r := fun y hy => hd y (List.mem_cons_of_mem _ hy)
  have hsci : sciL (x :: r) e fm = x :: ((if 1 < (x :: r).length then 46 :: r else []) ++ [fm] ++ expL A) := by
    unfold sciL; rw [hA]; simp
  obtain ⟨md, hmd⟩ : ∃ md : List UInt8, (if 1 < (x :: r).length then 46 :: r else []) = md := ⟨_, rfl⟩
  rw [hsci, hmd]
  have hmdl : ∀ y ∈ md, (y.toNat < 65 ∨ 90 < y.toNat) ∧ y.toNat < 128 ∧ y ≠ 101 := by
    intro y hy
    rw [← hmd] at hy
    split at hy
    · rcases List.mem_cons.1 hy with rfl | k
      · decide
      · have := hr y k
        exact ⟨by omega, by omega, fun q => by rw [q] at this; revert this; decide⟩
    · simp at hy
  have hel : ∀ y ∈ expL A, (y.toNat < 65 ∨ 90 < y.toNat) ∧ y.toNat < 128 := by
    intro y hy
    unfold expL at hy
    split at hy
    · rcases List.mem_cons.1 hy with rfl | k
      · decide
      · have := digs_nat _ y k; omega
    · rcases List.mem_cons.1 hy with rfl | k
      · decide
      · have := digs_nat _ y k; omega
  have hlow : Lib.toLowerA (x :: (md ++ [fm] ++ expL A)) = x :: md ++ 101 :: expL A := by
    have e1 : x :: (md ++ [fm] ++ expL A) = (x :: md) ++ ([fm] ++ expL A) := by simp
    have e2 : Lib.toLowerA [fm] = [101] := by rcases hfm with rfl | rfl <;> decide
    rw [e1, low_app, low_app, e2, low_digs (l := x :: md) (fun y hy => by
      rcases List.mem_cons.1 hy with rfl | k
      · omega
      · exact (hmdl y k).1), low_digs (fun y hy => (hel y hy).1)]
    simp
  refine spr_fin hx ?_ ?_
  · intro y hy
    rcases List.mem_cons.1 hy with rfl | k
    · omega
    · rcases List.mem_append.1 k with k | k
      · rcases List.mem_append.1 k with k | k
        · exact (hmdl y k).2.1
        · simp at k; subst k; rcases hfm with rfl | rfl <;> decide
      · exact (hel y k).2
  · rw [hlow]
    have hAb : A.natAbs ≤ 9999 := by simp at hA h3; omega
    refine .inr ⟨x :: md, expL A, fun k => ?_, rfl, .inr ⟨?_, ?_, ?_, ?_⟩⟩
    · rcases List.mem_cons.1 k with q | q
      · rw [← q] at hx; revert hx; decide
      · exact (hmdl _ q).2.2 rfl
    · rw [expR_expL]
      intro k
      have := natText_length A.natAbs
      have h4 := ndig_pos A.natAbs
      simp only at k
      rw [k] at this; simp at this; omega
    · rw [expR_expL]; exact digs_nat _
    · rw [expR_expL]; simp only [numOf_natText]; exact hAb
    · rw [expV_expL]
      by_cases h1 : 1 < (x :: r).length
      · rw [if_pos h1] at hmd
        subst hmd
        refine ⟨[x], r, .inr ⟨rfl, ?_⟩, .inl ⟨rfl, hd, by simp, ?_, ?_⟩⟩
        · intro k; simp at k; rw [← k] at hx; revert hx; decide
        · simp at hA; omega
        · rw [show [x] ++ r = x :: r from rfl, hc]
      · rw [if_neg h1] at hmd
        subst hmd
        have hr0 : r = [] := by simp at h1; exact h1
        subst hr0
        refine ⟨[x], [], .inl ⟨?_, rfl, rfl⟩, .inl ⟨rfl, hd, by simp, ?_, ?_⟩⟩
        · intro k; simp at k; rw [← k] at hx; revert hx; decide
        · simp at hA; simp; omega
        · rw [List.append_nil, hc]
theorem numOf_noughts (k : Nat) (l : List UInt8) : numOf (List.replicate k 48 ++ l) = numOf l := by
  induction k with
  | zero => rfl
  | succ k ih => rw [List.replicate_succ, List.cons_append, numOf_nought, ih]
theorem numOf_end (k : Nat) (l : List UInt8) : numOf (l ++ List.replicate k 48) = numOf l * 10 ^ k := by
  induction k with
  | zero => simp
  | succ k ih => rw [List.replicate_succ', ← List.append_assoc, numOf_snoc, ih, Nat.pow_succ]; simp [Nat.mul_assoc]
theorem digs_rep (k : Nat) : Digs (List.replicate k 48) := fun x hx => by rw [(List.mem_replicate.1 hx).2]; decide
theorem digs_app {l m : List UInt8} (h : Digs l) (k : Digs m) : Digs (l ++ m) := fun x hx => by
  rcases List.mem_append.1 hx with q | q
  · exact h x q
  · exact k x q
theorem digs_take {l : List UInt8} (h : Digs l) (k : Nat) : Digs (l.take k) := fun x hx => h x (List.mem_of_mem_take hx)
theorem digs_drop {l : List UInt8} (h : Digs l) (k : Nat) : Digs (l.drop k) := fun x hx => h x (List.mem_of_mem_drop hx)
/-- A text of digits with perhaps a point. -/
theorem spr_man {n : Bool} {A B : List UInt8} (hA : Digs A) (hB : Digs B) (h0 : 0 < A.length) (pt : Bool) (hpt : pt = false → B = []) :
    SPR (markL n ++ (A ++ if pt = true then 46 :: B else [])) 0 n (-(B.length : Int)) (mk (natText (numOf (A ++ B)))) true := by
  obtain ⟨x, r, rfl⟩ : ∃ x r, A = x :: r := by
    cases A with
    | nil => simp at h0
    | cons x r => exact ⟨x, r, rfl⟩
  have hx := hA x (List.mem_cons_self ..)
  obtain ⟨q, hq⟩ : ∃ q : List UInt8, (if pt = true then 46 :: B else []) = q := ⟨_, rfl⟩
  have hql : ∀ y ∈ q, y.toNat < 65 := by
    intro y hy
    rw [← hq] at hy
    split at hy
    · rcases List.mem_cons.1 hy with rfl | k
      · decide
      · have := hB y k; omega
    · simp at hy
  have hall : ∀ y ∈ x :: (r ++ q), y.toNat < 65 := by
    intro y hy
    rcases List.mem_append.1 (show y ∈ (x :: r) ++ q from hy) with k | k
    · have := hA y k; omega
    · exact hql y k
  have hlow : Lib.toLowerA (x :: (r ++ q)) = x :: (r ++ q) := low_digs (fun y hy => .inl (hall y hy))
  rw [hq]
  refine spr_fin (r := r ++ q) hx (fun y hy => by have := hall y hy; omega) ?_
  rw [hlow]
  refine .inl ⟨fun k => by have := hall _ k; revert this; decide, x :: r, B, ?_, .inl ⟨rfl, digs_app hA hB, by simp, by omega, rfl⟩⟩
  have h46 : (46 : UInt8) ∉ x :: r := fun k => by have := hA _ k; revert this; decide
  cases pt
  · have := hpt rfl
    subst this
    simp at hq
    subst hq
    exact .inl ⟨by simpa using h46, by simp, rfl⟩
  · simp at hq
    subst hq
    exact .inr ⟨by simp, h46⟩
/-- The plain text. -/
theorem spr_plain {n : Bool} {dl : List UInt8} {e : Int} (hd : Digs dl) (h0 : 0 < dl.length) :
    SPR (markL n ++ plainL dl e) 0 n (if e < 0 then e else 0) (mk (natText (numOf dl * 10 ^ e.toNat))) true := by
  unfold plainL
  by_cases hn : e < 0
  · rw [if_pos hn, if_pos hn]
    have e10 : e.toNat = 0 := by omega
    rw [e10, Nat.pow_zero, Nat.mul_one]
    by_cases hl : (dl.length : Int) ≤ -e
    · rw [if_pos hl]
      obtain ⟨z, hz⟩ : ∃ z, (-e - dl.length).toNat = z := ⟨_, rfl⟩
      rw [hz]
      have := spr_man (n := n) (A := [48]) (B := List.replicate z 48 ++ dl) (fun x hx => by simp at hx; subst hx; decide) (digs_app (digs_rep z) hd) (by simp) true (fun k => by cases k)
      rw [show ([48] : List UInt8) ++ (List.replicate z 48 ++ dl) = List.replicate (z + 1) 48 ++ dl from by rw [List.replicate_succ]; simp, numOf_noughts] at this
      have hb : -((List.replicate z (48 : UInt8) ++ dl).length : Int) = e := by simp; omega
      rw [hb] at this
      simpa using this
    · rw [if_neg hl]
      obtain ⟨z, hz⟩ : ∃ z, dl.length - (-e).toNat = z := ⟨_, rfl⟩
      rw [hz]
      have := spr_man (n := n) (A := dl.take z) (B := dl.drop z) (digs_take hd z) (digs_drop hd z) (by simp; omega) true (fun k => by cases k)
      rw [List.take_append_drop] at this
      have hb : -((dl.drop z).length : Int) = e := by simp; omega
      rw [hb] at this
      simpa using this
  · rw [if_neg hn, if_neg hn]
    have := spr_man (n := n) (A := dl ++ List.replicate e.toNat 48) (B := []) (digs_app hd (digs_rep _)) (by intro x hx; simp at hx) (by simp; omega) false (fun _ => rfl)
    rw [List.append_nil, numOf_end] at this
    simpa using this
end Go.Proofs.YtifkpcijheabhaaGreatDoor
namespace Go.Proofs.YtifkpcijheabhaaGreatDoor
open Go.RowKit

set_option maxRecDepth 100000 in
set_option maxHeartbeats 1000000 in
theorem clear_yes {w : World} {e : Int} {n : Bool} {s : ByteArray} (hd : Digs s.data.toList) (h0 : 0 < s.size) (hs : s.size ≤ 300) (hz : s.size = 1 ∨ ∀ h : 0 < s.size, s[0] ≠ 48) (he : -2500 ≤ e ∧ e ≤ 2500) :
    Calls Tryz.prog 11 #[.agg #[.int .i64 0, .bool n, .int .i32 e, .string s]] w fun e1 w' => e1 = .returned (.bool true) ∧ Fr (fun _ _ => False) w w' := by
  have hse : (s.toList == []) = false := by
    rw [ByteArray.toList_eq, beq_eq_false_iff_ne]; intro k
    have : s.data.toList.length = s.size := rfl
    rw [k] at this; simp at this; omega
  have c2' : ¬ (300 : Int) < (s.size : Int) := by omega
  have H : Hid (∀ w1, Calls Tryz.prog 19 #[.string s] w1 fun e1 w' => e1 = .returned (.bool true) ∧ w' = w1) := Lib.hid (fun w1 => by
    refine (only2_any (w := w1) (by omega)).mono ?_
    rintro e1 w' ⟨rfl, ⟨rfl, q⟩ | ⟨rfl, _⟩⟩
    · exact absurd hd q
    · exact ⟨rfl, rfl⟩)
  have c4 : ¬ e < -2500 := by omega
  have c5 : ¬ e > 2500 := by omega
  clear he
  by_cases c3 : (1 : Int) < (s.size : Int)
  · have hz0 : (((s[0]).toNat : Int) == 48) = false := by
      rw [beq_eq_false_iff_ne]; intro k
      rcases hz with k1 | k1
      · omega
      · exact k1 h0 (by apply UInt8.toNat_inj.1; have : (48 : UInt8).toNat = 48 := rfl
                        omega)
    clear hz hd
    go_enter Tryz.func11, Tryz.ntmps11
    go_wp2_with fail
    refine (H.out _).mono ?_
    rintro e1 w2 ⟨rfl, rfl⟩
    go_wp2_with fail
    go_ret
    exact ⟨rfl, (Fr.refl _ w).alloc _⟩
  · clear hz hd
    go_enter Tryz.func11, Tryz.ntmps11
    go_wp2_with fail
    refine (H.out _).mono ?_
    rintro e1 w2 ⟨rfl, rfl⟩
    go_wp2_with fail
    go_ret
    exact ⟨rfl, (Fr.refl _ w).alloc _⟩
theorem bl_lt {X k : Nat} (h : X < 10 ^ k) (hk : k ≤ 300) : bl X ≤ 1100 := by
  have key : ∀ m, k ≤ 3 * m → 10 ^ k ≤ (2 ^ 10) ^ m := fun m hm => Nat.le_trans (Nat.pow_le_pow_right (by decide) hm) (by rw [Nat.pow_mul]; exact Nat.pow_le_pow_left (by decide) m)
  have k2 : ∀ m k, 10 * m ≤ k → (2 ^ 10) ^ m ≤ 2 ^ k := fun m k h => by rw [← Nat.pow_mul]; exact Nat.pow_le_pow_right (by decide) h
  exact (lt_two_iff _ 1100).1 (Nat.lt_of_lt_of_le (Nat.lt_of_lt_of_le h (key 100 hk)) (k2 100 1100 (by decide)))
theorem plainL_high (dl : List UInt8) {e : Int} (h : 0 ≤ e) : (plainL dl e).length = dl.length + e.toNat := by
  unfold plainL; rw [if_neg (by omega)]; simp
theorem text_fin (n : Bool) (e : Int) (dl : List UInt8) (fm : Nat) : textL 0 n e dl fm = markL n ++ bodyL dl e fm := rfl
/-- What is read of what is written. -/
theorem back_of {f fm : Nat} {n : Bool} {e : Int} {s : ByteArray} (hc : ClearP f e s) (hfm : FmOk fm) (hT : (textL f n e s.data.toList fm).length ≤ 700) (hT2 : fm = 102 → (textL f n e s.data.toList fm).length ≤ 280) :
    ∃ (X2 : Nat) (e2 : Int), SetOk (mk (textL f n e s.data.toList fm)) f n e2 X2 ∧ bl X2 ≤ 1100 ∧ Sm X2 ∧ (-2500 ≤ e2 ∧ e2 ≤ 2500) ∧ ((fm ≠ 102 ∨ f ≠ 0) → e2 = e ∧ mk (natText X2) = s) ∧
      ndig X2 ≤ 300 ∧ (f = 0 → X2 * 10 ^ (e2 + 2500).toNat = numOf s.data.toList * 10 ^ (e + 2500).toNat) := by
  obtain ⟨hd, h0, h3, hf, hnt, he, hnf⟩ := hc.all
  have hsl : s.data.toList.length = s.size := rfl
  have hms : s = mk s.data.toList := mk_of s
  generalize s.data.toList = l at *
  obtain ⟨K, hK⟩ : ∃ K, K = 300 := ⟨_, rfl⟩
  have hK1 : K ≤ 300 := by omega
  have hK2 : K ≤ 308 := by omega
  have hX3 : numOf l < 10 ^ K := Nat.lt_of_lt_of_le (numOf_lt hd) (Nat.pow_le_pow_right (by decide) (by omega))
  have same : ∀ {e2 : Int}, SPR (textL f n e l fm) f n e2 (mk l) true → (-9000 ≤ e2 ∧ e2 ≤ 9000) → SetOk (mk (textL f n e l fm)) f n e2 (numOf l) := fun {e2} hs hb => by
    obtain ⟨X', f', k1, _, k3, k4, _⟩ := ok_of hs (by omega) (fun X hX => by
      have : natText X = l := (mk_inj hX).symm
      have : X = numOf l := by rw [← this, numOf_natText]
      subst this
      exact ⟨bl_lt hX3 hK1, sm_pow hX3 hK2⟩) hb
    have e1 : X' = numOf l := by rw [mk_inj k3, numOf_natText]
    have e3 : f' = f := by omega
    rw [← e1]
    rw [e3] at k4
    exact k4
  have hnd : ndig (numOf l) ≤ 300 := by rw [← natText_length, hnt]; omega
  by_cases hf0 : f = 0
  · subst hf0
    have h0l : 0 < l.length := by omega
    have h3l : l.length ≤ 300 := by omega
    by_cases h102 : fm = 102
    · subst h102
      have hb : bodyL l e 102 = plainL l e := by unfold bodyL; rw [if_neg (by decide), if_neg (by decide), if_pos rfl]
      have ht : textL ((0 : Nat) : Int) n e l 102 = markL n ++ plainL l e := by rw [← hb]; rfl
      have hP := spr_plain (n := n) (e := e) hd h0l
      rw [← ht] at hP
      have hlen := hT2 rfl
      rw [ht, List.length_append] at hlen
      have hX2 : numOf l * 10 ^ e.toNat < 10 ^ K := by
        by_cases hn : e < 0
        · have : e.toNat = 0 := by omega
          rw [this, Nat.pow_zero, Nat.mul_one]; exact hX3
        · have h1 := numOf_lt hd
          rw [plainL_high l (by omega)] at hlen
          have h2 : numOf l * 10 ^ e.toNat < 10 ^ l.length * 10 ^ e.toNat := Nat.mul_lt_mul_of_pos_right h1 (Nat.pow_pos (by decide))
          rw [← Nat.pow_add] at h2
          exact Nat.lt_of_lt_of_le h2 (Nat.pow_le_pow_right (by decide) (by omega))
      obtain ⟨X', f', k1, _, k3, k4, k5, k6⟩ := ok_of hP (by omega) (fun X hX => by
        have : X = numOf l * 10 ^ e.toNat := by rw [← numOf_natText X, ← mk_inj hX, numOf_natText]
        subst this
        exact ⟨bl_lt hX2 hK1, sm_pow hX2 hK2⟩) (by split <;> omega)
      have e1 : X' = numOf l * 10 ^ e.toNat := by rw [← numOf_natText X', ← mk_inj k3, numOf_natText]
      have e3 : f' = 0 := by omega
      subst e3
      subst e1
      refine ⟨_, _, k4, k5, k6, by split <;> omega, fun k => by rcases k with k | k <;> exact absurd rfl k, ?_, fun _ => ?_⟩
      · apply Nat.le_of_not_lt
        intro hgt
        have h1 : 10 ^ K ≤ 10 ^ (ndig (numOf l * 10 ^ e.toNat) - 1) := Nat.pow_le_pow_right (by decide) (by omega)
        by_cases hz : numOf l * 10 ^ e.toNat = 0
        · rw [hz] at hgt; rw [ndig] at hgt; simp at hgt
        · have h2 := ndig_le hz
          omega
      · by_cases hn : e < 0
        · rw [if_pos hn]
          have : e.toNat = 0 := by omega
          rw [this, Nat.pow_zero, Nat.mul_one]
        · rw [if_neg hn, Nat.mul_assoc, ← Nat.pow_add]
          congr 2
          omega
    · have hs : SPR (textL ((0 : Nat) : Int) n e l fm) ((0 : Nat) : Int) n e (mk l) true := by
        show SPR (markL n ++ bodyL l e fm) 0 n e (mk l) true
        have hplain : ¬ 0 < e → SPR (markL n ++ plainL l e) 0 n e (mk l) true := fun hn => by
          have hP := spr_plain (n := n) (e := e) hd h0l
          have : e.toNat = 0 := by omega
          rw [this, Nat.pow_zero, Nat.mul_one, hnt] at hP
          have e5 : (if e < 0 then e else 0) = e := by split <;> omega
          rwa [e5] at hP
        have hsci : ∀ x : UInt8, x = 101 ∨ x = 69 → SPR (markL n ++ sciL l e x) 0 n e (mk l) true := fun x hx => spr_sci hx hd h0l h3l (by omega) hnt
        unfold bodyL
        rcases hfm with rfl | rfl | rfl | rfl | rfl
        · exact hsci 101 (.inl rfl)
        · exact hsci 69 (.inr rfl)
        · exact absurd rfl h102
        · rw [if_neg (by decide), if_neg (by decide), if_neg (by decide)]
          generalize (if l = [48] then (-2000 : Int) else -6) = L
          split
          · exact hsci 101 (.inl rfl)
          · rename_i hq; exact hplain (fun k => hq (.inl k))
        · rw [if_neg (by decide), if_neg (by decide), if_neg (by decide)]
          generalize (if l = [48] then (-2000 : Int) else -6) = L
          split
          · exact hsci 69 (.inr rfl)
          · rename_i hq; exact hplain (fun k => hq (.inl k))
      exact ⟨numOf l, e, same hs (by omega), bl_lt hX3 hK1, sm_pow hX3 hK2, by omega, fun _ => ⟨rfl, by rw [hnt, ← hms]⟩, hnd, fun _ => rfl⟩
  · obtain ⟨hl48, he0⟩ := hnf (by omega)
    have ht : textL (f : Int) n e l fm = markL n ++ formL f := by unfold textL; rw [if_neg (by omega)]
    have hs := spr_nf (f := f) (n := n) (by omega)
    rw [← ht, ← hl48, ← he0] at hs
    exact ⟨numOf l, e, same hs (by omega), bl_lt hX3 hK1, sm_pow hX3 hK2, by omega, fun _ => ⟨rfl, by rw [hnt, ← hms]⟩, hnd, fun k => absurd k hf0⟩
end Go.Proofs.YtifkpcijheabhaaGreatDoor
