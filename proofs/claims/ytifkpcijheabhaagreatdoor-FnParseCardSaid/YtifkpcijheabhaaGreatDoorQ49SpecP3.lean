/- spec.Parse whole. -/
import Derived.Test.YtifkpcijheabhaaGreatDoorQ48SpG
import Derived.Deep.CutBlock
import Derived.Deep.DeepCutAuto
set_option linter.unusedSimpArgs false
set_option linter.unusedVariables false
namespace Go.Proofs.YtifkpcijheabhaaGreatDoor
open Go.RowKit

set_option maxRecDepth 100000 in
set_option maxHeartbeats 40000000 in
theorem specParse_any {w : World} {l : List UInt8} (hG : NG ≤ w.heap.size) (hl : l.length ≤ 2147483647) :
    Calls Tryz.prog 7 #[.string (mk l)] w fun e1 w' => ∃ (f : Int) (ng : Bool) (e : Int) (s : ByteArray) (ok sd : Bool), e1 = .returned (.agg #[.int .i64 f, .bool ng, .int .i32 e, .string s, .bool ok, .bool sd]) ∧ (l.length ≤ 1000 → sd = true → SPR l f ng e s ok) ∧ Fr (fun _ _ => False) w w' := by
  obtain ⟨s0, hs0⟩ : ∃ s0, mk l = s0 := ⟨_, rfl⟩
  have hs0l : s0.data.toList = l := by rw [← hs0, mk_toList]
  have hs0s : s0.size ≤ 2147483647 := by rw [← hs0, mk_size]; exact hl
  have HL := Aside.mk hs0l
  obtain ⟨t0, ht0⟩ : ∃ t0, mk (Lib.toLowerA l) = t0 := ⟨_, rfl⟩
  have hLow : Hid (∀ w1, Calls Tryz.prog 18 #[.string s0] w1 fun e1 w' => e1 = .returned (.string t0) ∧ Aside (Fr (fun _ _ => False) w1 w')) := Lib.hid (fun w1 => by
    rw [← hs0, ← ht0]
    refine (low_any hl).mono ?_
    rintro e1 w' ⟨rfl, k⟩
    exact ⟨rfl, ⟨k⟩⟩)
  obtain ⟨ng, hng⟩ : ∃ ng, (sgnR l).1 = ng := ⟨_, rfl⟩
  obtain ⟨u, hu⟩ : ∃ u, Lib.toLowerA (sgnR l).2 = u := ⟨_, rfl⟩
  have hsgn := sign_of t0 (ng := ng) (u := u) (by rw [← ht0, mk_toList, sgnR_lower, hng, hu])
  obtain ⟨t, htt⟩ : ∃ t, mk u = t := ⟨_, rfl⟩
  have htl : t.data.toList = u := by rw [← htt, mk_toList]
  rw [htt] at hsgn
  have ht0s : t0.size ≤ 2147483647 := by rw [← ht0, mk_size]; simp [Lib.toLowerA]; exact hl
  have hts : t.size ≤ 2147483647 := by
    rcases hsgn with ⟨hp, h1, _⟩ | ⟨h1, _⟩
    · rw [← h1, ByteArray.size_extract]; omega
    · rw [← h1]; exact ht0s
  have HSG := Aside.mk hsgn
  have HU := Aside.mk (And.intro hng hu)
  have HTL := Aside.mk htl
  have HTS := Aside.mk hts
  rw [hs0]
  clear hs0 hs0l hl ht0 hng hu hsgn htt htl hts
  go_enter Tryz.func7, Tryz.ntmps7
  go_wp2_with fail
  have P0 := Aside.mk (PO.start w)
  obtain ⟨W0, hW0⟩ : ∃ x, (w.alloc (.cells #[.int .i64 0, .bool false, .int .i32 0, .string ⟨#[]⟩, .bool false, .bool false] 25)).alloc (.cells #[.int .i64 0, .bool false, .int .i32 0, .string ⟨#[48]⟩, .bool false, .bool true] 25) = x := ⟨_, rfl⟩
  rw [hW0] at P0 ⊢
  clear hW0
  obtain ⟨p, hp⟩ : ∃ p, w.heap.size + 1 = p := ⟨_, rfl⟩
  rw [hp] at P0 ⊢
  clear hp
  obtain ⟨rb, hrb⟩ : ∃ rb, w.heap.size = rb := ⟨_, rfl⟩
  have HRB := Aside.mk hrb
  rw [hrb]
  clear hrb
  go_loopw [4] (fun iv wr => ∃ (i : Nat) (sd : Bool), i ≤ s0.size ∧ iv = .int .i64 i ∧ Aside (PO w wr p 0 false 0 ⟨#[48]⟩ false sd) ∧ Aside (sd = true → ∀ j (h : j < l.length), j < i → (l[j]).toNat < 128)) (fun iv _ => ((s0.size : Int) - intOf iv).toNat)
  case atStart => exact ⟨0, true, Nat.zero_le _, rfl, P0, ⟨fun _ j _ h => absurd h (Nat.not_lt_zero _)⟩⟩
  case round =>
    obtain ⟨i, sd, hi, rfl, hP, hA⟩ := hrel
    by_cases hlt : i < s0.size
    · obtain ⟨c0, c1, c2, c3, c4, c5, g0, g1, g2, g3, g4, g5⟩ := hP.out.e6
      have e2 : Aside (∀ (h : i < l.length), l[i] = s0[i]) := ⟨fun h => by
        have := HL.out
        subst this
        rfl⟩
      by_cases h128 : (128 : Int) ≤ ((s0[i]).toNat : Int)
      · go_wp2_with fail
        go_roundw
        case rel => exact ⟨i + 1, false, by omega, by go_num, ⟨hP.out.set5 false⟩, ⟨fun q => by cases q⟩⟩
        case measure => simp [intOf]; omega
      · go_wp2_with fail
        go_roundw
        case rel =>
          refine ⟨i + 1, sd, by omega, by go_num, hP, ⟨fun q j h hj => ?_⟩⟩
          by_cases e : j = i
          · subst e; rw [e2.out h]; omega
          · exact hA.out q j h (by omega)
        case measure => simp [intOf]; omega
    · obtain rfl : i = s0.size := by omega
      have hAS : Aside (sd = true → ∀ x ∈ l, x.toNat < 128) := ⟨fun q x hx => by
        obtain ⟨j, hj, rfl⟩ := List.mem_iff_getElem.1 hx
        exact hA.out q j hj (by have e1 : s0.size = s0.data.toList.length := rfl
                                rw [e1, HL.out]; exact hj)⟩
      clear hA hi hlt hs0s
      go_wp2_with fail
      refine (hLow.out _).mono ?_
      rintro e1 w2 ⟨rfl, k2⟩
      have P2 := Aside.mk (hP.out.new k2.out)
      clear k2 hP hLow P0
      obtain ⟨sg, hsg⟩ : ∃ sg : Bool, (sg = true ↔ ∃ hp : 0 < t0.size, t0.extract 1 t0.size = t ∧ ((ng = true ∧ ((t0[0]).toNat : Int) = 45) ∨ (ng = false ∧ ((t0[0]).toNat : Int) = 43))) := by
        by_cases q : ∃ hp : 0 < t0.size, t0.extract 1 t0.size = t ∧ ((ng = true ∧ ((t0[0]).toNat : Int) = 45) ∨ (ng = false ∧ ((t0[0]).toNat : Int) = 43))
        · exact ⟨true, by simp [q]⟩
        · exact ⟨false, by simp [q]⟩
      have HSG2 := Aside.mk hsg
      clear hsg
      go_upto_region 8 with fail
      go_cut [41] (fun cv wr => cv = .bool sg ∧ wr = w2)
      case first =>
        rcases HSG.out with ⟨hp, h1, ⟨h2, h3⟩ | ⟨h2, h3⟩⟩ | ⟨h1, h2, h3 | ⟨hp, h3, h4⟩⟩
        · have hs : sg = true := HSG2.out.2 ⟨hp, h1, .inl ⟨h2, h3⟩⟩
          have q0 : (t0.toList == []) = false := by rw [ByteArray.toList_eq, beq_eq_false_iff_ne]; intro k; have e1 : t0.size = t0.data.toList.length := rfl; rw [e1, k] at hp; simp at hp
          have q1 : (((t0[0]).toNat : Int) == 43) = false := by rw [beq_eq_false_iff_ne]; omega
          have q2 : (((t0[0]).toNat : Int) == 45) = true := by rw [beq_iff_eq]; omega
          clear h1 h3
          go_wp2_with fail
          go_meet
          exact ⟨by rw [hs], rfl⟩
        · have hs : sg = true := HSG2.out.2 ⟨hp, h1, .inr ⟨h2, h3⟩⟩
          have q0 : (t0.toList == []) = false := by rw [ByteArray.toList_eq, beq_eq_false_iff_ne]; intro k; have e1 : t0.size = t0.data.toList.length := rfl; rw [e1, k] at hp; simp at hp
          have q1 : (((t0[0]).toNat : Int) == 43) = true := by rw [beq_iff_eq]; omega
          clear h1 h3
          go_wp2_with fail
          go_meet
          exact ⟨by rw [hs], rfl⟩
        · have hs : sg = false := by rw [Bool.eq_false_iff]; intro k; obtain ⟨hp, _⟩ := HSG2.out.1 k; omega
          have q0 : (t0.toList == []) = true := by rw [ByteArray.toList_eq, beq_iff_eq]; exact List.eq_nil_of_length_eq_zero h3
          clear h1 h3
          go_wp2_with fail
          go_meet
          exact ⟨by rw [hs], rfl⟩
        · have hs : sg = false := by
            rw [Bool.eq_false_iff]; intro k
            obtain ⟨_, _, ⟨_, q⟩ | ⟨_, q⟩⟩ := HSG2.out.1 k
            · exact h3 q
            · exact h4 q
          have q0 : (t0.toList == []) = false := by rw [ByteArray.toList_eq, beq_eq_false_iff_ne]; intro k; have e1 : t0.size = t0.data.toList.length := rfl; rw [e1, k] at hp; simp at hp
          have q1 : (((t0[0]).toNat : Int) == 43) = false := by rw [beq_eq_false_iff_ne]; exact h4
          have q2 : (((t0[0]).toNat : Int) == 45) = false := by rw [beq_eq_false_iff_ne]; exact h3
          clear h1 h3 h4
          go_wp2_with fail
          go_meet
          exact ⟨by rw [hs], rfl⟩
      case rest =>
      obtain ⟨rfl, rfl⟩ := hcut
      go_upto_if 41 with fail
      go_cut [0] (fun sv wr => sv = .string t ∧ Aside (PO w wr p 0 ng 0 ⟨#[48]⟩ false sd))
      case first =>
        rcases HSG.out with ⟨hp, h1, hk⟩ | ⟨h1, h2, h3⟩
        · have hs : sg = true := HSG2.out.2 ⟨hp, h1, hk⟩
          subst hs
          obtain ⟨c0, c1, c2, c3, c4, c5, g0, g1, g2, g3, g4, g5⟩ := P2.out.e6
          have hle : (1 : Int) ≤ (t0.size : Int) := by omega
          rcases hk with ⟨h2, h3⟩ | ⟨h2, h3⟩
          · have q2 : (((t0[0]).toNat : Int) == 45) = true := by rw [beq_iff_eq]; omega
            clear h3
            go_wp2_with fail
            go_meet
            exact ⟨rfl, ⟨by rw [h2]; exact P2.out.set1 true⟩⟩
          · have q2 : (((t0[0]).toNat : Int) == 45) = false := by rw [beq_eq_false_iff_ne]; omega
            clear h3
            go_wp2_with fail
            go_meet
            exact ⟨rfl, ⟨by rw [h2]; exact P2.out.set1 false⟩⟩
        · have hs : sg = false := by
            rw [Bool.eq_false_iff]; intro k
            obtain ⟨hp, hq, _⟩ := HSG2.out.1 k
            have := congrArg ByteArray.size hq
            rw [ByteArray.size_extract, h1] at this
            have : 0 < t.size := by rw [← h1]; exact hp
            omega
          subst hs
          have h1A := Aside.mk h1
          clear h1 h3
          go_wp2_with fail
          go_meet
          exact ⟨by rw [h1A.out], ⟨by rw [h2]; exact P2.out⟩⟩
      case rest =>
      obtain ⟨rfl, hP3⟩ := hcut
      clear P2 HSG HSG2
      go_wp2_with fail
      obtain ⟨sb, hsb⟩ : ∃ x, wc.heap.size = x := ⟨_, rfl⟩
      have hM : Aside ((wc.alloc (.cells #[.string ⟨#[110, 97, 110]⟩, .string ⟨#[115, 110, 97, 110]⟩] 9)).cell? ⟨sb, 0, none⟩ = some (.string ⟨#[110, 97, 110]⟩) ∧ (wc.alloc (.cells #[.string ⟨#[110, 97, 110]⟩, .string ⟨#[115, 110, 97, 110]⟩] 9)).cell? ⟨sb, 1, none⟩ = some (.string ⟨#[115, 110, 97, 110]⟩)) := ⟨by rw [← hsb]; exact ⟨by rw [World.cell?_alloc_new]; rfl, by rw [World.cell?_alloc_new]; rfl⟩⟩
      have hP3b := Aside.mk (hP3.out.new ((Fr.refl (fun _ _ => False) wc).alloc (.cells #[.string ⟨#[110, 97, 110]⟩, .string ⟨#[115, 110, 97, 110]⟩] 9)))
      obtain ⟨W3, hW3⟩ : ∃ x, wc.alloc (.cells #[.string ⟨#[110, 97, 110]⟩, .string ⟨#[115, 110, 97, 110]⟩] 9) = x := ⟨_, rfl⟩
      rw [hW3] at hM hP3b ⊢
      rw [hsb]
      clear hW3 hsb hP3
      go_loopw [51] (fun kv wr => ∃ k : Nat, k ≤ 2 ∧ kv = .int .i64 k ∧ Aside (wr = W3) ∧ Aside ((1 ≤ k → Lib.hasPrefix u [110, 97, 110] = false) ∧ (2 ≤ k → Lib.hasPrefix u [115, 110, 97, 110] = false))) (fun kv _ => ((2 : Int) - intOf kv).toNat)
      case atStart => exact ⟨0, by omega, rfl, ⟨rfl⟩, ⟨fun q => by omega, fun q => by omega⟩⟩
      case round =>
        obtain ⟨k, hk, rfl, hW, hN⟩ := hrel
        obtain ⟨hW⟩ := hW
        subst hW
        have hP3 := hP3b
        have hk3 : k = 0 ∨ k = 1 ∨ k = 2 := by omega
        clear hk
        rcases hk3 with rfl | rfl | rfl
        · obtain ⟨m0, m1⟩ := hM.out
          by_cases hpre : Lib.hasPrefix u [110, 97, 110] = true
          · clear hN
            obtain ⟨c0, c1, c2, c3, c4, c5, g0, g1, g2, g3, g4, g5⟩ := hP3.out.e6
            have hR := hP3.out.r6
            rw [HRB.out] at hR
            obtain ⟨v0, v1, v2, v3, v4, v5, r0, r1, r2, r3, r4, r5, f0, f1, f2, f3, f4, f5⟩ := hR
            have hne : ¬ p = rb := by have := hP3.out.hp; have := HRB.out; omega
            have hne' : ¬ rb = p := fun q => hne q.symm
            obtain ⟨R, hR⟩ := has_split (by simpa using hpre)
            have hRt : Aside (u = 110 :: 97 :: 110 :: R) := ⟨by rw [hR]; rfl⟩
            have hsz : t.size = 3 + R.length := by
              have e1 : t.size = t.data.toList.length := rfl
              rw [e1, HTL.out, hRt.out]; simp; omega
            have hle : (3 : Int) ≤ (t.size : Int) := by omega
            have hle' : 3 ≤ t.size := by omega
            have qx : ((t.extract 0 3).toList == [110, 97, 110]) = true := by rw [ByteArray.toList_eq, beq_iff_eq]; exact ext_pre (l := [110, 97, 110]) HTL.out hRt.out
            obtain ⟨rs, hrs⟩ : ∃ rs, mk R = rs := ⟨_, rfl⟩
            have hrsl : rs.data.toList = R := by rw [← hrs, mk_toList]
            have hex : t.extract 3 t.size = rs := by rw [← hrs]; exact ext_post (l := [110, 97, 110]) HTL.out hRt.out rfl
            have hrss : rs.size ≤ 2147483647 := by
              have e1 : rs.size = rs.data.toList.length := rfl
              have := HTS.out
              rw [e1, hrsl]; omega
            obtain ⟨dg, hdg⟩ : ∃ dg : Bool, (dg = true ↔ Digs R) := by
              by_cases q : Digs R
              · exact ⟨true, by simp [q]⟩
              · exact ⟨false, by simp [q]⟩
            have HDG := Aside.mk hdg
            have hrR : rs.size = R.length := by
              have e1 : rs.size = rs.data.toList.length := rfl
              rw [e1, hrsl]
            have HRR := Aside.mk hrR
            have HRL := Aside.mk hrsl
            clear hdg hrs hrsl hsz hR hrR hpre
            have hPA := Aside.mk (hP3.out.set0 3)
            have hPB := Aside.mk ((hP3.out.set0 3).set0 2)
            go_upto_region 19 with fail
            refine r19 (by kernel_rfl) HRL.out hrss (by first | exact hPA.out.c4.cell | exact hPB.out.c4.cell) (by first | exact hPA.out.c5.cell | exact hPB.out.c5.cell) (by first | exact hPA.out.c4.free | exact hPB.out.c4.free) (by first | exact hPA.out.c5.free | exact hPB.out.c5.free) HDG.out _ _ _ _ _ _ _ _ _ _ _ _ _ _ _ _ _ _ _ _ _ _ _ _ _ _ _ _ _ _ _ _ _ _ _ _ _ _ _ _ _ _ _ _ _ _ _ _ _ _ _ _ _ _ _ _ _ _ _ _ _ _ _ _ _ _ _ _ _ _ _ _ _ _ _ _ _ _ _ _ _ _ _ _ _ _ _ _ _ _ _ _ _ _ _ _ _ _ _ _ _ _ _ _ _ _ _ _ _ _ _ _ _ _ _ _ _ _ _ _ _ _ _ _ _ _ _ _ _ _ _ _ _ _ _ _ _ _ _ _ _ _ _ _ _ _ _ _ _ _ _ _ _ _ _ _ _ _ _ _ _ _ _ _ _ _ _ _ _ _ _ _ _ _ _ _ _ _ _ _ _ _ _ _ _ _ _ _ _ _ _ _ _ _ _ _ _ _ _ _ _ _ _ _ _ _ _ _ _ _ _ _ _ _ _ _ _ _ _ _ _ _ _ _ _ _ (fun _ _ _ _ _ h => h) ⟨?_⟩
            intro sx hsx _ _ _ _ _ _ _ _ _ _ _ _ _ _ _ _ _ _ _ _ _ _ w9 hw9
            have HSX := Aside.mk hsx
            have hPC : Aside (PO w w9 p 3 ng 0 ⟨#[48]⟩ dg sx) := ⟨by rw [hw9]; exact ((hPA.out.set4 dg).set5 sx).new ((Fr.refl _ _).drew)⟩
            clear hsx hw9 hPA hPB hP3 c0 c1 c2 c3 c4 c5 g0 g1 g2 g3 g4 g5 r0 r1 r2 r3 r4 r5 f0 f1 f2 f3 f4 f5 hne hne'
            obtain ⟨c0, c1, c2, c3, c4, c5, g0, g1, g2, g3, g4, g5⟩ := hPC.out.e6
            have hR := hPC.out.r6
            rw [HRB.out] at hR
            obtain ⟨v0, v1, v2, v3, v4, v5, r0, r1, r2, r3, r4, r5, f0, f1, f2, f3, f4, f5⟩ := hR
            have hne : ¬ p = rb := by have := hPC.out.hp; have := HRB.out; omega
            have hne' : ¬ rb = p := fun q => hne q.symm
            go_wp2_with fail
            refine bodyPost_ret (v := .agg #[.int .i64 (3), .bool ng, .int .i32 (0), .string ⟨#[48]⟩, .bool dg, .bool sx]) (by simp [results, Tryz.results7, go_sem, *]) rfl ⟨3, ng, 0, ⟨#[48]⟩, dg, sx, rfl, (fun _ q => ⟨hAS.out (HSX.out q).1, HU.out.1.symm, .inl ⟨R, by rw [HU.out.2]; exact hRt.out, (HSX.out q).2.1, (HSX.out q).2.2, rfl, rfl, rfl, HDG.out⟩⟩), ?_⟩
            have hfr := hPC.out.fr
            have hpp := hPC.out.hp
            have hrr := HRB.out
            repeat' (first | with_reducible exact hfr | with_reducible refine Fr.setCell ?_ _ _ _ (fun q => by omega) | with_reducible refine Fr.drew ?_)

          · have hp0 : Lib.hasPrefix u [110, 97, 110] = false := by simpa using hpre
            have HP0 := Aside.mk hp0
            clear hpre
            by_cases h3 : (3 : Int) ≤ (t.size : Int)
            · have qx : ((t.extract 0 3).toList == [110, 97, 110]) = false := by rw [ByteArray.toList_eq, beq_eq_false_iff_ne]; exact ext_no HTL.out hp0 (by simp)
              have h3' : 3 ≤ t.size := by omega
              clear hp0
              go_wp2_with fail
              go_roundw
              case rel => exact ⟨1, by omega, rfl, ⟨by trivial⟩, ⟨fun _ => HP0.out, fun q => by omega⟩⟩
              case measure => simp [intOf]
            · clear hp0
              go_wp2_with fail
              go_roundw
              case rel => exact ⟨1, by omega, rfl, ⟨by trivial⟩, ⟨fun _ => HP0.out, fun q => by omega⟩⟩
              case measure => simp [intOf]
        · obtain ⟨m0, m1⟩ := hM.out
          by_cases hpre : Lib.hasPrefix u [115, 110, 97, 110] = true
          · clear hN
            obtain ⟨c0, c1, c2, c3, c4, c5, g0, g1, g2, g3, g4, g5⟩ := hP3.out.e6
            have hR := hP3.out.r6
            rw [HRB.out] at hR
            obtain ⟨v0, v1, v2, v3, v4, v5, r0, r1, r2, r3, r4, r5, f0, f1, f2, f3, f4, f5⟩ := hR
            have hne : ¬ p = rb := by have := hP3.out.hp; have := HRB.out; omega
            have hne' : ¬ rb = p := fun q => hne q.symm
            obtain ⟨R, hR⟩ := has_split (by simpa using hpre)
            have hRt : Aside (u = 115 :: 110 :: 97 :: 110 :: R) := ⟨by rw [hR]; rfl⟩
            have hsz : t.size = 4 + R.length := by
              have e1 : t.size = t.data.toList.length := rfl
              rw [e1, HTL.out, hRt.out]; simp; omega
            have hle : (4 : Int) ≤ (t.size : Int) := by omega
            have hle' : 4 ≤ t.size := by omega
            have qx : ((t.extract 0 4).toList == [115, 110, 97, 110]) = true := by rw [ByteArray.toList_eq, beq_iff_eq]; exact ext_pre (l := [115, 110, 97, 110]) HTL.out hRt.out
            obtain ⟨rs, hrs⟩ : ∃ rs, mk R = rs := ⟨_, rfl⟩
            have hrsl : rs.data.toList = R := by rw [← hrs, mk_toList]
            have hex : t.extract 4 t.size = rs := by rw [← hrs]; exact ext_post (l := [115, 110, 97, 110]) HTL.out hRt.out rfl
            have hrss : rs.size ≤ 2147483647 := by
              have e1 : rs.size = rs.data.toList.length := rfl
              have := HTS.out
              rw [e1, hrsl]; omega
            obtain ⟨dg, hdg⟩ : ∃ dg : Bool, (dg = true ↔ Digs R) := by
              by_cases q : Digs R
              · exact ⟨true, by simp [q]⟩
              · exact ⟨false, by simp [q]⟩
            have HDG := Aside.mk hdg
            have hrR : rs.size = R.length := by
              have e1 : rs.size = rs.data.toList.length := rfl
              rw [e1, hrsl]
            have HRR := Aside.mk hrR
            have HRL := Aside.mk hrsl
            clear hdg hrs hrsl hsz hR hrR hpre
            have hPA := Aside.mk (hP3.out.set0 3)
            have hPB := Aside.mk ((hP3.out.set0 3).set0 2)
            go_upto_region 19 with fail
            refine r19 (by kernel_rfl) HRL.out hrss (by first | exact hPA.out.c4.cell | exact hPB.out.c4.cell) (by first | exact hPA.out.c5.cell | exact hPB.out.c5.cell) (by first | exact hPA.out.c4.free | exact hPB.out.c4.free) (by first | exact hPA.out.c5.free | exact hPB.out.c5.free) HDG.out _ _ _ _ _ _ _ _ _ _ _ _ _ _ _ _ _ _ _ _ _ _ _ _ _ _ _ _ _ _ _ _ _ _ _ _ _ _ _ _ _ _ _ _ _ _ _ _ _ _ _ _ _ _ _ _ _ _ _ _ _ _ _ _ _ _ _ _ _ _ _ _ _ _ _ _ _ _ _ _ _ _ _ _ _ _ _ _ _ _ _ _ _ _ _ _ _ _ _ _ _ _ _ _ _ _ _ _ _ _ _ _ _ _ _ _ _ _ _ _ _ _ _ _ _ _ _ _ _ _ _ _ _ _ _ _ _ _ _ _ _ _ _ _ _ _ _ _ _ _ _ _ _ _ _ _ _ _ _ _ _ _ _ _ _ _ _ _ _ _ _ _ _ _ _ _ _ _ _ _ _ _ _ _ _ _ _ _ _ _ _ _ _ _ _ _ _ _ _ _ _ _ _ _ _ _ _ _ _ _ _ _ _ _ _ _ _ _ _ _ _ _ _ _ _ _ (fun _ _ _ _ _ h => h) ⟨?_⟩
            intro sx hsx _ _ _ _ _ _ _ _ _ _ _ _ _ _ _ _ _ _ _ _ _ _ w9 hw9
            have HSX := Aside.mk hsx
            have hPC : Aside (PO w w9 p 2 ng 0 ⟨#[48]⟩ dg sx) := ⟨by rw [hw9]; exact ((hPB.out.set4 dg).set5 sx).new ((Fr.refl _ _).drew)⟩
            clear hsx hw9 hPA hPB hP3 c0 c1 c2 c3 c4 c5 g0 g1 g2 g3 g4 g5 r0 r1 r2 r3 r4 r5 f0 f1 f2 f3 f4 f5 hne hne'
            obtain ⟨c0, c1, c2, c3, c4, c5, g0, g1, g2, g3, g4, g5⟩ := hPC.out.e6
            have hR := hPC.out.r6
            rw [HRB.out] at hR
            obtain ⟨v0, v1, v2, v3, v4, v5, r0, r1, r2, r3, r4, r5, f0, f1, f2, f3, f4, f5⟩ := hR
            have hne : ¬ p = rb := by have := hPC.out.hp; have := HRB.out; omega
            have hne' : ¬ rb = p := fun q => hne q.symm
            go_wp2_with fail
            refine bodyPost_ret (v := .agg #[.int .i64 (2), .bool ng, .int .i32 (0), .string ⟨#[48]⟩, .bool dg, .bool sx]) (by simp [results, Tryz.results7, go_sem, *]) rfl ⟨2, ng, 0, ⟨#[48]⟩, dg, sx, rfl, (fun _ q => ⟨hAS.out (HSX.out q).1, HU.out.1.symm, .inr (.inl ⟨R, by rw [HU.out.2]; exact hRt.out, (HSX.out q).2.1, rfl, rfl, rfl, HDG.out⟩)⟩), ?_⟩
            have hfr := hPC.out.fr
            have hpp := hPC.out.hp
            have hrr := HRB.out
            repeat' (first | with_reducible exact hfr | with_reducible refine Fr.setCell ?_ _ _ _ (fun q => by omega) | with_reducible refine Fr.drew ?_)

          · have hp0 : Lib.hasPrefix u [115, 110, 97, 110] = false := by simpa using hpre
            have HP0 := Aside.mk hp0
            clear hpre
            by_cases h3 : (4 : Int) ≤ (t.size : Int)
            · have qx : ((t.extract 0 4).toList == [115, 110, 97, 110]) = false := by rw [ByteArray.toList_eq, beq_eq_false_iff_ne]; exact ext_no HTL.out hp0 (by simp)
              have h3' : 4 ≤ t.size := by omega
              clear hp0
              go_wp2_with fail
              go_roundw
              case rel => exact ⟨2, by omega, rfl, ⟨by trivial⟩, ⟨fun _ => hN.out.1 (by omega), fun _ => HP0.out⟩⟩
              case measure => simp [intOf]
            · clear hp0
              go_wp2_with fail
              go_roundw
              case rel => exact ⟨2, by omega, rfl, ⟨by trivial⟩, ⟨fun _ => hN.out.1 (by omega), fun _ => HP0.out⟩⟩
              case measure => simp [intOf]
        · have HN1 := Aside.mk (hN.out.1 (by omega))
          have HN2 := Aside.mk (hN.out.2 (by omega))
          clear hN hM
          obtain ⟨c0, c1, c2, c3, c4, c5, g0, g1, g2, g3, g4, g5⟩ := hP3.out.e6
          have hR := hP3.out.r6
          rw [HRB.out] at hR
          obtain ⟨v0, v1, v2, v3, v4, v5, r0, r1, r2, r3, r4, r5, f0, f1, f2, f3, f4, f5⟩ := hR
          have hne : ¬ p = rb := by have := hP3.out.hp; have := HRB.out; omega
          have hne' : ¬ rb = p := fun q => hne q.symm
          by_cases hi1 : u = [105, 110, 102]
          · have q1 : (t.toList == [105, 110, 102]) = true := by rw [ByteArray.toList_eq, beq_iff_eq, HTL.out]; exact hi1
            have HI1 := Aside.mk hi1
            clear hi1
            go_wp2_with fail
            refine bodyPost_ret (v := .agg #[.int .i64 (1), .bool ng, .int .i32 (0), .string ⟨#[48]⟩, .bool true, .bool sd]) (by simp [results, Tryz.results7, go_sem, *]) rfl ⟨1, ng, 0, ⟨#[48]⟩, true, sd, rfl, (fun _ q => ⟨hAS.out q, HU.out.1.symm, .inr (.inr (.inl ⟨.inl (by rw [HU.out.2]; exact HI1.out), rfl, rfl, rfl, rfl⟩))⟩), ?_⟩
            have hfr := hP3.out.fr
            have hpp := hP3.out.hp
            have hrr := HRB.out
            repeat' (first | with_reducible exact hfr | with_reducible refine Fr.setCell ?_ _ _ _ (fun q => by omega) | with_reducible refine Fr.drew ?_)
          have q1 : (t.toList == [105, 110, 102]) = false := by rw [ByteArray.toList_eq, beq_eq_false_iff_ne, HTL.out]; exact hi1
          have HI1 := Aside.mk hi1
          clear hi1
          by_cases hi2 : u = [105, 110, 102, 105, 110, 105, 116, 121]
          · have q2 : (t.toList == [105, 110, 102, 105, 110, 105, 116, 121]) = true := by rw [ByteArray.toList_eq, beq_iff_eq, HTL.out]; exact hi2
            have HI2 := Aside.mk hi2
            clear hi2
            go_wp2_with fail
            refine bodyPost_ret (v := .agg #[.int .i64 (1), .bool ng, .int .i32 (0), .string ⟨#[48]⟩, .bool true, .bool sd]) (by simp [results, Tryz.results7, go_sem, *]) rfl ⟨1, ng, 0, ⟨#[48]⟩, true, sd, rfl, (fun _ q => ⟨hAS.out q, HU.out.1.symm, .inr (.inr (.inl ⟨.inr (by rw [HU.out.2]; exact HI2.out), rfl, rfl, rfl, rfl⟩))⟩), ?_⟩
            have hfr := hP3.out.fr
            have hpp := hP3.out.hp
            have hrr := HRB.out
            repeat' (first | with_reducible exact hfr | with_reducible refine Fr.setCell ?_ _ _ _ (fun q => by omega) | with_reducible refine Fr.drew ?_)
          have q2 : (t.toList == [105, 110, 102, 105, 110, 105, 116, 121]) = false := by rw [ByteArray.toList_eq, beq_eq_false_iff_ne, HTL.out]; exact hi2
          have HI2 := Aside.mk hi2
          clear hi2
          have HREL : Aside (∀ (e : Int) (s : ByteArray) (ok : Bool), FinR u e s ok → sd = true → SPR l 0 ng e s ok) := ⟨fun e s ok h q => ⟨hAS.out q, HU.out.1.symm, .inr (.inr (.inr ⟨by rw [HU.out.2]; exact HN1.out, by rw [HU.out.2]; exact HN2.out, by rw [HU.out.2]; exact HI1.out, by rw [HU.out.2]; exact HI2.out, rfl, by rw [HU.out.2]; exact h⟩))⟩⟩
          have hts := HTS.out
          have HTL2 : Aside (t.size ≤ l.length) := ⟨by
            have e1 : t.size = t.data.toList.length := rfl
            have e2 := sgnR_le l
            rw [e1, HTL.out, ← HU.out.2]; simp [Lib.toLowerA]; exact e2⟩
          clear HN1 HN2 HI1 HI2 HU hAS c0 c1 c2 c3 c4 c5 g0 g1 g2 g3 g4 g5 r0 r1 r2 r3 r4 r5 f0 f1 f2 f3 f4 f5 hne hne'
          go_upto_block 4 with fail
          clear q1 q2
          go_cut [9, 10] (fun av iv wx => Aside (PO w wx p 0 ng 0 ⟨#[48]⟩ false sd) ∧ ∃ a : Int, av = .int .i64 a ∧ -1 ≤ a ∧ a ≤ 2147483647 ∧ Aside ((a = -1 ∧ (101 : UInt8) ∉ u) ∨ ∃ m R, a = ((m.length : Nat) : Int) ∧ u = m ++ 101 :: R ∧ (101 : UInt8) ∉ m))
          case first =>
            go_wp2_with fail
            go_loopw [9, 10] (fun av iv wx => ∃ i : Nat, i ≤ t.size ∧ iv = .int .i64 i ∧ Aside (PO w wx p 0 ng 0 ⟨#[48]⟩ false sd) ∧ ((av = .int .i64 (-1) ∧ Aside (∀ j (h : j < u.length), j < i → u[j] ≠ 101)) ∨ (∃ q : Nat, i = q + 1 ∧ av = .int .i64 q ∧ Aside (∃ h : q < u.length, u[q] = 101 ∧ ∀ j (h : j < u.length), j < q → u[j] ≠ 101)))) (fun _ iv _ => ((t.size : Int) - intOf iv).toNat)
            case atStart => exact ⟨0, Nat.zero_le _, rfl, hP3, .inl ⟨rfl, ⟨fun j _ h => absurd h (Nat.not_lt_zero _)⟩⟩⟩
            case round =>
              obtain ⟨i, hi, rfl, hP4, ⟨rfl, hA⟩ | ⟨q, rfl, rfl, hA⟩⟩ := hrel
              · by_cases hlt : i < t.size
                · have e2 : Aside (∀ (h : i < u.length), u[i] = t[i]) := ⟨fun h => by
                    have := HTL.out
                    subst this
                    rfl⟩
                  have hul : Aside (i < u.length) := ⟨by rw [← HTL.out]; exact hlt⟩
                  by_cases hx : t[i] = 101
                  · have qx : (((t[i]).toNat : Int) == 101) = true := by rw [hx]; rfl
                    have HX := Aside.mk hx
                    clear hx
                    go_wp2_with fail
                    go_roundw
                    case rel => exact ⟨i + 1, by omega, by go_num, hP4, .inr ⟨i, rfl, rfl, ⟨hul.out, by rw [e2.out]; exact HX.out, fun j h hj => hA.out j h hj⟩⟩⟩
                    case measure => simp [intOf]; omega
                  · have qx : (((t[i]).toNat : Int) == 101) = false := by
                      rw [beq_eq_false_iff_ne]; intro k
                      exact hx (by apply UInt8.toNat_inj.1; have : (101 : UInt8).toNat = 101 := rfl
                                   omega)
                    have HX := Aside.mk hx
                    clear hx
                    go_wp2_with fail
                    go_roundw
                    case rel =>
                      refine ⟨i + 1, by omega, by go_num, hP4, .inl ⟨rfl, ⟨fun j h hj => ?_⟩⟩⟩
                      by_cases e : j = i
                      · subst e; rw [e2.out h]; exact HX.out
                      · exact hA.out j h (by omega)
                    case measure => simp [intOf]; omega
                · have hno : Aside ((101 : UInt8) ∉ u) := ⟨fun k => by
                    obtain ⟨j, hj, e⟩ := List.mem_iff_getElem.1 k
                    exact hA.out j hj (by have e1 : t.size = t.data.toList.length := rfl
                                          rw [HTL.out] at e1; omega) e⟩
                  go_wp2_with fail
                  go_meet
                  exact ⟨hP4, -1, rfl, by omega, by omega, ⟨.inl ⟨rfl, hno.out⟩⟩⟩
              · have hno : Aside (∃ m R, (((q : Nat) : Int) = ((m.length : Nat) : Int)) ∧ u = m ++ 101 :: R ∧ (101 : UInt8) ∉ m) := ⟨by
                  obtain ⟨h, h1, h2⟩ := hA.out
                  refine ⟨u.take q, u.drop (q + 1), by rw [List.length_take]; omega, ?_, fun k => ?_⟩
                  · rw [← h1, ← List.drop_eq_getElem_cons h, List.take_append_drop]
                  · obtain ⟨j, hj, e⟩ := List.mem_iff_getElem.1 k
                    rw [List.getElem_take] at e
                    rw [List.length_take] at hj
                    exact h2 j (by omega) (by omega) e⟩
                have hq0 : ¬ ((q : Int) < 0) := by omega
                clear hA
                by_cases hlt : q + 1 < t.size
                · go_wp2_with fail
                  go_meet
                  exact ⟨hP4, q, rfl, by omega, by omega, ⟨.inr hno.out⟩⟩
                · go_wp2_with fail
                  go_meet
                  exact ⟨hP4, q, rfl, by omega, by omega, ⟨.inr hno.out⟩⟩
          case rest =>
          obtain ⟨hP4, a, rfl, ha1, ha2, hcase⟩ := hcut
          clear hP3
          go_upto_if 128 with fail
          refine wp_QF (secF (by kernel_rfl) HRB HTL hts hP4 ha1 ha2 (by first | rfl | simp) hcase _ _ _ _ _ _ _ _ _ _ _ _ _ _ _ _ _ _ _ _ _ _ _ _ _ _ _ _ _ _ _ _ _ _ _ _ _ _ _ _ _ _ _ _ _ _ _ _ _ _ _ _ _ _ _ _ _ _ _ _ _ _ _ _ _ _ _ _ _ _ _ _ _ _ _ _ _ _ _ _ _ _ _ _ _ _ _ _ _ _ _ _ _ _ _ _ _ _ _ _ _ _ _ _ _ _ _ _ _ _ _ _ _ _ _ _ _ _ _ _ _ _ _ _ _ _ _ _ _ _ _ _ _ _ _ _ _ _ _ _ _ _ _ _ _ _ _ _ _ _ _ _ _ _ _ _ _ _ _ _ _ _ _ _ _ _ _ _ _ _ _ _ _ _ _ _ _ _ _ _ _ _ _ _ _ _ _ _ _ _ _ _ _ _ _ _ _ _ _ _ _ _ _ _ _ _ _ _ _ _ _ _ _ _ _ _ _ _ _ _ _ _ _ ⟨?_⟩ ⟨?_⟩)
          rotate_left 1
          · intro sx z0 z8 z11 z12 z13 z129 z130 z131 z132 z133 z134 z135 z136 z137 z138 z139 z140 z141 z142 z143 z144 z145 z146 z147 z148 z149 z150 z151 z152 z153 z154 z155 z156 z157 z158 z159 z160 z161 z162 z163 z164 z165 z166 z167 z168 z169 z170 z171 z172 z173 z174 z175 z176 z177 z178 z179 z180 z181 z182 z183 wq hrel hPR
            clear hP4 ha1 ha2 hcase
            obtain ⟨c0, c1, c2, c3, c4, c5, g0, g1, g2, g3, g4, g5⟩ := hPR.out.e6
            have hR := hPR.out.r6
            rw [HRB.out] at hR
            obtain ⟨v0, v1, v2, v3, v4, v5, r0, r1, r2, r3, r4, r5, f0, f1, f2, f3, f4, f5⟩ := hR
            have hne : ¬ p = rb := by have := hPR.out.hp; have := HRB.out; omega
            have hne' : ¬ rb = p := fun q => hne q.symm
            go_wp2_with fail
            refine bodyPost_ret (v := .agg #[.int .i64 (0), .bool ng, .int .i32 (0), .string ⟨#[48]⟩, .bool false, .bool sx]) (by simp [results, Tryz.results7, go_sem, *]) rfl ⟨0, ng, 0, ⟨#[48]⟩, false, sx, rfl, (fun _ q => HREL.out _ _ _ (hrel q).2 (hrel q).1), ?_⟩
            have hfr := hPR.out.fr
            have hpp := hPR.out.hp
            have hrr := HRB.out
            repeat' (first | with_reducible exact hfr | with_reducible refine Fr.setCell ?_ _ _ _ (fun q => by omega) | with_reducible refine Fr.drew ?_)
          intro mb ev z11 z12 z13 z129 z130 z131 z132 z133 z134 z135 z136 z137 z138 z139 z140 z141 z142 z143 z144 z145 z146 z147 z148 z149 z150 z151 z152 z153 z154 z155 z156 z157 z158 z159 z160 z161 z162 z163 z164 z165 z166 z167 z168 z169 z170 z171 z172 z173 z174 z175 z176 z177 z178 z179 z180 z181 z182 z183 wf ⟨he1, he2, hmbs, HMAN, hP5⟩
          clear hP4 ha1 ha2 hcase
          obtain ⟨ml, hml⟩ : ∃ ml, mb.data.toList = ml := ⟨_, rfl⟩
          rw [hml] at HMAN
          have HML := Aside.mk hml
          have hmb2 : mb.size ≤ 2147483647 := by omega
          clear hml
          go_upto_block 8 with fail
          refine wp_QF (secG (by kernel_rfl) HRB HML hmb2 he1 he2 hP5 _ _ _ _ _ _ _ _ _ _ _ _ _ _ _ _ _ _ _ _ _ _ _ _ _ _ _ _ _ _ _ _ _ _ _ _ _ _ _ _ _ _ _ _ _ _ _ _ _ _ _ _ _ _ _ _ _ _ _ _ _ _ _ _ _ _ _ _ _ _ _ _ _ _ _ _ _ _ _ _ _ _ _ _ _ _ _ _ _ _ _ _ _ _ _ _ _ _ _ _ _ _ _ _ _ _ _ _ _ _ _ _ _ _ _ _ _ _ _ _ _ _ _ _ _ _ _ _ _ _ _ _ _ _ _ _ _ _ _ _ _ _ _ _ _ _ _ _ _ _ _ _ _ _ _ _ _ _ _ _ _ _ _ _ _ _ _ _ _ _ _ _ _ _ _ _ _ _ _ _ _ _ _ _ _ _ _ _ _ _ _ _ _ _ _ _ _ _ _ _ _ _ _ _ _ _ _ _ _ _ _ _ _ _ _ _ _ _ _ _ _ _ _ _ ⟨?_⟩)
          intro ab A B x y14 y184 y185 y186 y187 y188 y189 y190 y191 y192 y193 y194 y195 y196 y197 y198 y199 y200 y201 y202 y203 y204 y205 y206 y207 y208 wg ⟨hxe, habs, hBl, HAB, HABL, hP6⟩
          clear hP5
          obtain ⟨c0, c1, c2, c3, c4, c5, g0, g1, g2, g3, g4, g5⟩ := hP6.out.e6
          have hR := hP6.out.r6
          rw [HRB.out] at hR
          obtain ⟨v0, v1, v2, v3, v4, v5, r0, r1, r2, r3, r4, r5, f0, f1, f2, f3, f4, f5⟩ := hR
          have hne : ¬ p = rb := by have := hP6.out.hp; have := HRB.out; omega
          have hne' : ¬ rb = p := fun q => hne q.symm
          obtain ⟨AB, hAB⟩ : ∃ AB, A ++ B = AB := ⟨_, rfl⟩
          have hx : ev - ((B.length : Nat) : Int) = x := hxe.symm
          have HM2 : Aside (∀ e s ok, ((ok = true ∧ Digs AB ∧ AB ≠ [] ∧ e = x ∧ s = mk (natText (numOf AB))) ∨ (ok = false ∧ ¬ (Digs AB ∧ AB ≠ []))) → sd = true → SPR l 0 ng e s ok) := ⟨fun e s ok h q => HREL.out _ _ _ (HMAN.out _ _ _ ⟨A, B, HAB.out, by rw [hAB, hx]; exact h⟩) q⟩
          have HER : Aside (ab.data.toList = AB) := ⟨by rw [HABL.out, hAB]⟩
          have hx1 : -2147493647 ≤ x := by omega
          have hx2 : x ≤ 9999 := by omega
          have HXL : Aside (l.length ≤ 1000 → -11000 ≤ x) := ⟨fun hl => by have := HTL2.out; omega⟩
          clear hAB hx hxe HAB HABL HMAN HREL
          have hers : ab.size ≤ 2147483647 := by omega
          have hel : ab.data.toList.length = ab.size := rfl
          have heu : AB.length = ab.size := by rw [← hel, HER.out]
          have HEU := Aside.mk heu
          by_cases he0 : ab.size = 0
          · have qe : (ab.toList == []) = true := by rw [ByteArray.toList_eq, beq_iff_eq]; exact List.eq_nil_of_length_eq_zero he0
            have HE0 : Aside (AB = []) := ⟨List.eq_nil_of_length_eq_zero (heu.trans he0)⟩
            clear he0 hel heu
            go_wp2_with fail
            refine bodyPost_ret (v := .agg #[.int .i64 (0), .bool ng, .int .i32 (0), .string ⟨#[48]⟩, .bool false, .bool sd]) (by simp [results, Tryz.results7, go_sem, *]) rfl ⟨0, ng, 0, ⟨#[48]⟩, false, sd, rfl, (fun _ q => HM2.out _ _ _ (.inr ⟨rfl, fun k => k.2 HE0.out⟩) q), ?_⟩
            have hfr := hP6.out.fr
            have hpp := hP6.out.hp
            have hrr := HRB.out
            repeat' (first | with_reducible exact hfr | with_reducible refine Fr.setCell ?_ _ _ _ (fun q => by omega) | with_reducible refine Fr.drew ?_)
          have qe : (ab.toList == []) = false := by rw [ByteArray.toList_eq, beq_eq_false_iff_ne]; intro k; rw [k] at hel; exact he0 hel.symm
          have he1 : 0 < ab.size := by omega
          clear he0 hel heu
          obtain ⟨bt, hbt⟩ : ∃ bt, mk (natText (numOf AB)) = bt := ⟨_, rfl⟩
          obtain ⟨dg, hdg⟩ : ∃ dg : Bool, (dg = true ↔ Digs AB) := by
            by_cases q : Digs AB
            · exact ⟨true, by simp [q]⟩
            · exact ⟨false, by simp [q]⟩
          have HDG := Aside.mk hdg
          have hO : Hid (∀ w1, Calls Tryz.prog 19 #[.string ab] w1 fun e1 w' => e1 = .returned (.bool dg) ∧ w' = w1) := Lib.hid (fun w1 => by
            refine (only2_any (w := w1) hers).mono ?_
            rintro e1 w' ⟨rfl, ⟨rfl, q⟩ | ⟨rfl, q⟩⟩
            · rw [HER.out] at q
              have : dg = false := by rw [Bool.eq_false_iff]; intro k; exact q (HDG.out.1 k)
              exact ⟨by rw [this], rfl⟩
            · rw [HER.out] at q
              exact ⟨by rw [HDG.out.2 q], rfl⟩)
          have hB : Hid (∀ w1, Digs AB → Calls Tryz.prog 20 #[.string ab] w1 fun e1 w' => e1 = .returned (.string bt) ∧ Aside (Fr (fun _ _ => False) w1 w')) := Lib.hid (fun w1 hd => by
            refine (bare_any (w := w1) (by rw [HER.out]; exact hd) he1 hers).mono ?_
            rintro e1 w' ⟨rfl, k⟩
            exact ⟨by rw [HER.out, hbt], ⟨k⟩⟩)
          have HBT := Aside.mk hbt
          clear hdg hbt
          obtain ⟨y, hy⟩ : ∃ y, IntKind.i32.wrap x = y := ⟨_, rfl⟩
          have HY : Aside (l.length ≤ 1000 → y = x) := ⟨fun hl => by
            have := HXL.out hl
            rw [← hy]
            exact IntWalk.i32_in x ⟨by omega, by omega⟩⟩
          cases dg
          case false =>
            go_wp2_with fail
            refine (hO.out _).mono ?_
            rintro e1 w' ⟨rfl, rfl⟩
            go_wp2_with fail
            refine bodyPost_ret (v := .agg #[.int .i64 (0), .bool ng, .int .i32 (0), .string ⟨#[48]⟩, .bool false, .bool sd]) (by simp [results, Tryz.results7, go_sem, *]) rfl ⟨0, ng, 0, ⟨#[48]⟩, false, sd, rfl, (fun _ q => HM2.out _ _ _ (.inr ⟨rfl, fun k => absurd (HDG.out.2 k.1) (by simp)⟩) q), ?_⟩
            have hfr := hP6.out.fr
            have hpp := hP6.out.hp
            have hrr := HRB.out
            repeat' (first | with_reducible exact hfr | with_reducible refine Fr.setCell ?_ _ _ _ (fun q => by omega) | with_reducible refine Fr.drew ?_)
          have HD : Aside (Digs AB) := ⟨HDG.out.1 rfl⟩
          go_wp2_with fail
          refine (hO.out _).mono ?_
          rintro e1 w' ⟨rfl, rfl⟩
          go_wp2_with fail
          refine (hB.out _ HD.out).mono ?_
          rintro e1 w7 ⟨rfl, k7⟩
          have hP7 := Aside.mk (hP6.out.new k7.out)
          clear hB hO hP6 k7 c0 c1 c2 c3 c4 c5 g0 g1 g2 g3 g4 g5 r0 r1 r2 r3 r4 r5 f0 f1 f2 f3 f4 f5 hne hne'
          obtain ⟨c0, c1, c2, c3, c4, c5, g0, g1, g2, g3, g4, g5⟩ := hP7.out.e6
          have hR := hP7.out.r6
          rw [HRB.out] at hR
          obtain ⟨v0, v1, v2, v3, v4, v5, r0, r1, r2, r3, r4, r5, f0, f1, f2, f3, f4, f5⟩ := hR
          have hne : ¬ p = rb := by have := hP7.out.hp; have := HRB.out; omega
          have hne' : ¬ rb = p := fun q => hne q.symm
          go_wp2_with fail
          refine bodyPost_ret (v := .agg #[.int .i64 (0), .bool ng, .int .i32 (y), .string bt, .bool true, .bool sd]) (by simp [results, Tryz.results7, go_sem, *]) rfl ⟨0, ng, y, bt, true, sd, rfl, (fun hl q => HM2.out _ _ _ (.inl ⟨rfl, HD.out, by intro k; have := HEU.out; rw [k] at this; simp at this; omega, HY.out hl, HBT.out.symm⟩) q), ?_⟩
          have hfr := hP7.out.fr
          have hpp := hP7.out.hp
          have hrr := HRB.out
          repeat' (first | with_reducible exact hfr | with_reducible refine Fr.setCell ?_ _ _ _ (fun q => by omega) | with_reducible refine Fr.drew ?_)
end Go.Proofs.YtifkpcijheabhaaGreatDoor
