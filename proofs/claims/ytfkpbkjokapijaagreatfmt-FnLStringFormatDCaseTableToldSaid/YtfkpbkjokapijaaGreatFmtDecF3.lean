/- floatBits ends: the walk through both loops. -/
import Derived.Test.YtfkpbkjokapijaaGreatFmtDecF2
namespace Go.Proofs.YtfkpbkjokapijaaGreatFmt.PQ
open Go.RowKit Go.Proofs.YtfkpbkjokapijaaGreatFmtW.PrintWords
set_option linter.unusedVariables false
set_option linter.unusedSimpArgs false

set_option maxHeartbeats 8000000 in
set_option maxRecDepth 100000 in
theorem fb_walk (x : D) (hx : x.Good) (d0 : -330 ≤ x.dp) (d1 : x.dp ≤ 310) (J : Nat) (X : Nat → D × Int) (X0 : X 0 = (x, 0)) (X1 : ∀ j, j ≤ J → (X j).1.Good ∧ -400 ≤ (X j).1.dp ∧ (X j).1.dp ≤ 310 ∧ 0 ≤ (X j).2 ∧ (X j).2 ≤ 300000)
    (X2 : ∀ j, j < J → 0 < (X j).1.dp ∧ (X (j + 1)).2 = (X j).2 + stepN (X j).1.dp ∧ Shifts (X j).1 (X (j + 1)).1 (-(stepN (X j).1.dp))) (X3 : (X J).1.dp ≤ 0)
    (K : Nat) (Y : Nat → D × Int) (Y0 : Y 0 = X J) (Y1 : ∀ j, j ≤ K → (Y j).1.Good ∧ -400 ≤ (Y j).1.dp ∧ (Y j).1.dp ≤ 400 ∧ -290000 ≤ (Y j).2 ∧ (Y j).2 ≤ 300000)
    (Y2 : ∀ j, j < K → ((Y j).1.dp < 0 ∨ (Y j).1.dp = 0 ∧ (Y j).1.c 0 < 53) ∧ (Y (j + 1)).2 = (Y j).2 - stepN (-(Y j).1.dp) ∧ Shifts (Y j).1 (Y (j + 1)).1 (stepN (-(Y j).1.dp))) (Y3 : ¬ ((Y K).1.dp < 0 ∨ (Y K).1.dp = 0 ∧ (Y K).1.c 0 < 53))
    (Z : D) (e2 : Int) (e20 : -1022 ≤ e2) (e21 : e2 ≤ 300000)
    (hz : (Y K).2 - 1 < -1022 ∧ e2 = -1022 ∧ Shifts (Y K).1 Z (-(-1022 - ((Y K).2 - 1))) ∨ -1022 ≤ (Y K).2 - 1 ∧ e2 = (Y K).2 - 1 ∧ Z = (Y K).1)
    (V : D) (hV : Shifts Z V 53) (r : Int) (hr : ∀ (g : Nat) (w : World), IsDec g V w → Calls Tryz.prog 88 #[.pointer (some ⟨g, 0, none⟩)] w fun en w' => en = .returned (.int .u64 r) ∧ ∃ m, w' = w.drewN m)
    : ∃ o : Bool, ∀ (g : Nat) (w : World), FB g w → IsDec g x w →
    Calls Tryz.prog 68 #[.pointer (some ⟨g, 0, none⟩), .pointer (some ⟨6, 0, none⟩)] w fun en w' => (∃ b : Int, en = .returned (.tuple #[.int .u64 b, .bool o])) ∧ OnlyAt g w w' := by
  refine ⟨decide (2047 ≤ e2 + 1023) || (decide (r = 9007199254740992) && decide (2047 ≤ e2 + 1 + 1023)), fun g w hF hd => ?_⟩
  obtain ⟨o, ho⟩ : ∃ o, (decide (2047 ≤ e2 + 1023) || (decide (r = 9007199254740992) && decide (2047 ≤ e2 + 1 + 1023))) = o := ⟨_, rfl⟩
  rw [ho]
  replace ho := Aside0.mk ho
  replace hz := Aside0.mk hz
  replace Y0 := Aside0.mk Y0
  replace X0 := Aside0.mk X0
  have aX2 := Aside0.mk X2
  have aY2 := Aside0.mk Y2
  have aY3 := Aside0.mk Y3
  have aX1 := Aside0.mk X1
  have aY1 := Aside0.mk Y1
  clear X2 Y2 Y3 X1 Y1
  have hbx : (x.nd == 0) = false := by simp only [beq_eq_false_iff_ne]; have := hx.pos; omega
  have hnx := hx.pos
  have e0 := hd.nd
  have e1 := hd.dp
  go_enter Tryz.func68, Tryz.ntmps68
  go_wp2
  refine ytf_scope_two rfl rfl ?_
  intro L hL0 hL1 hLr
  go_upto_block 0 with (fail)
  go_cut [6] (fun v6 wc => v6 = .int .i64 (X J).2 ∧ IsDec g (X J).1 wc ∧ OnlyAt g w wc)
  case first => as_aux_lemma =>
    clear hL0 hL1 hLr
    go_wp2
    go_loopg [6] J (fun kk v6 wr => ∃ j : Nat, v6 = .int .i64 (X j).2 ∧ Aside0 (kk + j = J) ∧ IsDec g (X j).1 wr ∧ OnlyAt g w wr)
    case atStart => exact ⟨0, by rw [X0.out], ⟨rfl⟩, by rw [X0.out]; exact hd, OnlyAt.refl _ _⟩
    case round =>
      clear e0 e1 hd
      obtain ⟨j, rfl, hk, hdj, hoj⟩ := hrel
      have e1 := hdj.dp
      rcases gk with _ | kk
      · have hj : j = J := by have := hk.out; omega
        subst hj
        go_wp2
        go_meet
        case rel => exact ⟨rfl, hdj, hoj⟩
      · obtain ⟨hp, hs, hR⟩ := aX2.out j (by have := hk.out; omega)
        obtain ⟨g1, g2, g3, g4, g5⟩ := aX1.out j (by have := hk.out; omega)
        obtain ⟨s0, s1⟩ := stepN_bd (X j).1.dp
        have hR' := hR g
        clear hR g1
        generalize (X j).1 = A at *
        generalize (X j).2 = E at *
        have hFj := hF.only hoj
        obtain ⟨b8, o8, hb8, p0, p1⟩ := hFj.pt
        have hlc := hFj.lc
        by_cases h9 : 9 ≤ A.dp
        · have hst : stepN A.dp = 27 := by rw [stepN, if_pos h9]
          rw [hst] at hs hR'
          replace hR' := Aside0.mk hR'
          replace hs := Aside0.mk hs
          clear hst p1
          go_wp2
          go_quiet (fail)
          go_wp2_with (first | (go_at_call 87; ((with_reducible refine (hR'.out _ (hlc.only ((OnlyAt.refl g _).drewN _)) (hdj.drewN _)).mono ?_); rintro e w' ⟨rfl, hd1, ho1⟩)))
          go_roundg kk
          case measure => omega
          case rel => exact ⟨j + 1, by rw [hs.out], ⟨by have := hk.out; omega⟩, hd1, (hoj.drewN _).trans ho1⟩
        · obtain ⟨m, hm⟩ : ∃ m : Nat, A.dp = (m : Int) := ⟨A.dp.toNat, by omega⟩
          have hst : stepN A.dp = ptN m := by rw [stepN, if_neg h9, hm]; rfl
          rw [hst] at hs hR' s0 s1
          have q1 := p1 m (by omega)
          obtain ⟨t, ht⟩ : ∃ t, ptN m = t := ⟨_, rfl⟩
          rw [ht] at hs hR' q1 s0 s1
          rw [hm] at e1 h9 hp
          replace hR' := Aside0.mk hR'
          replace hs := Aside0.mk hs
          clear hst p1 ht hm
          have h9' : (m : Int) < 9 := by omega
          go_wp2
          go_quiet (fail)
          go_wp2
          go_quiet (fail)
          go_wp2_with (first | (go_at_call 87; ((with_reducible refine (hR'.out _ (hlc.only ((OnlyAt.refl g _).drewN _)) (hdj.drewN _)).mono ?_); rintro e w' ⟨rfl, hd1, ho1⟩)))
          go_roundg kk
          case measure => omega
          case rel => exact ⟨j + 1, by rw [hs.out], ⟨by have := hk.out; omega⟩, hd1, (hoj.drewN _).trans ho1⟩
  case rest => as_aux_lemma =>
    obtain ⟨rfl, hd1, ho1⟩ := hcut
    clear e0 e1 hd
    go_upto_block 2 with (fail)
    go_cut [6] (fun v6 wc => v6 = .int .i64 (Y K).2 ∧ IsDec g (Y K).1 wc ∧ OnlyAt g w wc)
    case first => as_aux_lemma =>
      clear hL0 hL1 hLr
      go_wp2
      go_loopg [6] K (fun kk v6 wr => ∃ j : Nat, v6 = .int .i64 (Y j).2 ∧ Aside0 (kk + j = K) ∧ IsDec g (Y j).1 wr ∧ OnlyAt g w wr)
      case atStart => exact ⟨0, by rw [Y0.out], ⟨rfl⟩, by rw [Y0.out]; exact hd1, ho1⟩
      case round =>
        clear hd1 ho1
        obtain ⟨j, rfl, hk, hdj, hoj⟩ := hrel
        have e1 := hdj.dp
        have ec := hdj.d 0 (by omega)
        rcases gk with _ | kk
        · have hj : j = K := by have := hk.out; omega
          subst hj
          have hst := aY3.out
          by_cases hz0 : (Y j).1.dp = 0
          · rw [hz0] at e1
            have hc : 53 ≤ (Y j).1.c 0 := by omega
            clear hst hz0
            go_wp2
            go_meet
            case rel => exact ⟨rfl, hdj, hoj⟩
          · have hc : 0 < (Y j).1.dp := by omega
            have hb : ((Y j).1.dp == 0) = false := beq_eq_false_iff_ne.mpr hz0
            clear hst hz0
            go_wp2
            go_meet
            case rel => exact ⟨rfl, hdj, hoj⟩
        · obtain ⟨hp, hs, hR⟩ := aY2.out j (by have := hk.out; omega)
          obtain ⟨g1, g2, g3, g4, g5⟩ := aY1.out j (by have := hk.out; omega)
          obtain ⟨s0, s1⟩ := stepN_bd (-(Y j).1.dp)
          have hR' := hR g
          clear hR g1
          generalize (Y j).1 = A at *
          generalize (Y j).2 = E at *
          have hFj := hF.only hoj
          obtain ⟨b8, o8, hb8, p0, p1⟩ := hFj.pt
          have hlc := hFj.lc
          by_cases hz0 : A.dp = 0
          · have hc : A.c 0 < 53 := by omega
            have hst : stepN (-A.dp) = 1 := by rw [stepN, if_neg (by omega), hz0]; rfl
            rw [hst] at hs hR' s0 s1
            rw [hz0] at e1
            have q1 := p1 0 (by omega)
            rw [Nat.add_zero] at q1
            have q2 : ptN 0 = 1 := rfl
            rw [q2] at q1
            replace hR' := Aside0.mk hR'
            replace hs := Aside0.mk hs
            clear hst p1 q2 hp hz0 g2 g3
            go_wp2
            go_quiet (fail)
            go_wp2
            go_quiet (fail)
            go_wp2_with (first | (go_at_call 87; ((with_reducible refine (hR'.out _ (hlc.only ((OnlyAt.refl g _).drewN _)) (hdj.drewN _)).mono ?_); rintro e w' ⟨rfl, hd1, ho1⟩)))
            go_roundg kk
            case measure => omega
            case rel => exact ⟨j + 1, by rw [hs.out], ⟨by have := hk.out; omega⟩, hd1, (hoj.drewN _).trans ho1⟩
          · obtain ⟨m, hm⟩ : ∃ m : Nat, A.dp = -(m : Int) := ⟨(-A.dp).toNat, by omega⟩
            have hm1 : 1 ≤ m := by omega
            rw [hm] at e1
            by_cases h9 : 9 ≤ m
            · have hst : stepN (-A.dp) = 27 := by rw [stepN, if_pos (by omega)]
              rw [hst] at hs hR'
              have h9' : (9 : Int) ≤ m := by omega
              have hmi : (m : Int) ≤ 400 := by omega
              have hm1' : 1 ≤ (m : Int) := by omega
              replace hR' := Aside0.mk hR'
              replace hs := Aside0.mk hs
              clear hst p1 hp hz0 g2 g3 hm h9
              go_wp2
              go_quiet (fail)
              go_wp2_with (first | (go_at_call 87; ((with_reducible refine (hR'.out _ (hlc.only ((OnlyAt.refl g _).drewN _)) (hdj.drewN _)).mono ?_); rintro e w' ⟨rfl, hd1, ho1⟩)))
              go_roundg kk
              case measure => omega
              case rel => exact ⟨j + 1, by rw [hs.out], ⟨by have := hk.out; omega⟩, hd1, (hoj.drewN _).trans ho1⟩
            · have hst : stepN (-A.dp) = ptN m := by rw [stepN, if_neg (by omega), hm, Int.neg_neg]; rfl
              rw [hst] at hs hR' s0 s1
              have q1 := p1 m (by omega)
              obtain ⟨t, ht⟩ : ∃ t, ptN m = t := ⟨_, rfl⟩
              rw [ht] at hs hR' q1 s0 s1
              have h9' : (m : Int) < 9 := by omega
              have hm1' : 1 ≤ (m : Int) := by omega
              replace hR' := Aside0.mk hR'
              replace hs := Aside0.mk hs
              clear hst p1 ht hp hz0 g2 g3 hm h9
              go_wp2
              go_quiet (fail)
              go_wp2
              go_quiet (fail)
              go_wp2_with (first | (go_at_call 87; ((with_reducible refine (hR'.out _ (hlc.only ((OnlyAt.refl g _).drewN _)) (hdj.drewN _)).mono ?_); rintro e w' ⟨rfl, hd1, ho1⟩)))
              go_roundg kk
              case measure => omega
              case rel => exact ⟨j + 1, by rw [hs.out], ⟨by have := hk.out; omega⟩, hd1, (hoj.drewN _).trans ho1⟩
    case rest => as_aux_lemma =>
      clear hd1 ho1
      obtain ⟨rfl, hd2, ho2⟩ := hcut
      obtain ⟨y1, y2, y3, y4, y5⟩ := aY1.out K (Nat.le_refl _)
      have hzz := hz.out
      clear y1 y2 y3 hz aX1 aX2 aY1 aY2 aY3 X0 Y0 hx d0 d1 X3
      generalize (Y K).1 = A at *
      generalize (Y K).2 = E at *
      have hF2 := hF.only ho2
      have hlc := hF2.lc
      have i0 := hF2.i0
      have i1 := hF2.i1
      have i2 := hF2.i2
      have hand : Go.bits .and .u64 4503599627370496 4503599627370496 = 4503599627370496 := by decide
      rcases hzz with ⟨c, he2, hS⟩ | ⟨c, he2, hZ⟩
      · have hS' := hS g
        clear hS
        replace hS' := Aside0.mk hS'
        have hE : E - 1 + (-1022 - (E - 1)) = -1022 := by omega
        subst he2
        have hV' := Aside0.mk (hV g)
        have hr' := Aside0.mk (hr g)
        clear hV hr
        have ho' : false = o := by
          rw [← ho.out]; simp
        subst ho'
        by_cases hr1 : r = 9007199254740992
        · subst hr1
          go_wp2_with (first | (go_at_call 87; ((with_reducible refine (hS'.out _ hlc hd2).mono ?_); rintro e w' ⟨rfl, hd3, ho3⟩; have hF3 := hF.only (ho2.trans ho3); have i0 := hF3.i0; have i1 := hF3.i1; have i2 := hF3.i2; have hlc3 := hF3.lc)))
          go_quiet (fail)
          go_wp2_with (first | (go_at_call 87; ((with_reducible refine (hV'.out _ (hlc3.only ((OnlyAt.refl g _).drewN _)) (hd3.drewN _)).mono ?_); rintro e w' ⟨rfl, hd4, ho4⟩)) | (go_at_call 88; ((with_reducible refine (hr'.out _ hd4).mono ?_); rintro e w' ⟨rfl, m5, rfl⟩; have ho5 := (((ho2.trans ho3).drewN _).trans ho4); have hd5 := hd4; have hF5 := hF.only ho5; have j0 := hF5.i0; have j1 := hF5.i1; have j2 := hF5.i2; clear i0 i1 i2 hd4)))
          go_quiet (fail)
          go_wp2
          have en := hd5.neg
          cases hneg : V.neg
          · rw [hneg] at en
            refine wp_goto ?_
            refine hL0 _ _ ?_
            clear hL0 hL1 hLr
            go_wp2
            go_quiet (fail)
            go_wp2
            rw [Exit.noGoto_ret]
            go_ret2
            exact ⟨⟨_, rfl⟩, by repeat (first | exact ho5 | apply OnlyAt.drewN)⟩
          · rw [hneg] at en
            refine wp_goto ?_
            refine hL0 _ _ ?_
            clear hL0 hL1 hLr
            go_wp2
            go_quiet (fail)
            go_wp2
            go_quiet (fail)
            go_wp2
            rw [Exit.noGoto_ret]
            go_ret2
            exact ⟨⟨_, rfl⟩, by repeat (first | exact ho5 | apply OnlyAt.drewN)⟩
        · have hrb : (r == 9007199254740992) = false := beq_eq_false_iff_ne.mpr hr1
          clear hr1
          by_cases hb0 : Go.bits .and .u64 r 4503599627370496 = 0
          · have hb1 : (Go.bits .and .u64 r 4503599627370496 == 0) = true := beq_iff_eq.mpr hb0
            clear hb0
            go_wp2_with (first | (go_at_call 87; ((with_reducible refine (hS'.out _ hlc hd2).mono ?_); rintro e w' ⟨rfl, hd3, ho3⟩; have hF3 := hF.only (ho2.trans ho3); have i0 := hF3.i0; have i1 := hF3.i1; have i2 := hF3.i2; have hlc3 := hF3.lc)))
            go_quiet (fail)
            go_wp2_with (first | (go_at_call 87; ((with_reducible refine (hV'.out _ (hlc3.only ((OnlyAt.refl g _).drewN _)) (hd3.drewN _)).mono ?_); rintro e w' ⟨rfl, hd4, ho4⟩)) | (go_at_call 88; ((with_reducible refine (hr'.out _ hd4).mono ?_); rintro e w' ⟨rfl, m5, rfl⟩; have ho5 := (((ho2.trans ho3).drewN _).trans ho4); have hd5 := hd4; have hF5 := hF.only ho5; have j0 := hF5.i0; have j1 := hF5.i1; have j2 := hF5.i2; clear i0 i1 i2 hd4)))
            have en := hd5.neg
            cases hneg : V.neg
            · rw [hneg] at en
              refine wp_goto ?_
              refine hL0 _ _ ?_
              clear hL0 hL1 hLr
              go_wp2
              go_quiet (fail)
              go_wp2
              rw [Exit.noGoto_ret]
              go_ret2
              exact ⟨⟨_, rfl⟩, by repeat (first | exact ho5 | apply OnlyAt.drewN)⟩
            · rw [hneg] at en
              refine wp_goto ?_
              refine hL0 _ _ ?_
              clear hL0 hL1 hLr
              go_wp2
              go_quiet (fail)
              go_wp2
              go_quiet (fail)
              go_wp2
              rw [Exit.noGoto_ret]
              go_ret2
              exact ⟨⟨_, rfl⟩, by repeat (first | exact ho5 | apply OnlyAt.drewN)⟩
          · have hb1 : (Go.bits .and .u64 r 4503599627370496 == 0) = false := beq_eq_false_iff_ne.mpr hb0
            clear hb0
            go_wp2_with (first | (go_at_call 87; ((with_reducible refine (hS'.out _ hlc hd2).mono ?_); rintro e w' ⟨rfl, hd3, ho3⟩; have hF3 := hF.only (ho2.trans ho3); have i0 := hF3.i0; have i1 := hF3.i1; have i2 := hF3.i2; have hlc3 := hF3.lc)))
            go_quiet (fail)
            go_wp2_with (first | (go_at_call 87; ((with_reducible refine (hV'.out _ (hlc3.only ((OnlyAt.refl g _).drewN _)) (hd3.drewN _)).mono ?_); rintro e w' ⟨rfl, hd4, ho4⟩)) | (go_at_call 88; ((with_reducible refine (hr'.out _ hd4).mono ?_); rintro e w' ⟨rfl, m5, rfl⟩; have ho5 := (((ho2.trans ho3).drewN _).trans ho4); have hd5 := hd4; have hF5 := hF.only ho5; have j0 := hF5.i0; have j1 := hF5.i1; have j2 := hF5.i2; clear i0 i1 i2 hd4)))
            have en := hd5.neg
            cases hneg : V.neg
            · rw [hneg] at en
              refine wp_goto ?_
              refine hL0 _ _ ?_
              clear hL0 hL1 hLr
              go_wp2
              go_quiet (fail)
              go_wp2
              rw [Exit.noGoto_ret]
              go_ret2
              exact ⟨⟨_, rfl⟩, by repeat (first | exact ho5 | apply OnlyAt.drewN)⟩
            · rw [hneg] at en
              refine wp_goto ?_
              refine hL0 _ _ ?_
              clear hL0 hL1 hLr
              go_wp2
              go_quiet (fail)
              go_wp2
              go_quiet (fail)
              go_wp2
              rw [Exit.noGoto_ret]
              go_ret2
              exact ⟨⟨_, rfl⟩, by repeat (first | exact ho5 | apply OnlyAt.drewN)⟩
      · subst he2
        subst hZ
        have hE : E - 1 + 1 = E := by omega
        have hV' := Aside0.mk (hV g)
        have hr' := Aside0.mk (hr g)
        clear hV hr
        by_cases hov : 2047 ≤ E - 1 + 1023
        · have ho' : true = o := by
            rw [← ho.out]; simp [hov]
          subst ho'
          have hov' : 2047 ≤ E - 1 - -1023 := by omega
          go_wp2
          go_quiet (fail)
          go_wp2
          have en := hd2.neg
          cases hneg : Z.neg
          · rw [hneg] at en
            refine wp_goto ?_
            refine hL1 _ _ ?_
            clear hL0 hL1 hLr
            go_wp2
            go_quiet (fail)
            go_wp2
            go_step3
            go_wp2
            go_quiet (fail)
            go_wp2
            rw [Exit.noGoto_ret]
            go_ret2
            exact ⟨⟨_, rfl⟩, by repeat (first | exact ho2 | apply OnlyAt.drewN)⟩
          · rw [hneg] at en
            refine wp_goto ?_
            refine hL1 _ _ ?_
            clear hL0 hL1 hLr
            go_wp2
            go_quiet (fail)
            go_wp2
            go_step3
            go_wp2
            go_quiet (fail)
            go_wp2
            go_quiet (fail)
            go_wp2
            rw [Exit.noGoto_ret]
            go_ret2
            exact ⟨⟨_, rfl⟩, by repeat (first | exact ho2 | apply OnlyAt.drewN)⟩
        · by_cases hr1 : r = 9007199254740992
          · subst hr1
            by_cases hov2 : 2047 ≤ E + 1023
            · have ho' : true = o := by
                rw [← ho.out]; simp; omega
              subst ho'
              go_wp2
              go_quiet (fail)
              go_wp2_with (first | (go_at_call 87; ((with_reducible refine (hV'.out _ (hlc.only ((OnlyAt.refl g _).drewN _)) (hd2.drewN _)).mono ?_); rintro e w' ⟨rfl, hd4, ho4⟩)) | (go_at_call 88; ((with_reducible refine (hr'.out _ hd4).mono ?_); rintro e w' ⟨rfl, m5, rfl⟩; have ho5 := ((ho2.drewN _).trans ho4); have hd5 := hd4; have hF5 := hF.only ho5; have j0 := hF5.i0; have j1 := hF5.i1; have j2 := hF5.i2; clear i0 i1 i2 hd4)))
              go_quiet (fail)
              go_wp2
              have en := hd5.neg
              cases hneg : V.neg
              · rw [hneg] at en
                refine wp_goto ?_
                refine hL1 _ _ ?_
                clear hL0 hL1 hLr
                go_wp2
                go_quiet (fail)
                go_wp2
                go_step3
                go_wp2
                go_quiet (fail)
                go_wp2
                rw [Exit.noGoto_ret]
                go_ret2
                exact ⟨⟨_, rfl⟩, by repeat (first | exact ho5 | apply OnlyAt.drewN)⟩
              · rw [hneg] at en
                refine wp_goto ?_
                refine hL1 _ _ ?_
                clear hL0 hL1 hLr
                go_wp2
                go_quiet (fail)
                go_wp2
                go_step3
                go_wp2
                go_quiet (fail)
                go_wp2
                go_quiet (fail)
                go_wp2
                rw [Exit.noGoto_ret]
                go_ret2
                exact ⟨⟨_, rfl⟩, by repeat (first | exact ho5 | apply OnlyAt.drewN)⟩
            · have ho' : false = o := by
                rw [← ho.out]; simp; omega
              subst ho'
              go_wp2
              go_quiet (fail)
              go_wp2_with (first | (go_at_call 87; ((with_reducible refine (hV'.out _ (hlc.only ((OnlyAt.refl g _).drewN _)) (hd2.drewN _)).mono ?_); rintro e w' ⟨rfl, hd4, ho4⟩)) | (go_at_call 88; ((with_reducible refine (hr'.out _ hd4).mono ?_); rintro e w' ⟨rfl, m5, rfl⟩; have ho5 := ((ho2.drewN _).trans ho4); have hd5 := hd4; have hF5 := hF.only ho5; have j0 := hF5.i0; have j1 := hF5.i1; have j2 := hF5.i2; clear i0 i1 i2 hd4)))
              go_quiet (fail)
              go_wp2
              have en := hd5.neg
              cases hneg : V.neg
              · rw [hneg] at en
                refine wp_goto ?_
                refine hL0 _ _ ?_
                clear hL0 hL1 hLr
                go_wp2
                go_quiet (fail)
                go_wp2
                rw [Exit.noGoto_ret]
                go_ret2
                exact ⟨⟨_, rfl⟩, by repeat (first | exact ho5 | apply OnlyAt.drewN)⟩
              · rw [hneg] at en
                refine wp_goto ?_
                refine hL0 _ _ ?_
                clear hL0 hL1 hLr
                go_wp2
                go_quiet (fail)
                go_wp2
                go_quiet (fail)
                go_wp2
                rw [Exit.noGoto_ret]
                go_ret2
                exact ⟨⟨_, rfl⟩, by repeat (first | exact ho5 | apply OnlyAt.drewN)⟩
          · have ho' : false = o := by
              rw [← ho.out]; simp [hr1]; omega
            subst ho'
            have hrb : (r == 9007199254740992) = false := beq_eq_false_iff_ne.mpr hr1
            clear hr1
            by_cases hb0 : Go.bits .and .u64 r 4503599627370496 = 0
            · have hb1 : (Go.bits .and .u64 r 4503599627370496 == 0) = true := beq_iff_eq.mpr hb0
              clear hb0
              go_wp2
              go_quiet (fail)
              go_wp2_with (first | (go_at_call 87; ((with_reducible refine (hV'.out _ (hlc.only ((OnlyAt.refl g _).drewN _)) (hd2.drewN _)).mono ?_); rintro e w' ⟨rfl, hd4, ho4⟩)) | (go_at_call 88; ((with_reducible refine (hr'.out _ hd4).mono ?_); rintro e w' ⟨rfl, m5, rfl⟩; have ho5 := ((ho2.drewN _).trans ho4); have hd5 := hd4; have hF5 := hF.only ho5; have j0 := hF5.i0; have j1 := hF5.i1; have j2 := hF5.i2; clear i0 i1 i2 hd4)))
              have en := hd5.neg
              cases hneg : V.neg
              · rw [hneg] at en
                refine wp_goto ?_
                refine hL0 _ _ ?_
                clear hL0 hL1 hLr
                go_wp2
                go_quiet (fail)
                go_wp2
                rw [Exit.noGoto_ret]
                go_ret2
                exact ⟨⟨_, rfl⟩, by repeat (first | exact ho5 | apply OnlyAt.drewN)⟩
              · rw [hneg] at en
                refine wp_goto ?_
                refine hL0 _ _ ?_
                clear hL0 hL1 hLr
                go_wp2
                go_quiet (fail)
                go_wp2
                go_quiet (fail)
                go_wp2
                rw [Exit.noGoto_ret]
                go_ret2
                exact ⟨⟨_, rfl⟩, by repeat (first | exact ho5 | apply OnlyAt.drewN)⟩
            · have hb1 : (Go.bits .and .u64 r 4503599627370496 == 0) = false := beq_eq_false_iff_ne.mpr hb0
              clear hb0
              go_wp2
              go_quiet (fail)
              go_wp2_with (first | (go_at_call 87; ((with_reducible refine (hV'.out _ (hlc.only ((OnlyAt.refl g _).drewN _)) (hd2.drewN _)).mono ?_); rintro e w' ⟨rfl, hd4, ho4⟩)) | (go_at_call 88; ((with_reducible refine (hr'.out _ hd4).mono ?_); rintro e w' ⟨rfl, m5, rfl⟩; have ho5 := ((ho2.drewN _).trans ho4); have hd5 := hd4; have hF5 := hF.only ho5; have j0 := hF5.i0; have j1 := hF5.i1; have j2 := hF5.i2; clear i0 i1 i2 hd4)))
              have en := hd5.neg
              cases hneg : V.neg
              · rw [hneg] at en
                refine wp_goto ?_
                refine hL0 _ _ ?_
                clear hL0 hL1 hLr
                go_wp2
                go_quiet (fail)
                go_wp2
                rw [Exit.noGoto_ret]
                go_ret2
                exact ⟨⟨_, rfl⟩, by repeat (first | exact ho5 | apply OnlyAt.drewN)⟩
              · rw [hneg] at en
                refine wp_goto ?_
                refine hL0 _ _ ?_
                clear hL0 hL1 hLr
                go_wp2
                go_quiet (fail)
                go_wp2
                go_quiet (fail)
                go_wp2
                rw [Exit.noGoto_ret]
                go_ret2
                exact ⟨⟨_, rfl⟩, by repeat (first | exact ho5 | apply OnlyAt.drewN)⟩

/-- floatBits: whether it overflows hangs on the digits alone. -/
theorem floatBits_any (x : D) (hx : x.nd = 0 ∨ x.Good) : ∃ o : Bool, ∀ (g : Nat) (w : World), FB g w → IsDec g x w →
    Calls Tryz.prog 68 #[.pointer (some ⟨g, 0, none⟩), .pointer (some ⟨6, 0, none⟩)] w fun en w' => (∃ b : Int, en = .returned (.tuple #[.int .u64 b, .bool o])) ∧ OnlyAt g w w' := by
  rcases hx with hx | hx
  · exact fb_zero x hx
  by_cases d1 : x.dp ≤ 310
  · by_cases d0 : -330 ≤ x.dp
    · obtain ⟨J, X, X0, X1, X2, X3⟩ := loop1_any x hx d0 d1
      obtain ⟨g1, g2, g3, g4, g5⟩ := X1 J (Nat.le_refl _)
      obtain ⟨K, Y, Y0, Y1, Y2, Y3⟩ := loop2_any (X J).1 (X J).2 g1 g2 X3 g4 g5
      obtain ⟨k1, k2, k3, k4, k5⟩ := Y1 K (Nat.le_refl _)
      obtain ⟨Z, e2, e20, e21, hZ, z0, z1, hz⟩ : ∃ (Z : D) (e2 : Int), -1022 ≤ e2 ∧ e2 ≤ 300000 ∧ Z.Good ∧ -300000 ≤ Z.dp ∧ Z.dp ≤ 400 ∧
          ((Y K).2 - 1 < -1022 ∧ e2 = -1022 ∧ Shifts (Y K).1 Z (-(-1022 - ((Y K).2 - 1))) ∨ -1022 ≤ (Y K).2 - 1 ∧ e2 = (Y K).2 - 1 ∧ Z = (Y K).1) := by
        by_cases c : (Y K).2 - 1 < -1022
        · obtain ⟨y, hy, y1, y2, H⟩ := shiftR_many (Y K).1 k1 (-1022 - ((Y K).2 - 1)).toNat (by omega) (by omega) (by omega) (by omega)
          rw [Int.toNat_of_nonneg (by omega)] at H
          exact ⟨y, -1022, by omega, by omega, hy, by omega, by omega, .inl ⟨c, rfl, fun g w _ hd => H g w hd⟩⟩
        · exact ⟨(Y K).1, (Y K).2 - 1, by omega, by omega, k1, by omega, by omega, .inr ⟨by omega, rfl, rfl⟩⟩
      obtain ⟨V, hV, v1, v2, _, H⟩ := shiftL_any Z hZ 53 (by omega) (by omega) (by omega) (by omega)
      obtain ⟨r, hr⟩ := roundedInteger_any V hV.ok (by omega) (by omega)
      exact fb_walk x hx d0 d1 J X X0 X1 X2 X3 K Y Y0 Y1 Y2 Y3 Z e2 e20 e21 hz V H r hr
    · exact fb_small x hx.pos (by omega)
  · exact fb_big x hx.pos (by omega)
end Go.Proofs.YtfkpbkjokapijaaGreatFmt.PQ
