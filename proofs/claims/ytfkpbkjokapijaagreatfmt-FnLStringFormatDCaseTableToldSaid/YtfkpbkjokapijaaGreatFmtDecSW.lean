/- The slow road's number is read off the text: the walk. -/
import Derived.Test.YtfkpbkjokapijaaGreatFmtDecSet
namespace Go.Proofs.YtfkpbkjokapijaaGreatFmt.PQ
open Go.RowKit Go.Proofs.YtfkpbkjokapijaaGreatFmtW.PrintWords
set_option linter.unusedVariables false
set_option linter.unusedSimpArgs false

theorem lower_any (b : Int) (w : World) : Calls Tryz.prog 50 #[.int .u8 b] w fun e w' => e = .returned (.int .u8 (Go.bits .or .u8 b 32)) ∧ w' = w := by
  go_enter Tryz.func50, Tryz.ntmps50
  go_wp2
  go_ret
  exact ⟨rfl, rfl⟩
theorem eb_le (s : ByteArray) : ∀ f i e, i + f ≤ s.size → (eb s f i e).1 ≤ s.size
  | 0, i, e, h => h
  | f + 1, i, e, h => by
    rw [eb]
    split
    · split
      · split
        · exact eb_le s f _ _ (by omega)
        · exact eb_le s f _ _ (by omega)
      · split
        · exact eb_le s f _ _ (by omega)
        · show i ≤ s.size; omega
    · show i ≤ s.size; omega
theorem IsDec.drew {g : Nat} {x : D} {w : World} (h : IsDec g x w) : IsDec g x w.drew := ⟨h.blk⟩
theorem OnlyAt.drew {g : Nat} {w w1 : World} (h : OnlyAt g w w1) : OnlyAt g w w1.drew := ⟨h.os, h.tape, h.output, h.size, h.block⟩

set_option maxHeartbeats 8000000 in
set_option maxRecDepth 100000 in
theorem set_walk (s : ByteArray) (hs : s.size ≤ 1000000) (hs0 : 0 < s.size) (c : Nat → Int) (i0 : Nat) (neg : Bool) (hi0 : i0 ≤ 1) (hsign : bt s 0 = 43 ∧ i0 = 1 ∧ neg = false ∨ bt s 0 = 45 ∧ i0 = 1 ∧ neg = true ∨ bt s 0 ≠ 43 ∧ bt s 0 ≠ 45 ∧ i0 = 0 ∧ neg = false)
    (t : ST) (hsa : sa s (s.size - i0) ⟨i0, 0, c, 0, false, false, false⟩ = .go t) (hinv : t.Inv ∧ t.i ≤ s.size) (ok : Bool) (y : D) (h2 : st2 s neg t = (ok, y)) (n0 : Bool) (t0 : Bool) (g : Nat) (w : World) (hd : IsDec g ⟨c, 0, 0, n0, t0⟩ w) :
    Calls Tryz.prog 67 #[.pointer (some ⟨g, 0, none⟩), .string s] w fun en w' => en = .returned (.bool ok) ∧ IsDec g y w' ∧ OnlyAt g w w' := by
  have hsz : (0 : Int) < s.size := by omega
  have hse : (s = ByteArray.empty) = False := eq_false (fun e => by subst e; exact absurd hs0 (by decide))
  have en := hd.neg
  have et := hd.tr
  have fz := hd.frozen
  simp only at en et
  replace hsa := Aside0.mk hsa
  replace h2 := Aside0.mk h2
  replace hinv := Aside0.mk hinv
  replace hsign := Aside0.mk hsign
  have hx0 : ∀ h : 0 < s.size, ((s[0]'h).toNat : Int) = bt s 0 := fun h => bt_at s (0 : Int) h
  go_enter Tryz.func67, Tryz.ntmps67
  go_upto_block 0 with (fail)
  go_cut [5] (fun v5 wc => v5 = .int .i64 i0 ∧ IsDec g ⟨c, 0, 0, neg, false⟩ wc ∧ OnlyAt g w wc)
  case first => as_aux_lemma =>
    rcases hsign.out with ⟨h1, rfl, rfl⟩ | ⟨h1, rfl, rfl⟩ | ⟨h1, h3, rfl, rfl⟩
    · have hb : (bt s 0 == 43) = true := beq_iff_eq.mpr h1
      clear h1
      go_wp2
      go_meet
      case rel => exact ⟨rfl, (hd.set_neg false).set_tr false, ((OnlyAt.refl g w).set _ _).set _ _⟩
    · have hb : (bt s 0 == 43) = false := by rw [h1]; rfl
      have hb2 : (bt s 0 == 45) = true := beq_iff_eq.mpr h1
      clear h1
      go_wp2
      go_meet
      case rel => exact ⟨rfl, ((hd.set_neg false).set_tr false).set_neg true, (((OnlyAt.refl g w).set _ _).set _ _).set _ _⟩
    · have hb : (bt s 0 == 43) = false := beq_eq_false_iff_ne.mpr h1
      have hb2 : (bt s 0 == 45) = false := beq_eq_false_iff_ne.mpr h3
      clear h1 h3
      go_wp2
      go_meet
      case rel => exact ⟨rfl, (hd.set_neg false).set_tr false, ((OnlyAt.refl g w).set _ _).set _ _⟩
  case rest => as_aux_lemma =>
    clear hx0 en et fz hd
    obtain ⟨rfl, hd1, ho1⟩ := hcut
    go_upto_block 1 with (fail)
    go_cut [5, 6, 7] (fun v5 v6 v7 wc => v5 = .int .i64 t.i ∧ v6 = .bool t.dot ∧ v7 = .bool t.digs ∧ IsDec g (t.D neg) wc ∧ OnlyAt g w wc)
    case first => as_aux_lemma =>
      go_wp2
      go_loopg [5, 6, 7] (s.size - i0) (fun kk v5 v6 v7 wr => ∃ u : ST, v5 = .int .i64 u.i ∧ v6 = .bool u.dot ∧ v7 = .bool u.digs ∧ Aside0 (kk + u.i = s.size) ∧ Aside0 (sa s kk u = .go t) ∧ Aside0 u.Inv ∧ IsDec g (u.D neg) wr ∧ OnlyAt g w wr)
      case atStart => exact ⟨⟨i0, 0, c, 0, false, false, false⟩, rfl, rfl, rfl, ⟨by show s.size - i0 + i0 = _; omega⟩, hsa, ⟨⟨by show 0 ≤ 800; omega, fun j hj => absurd hj (by show ¬ j < 0; omega), fun h => absurd h (by show ¬ 0 < 0; omega), by show -(i0 : Int) ≤ 0; omega, by show (0 : Int) ≤ 800; omega⟩⟩, hd1, ho1⟩
      case round =>
        clear hd1 ho1
        obtain ⟨u, rfl, rfl, rfl, hk, hst, hI, hdj, hoj⟩ := hrel
        rcases gk with _ | kk
        · have hi : u.i = s.size := by have := hk.out; omega
          have H := hst.out
          simp only [sa, SR.go.injEq] at H
          subst H
          have hi' : (u.i : Int) = s.size := by omega
          go_wp2
          go_meet
          case rel => exact ⟨rfl, rfl, rfl, hdj, hoj⟩
        · have hi : u.i < s.size := by have := hk.out; omega
          have hi' : (u.i : Int) < s.size := by omega
          have hx : ∀ h : u.i < s.size, ((s[u.i]'h).toNat : Int) = bt s u.i := fun h => bt_at s (u.i : Int) h
          have H := hst.out
          have I := hI.out
          have hbd := bt_range s u.i
          rw [sa] at H
          obtain ⟨i, n, cc, dp, tr, dot, digs⟩ := u
          obtain ⟨n8, Id, If, Id0, Id1⟩ := id I
          simp only [ST.D] at *
          obtain ⟨b, hb⟩ : ∃ b, bt s i = b := ⟨_, rfl⟩
          rw [hb] at H hx hbd
          have e0 := hdj.nd
          have e1 := hdj.dp
          have et := hdj.tr
          have fz := hdj.frozen
          simp only at e0 e1 et
          clear hb
          by_cases b95 : b = 95
          · rw [if_pos b95] at H
            have H' := Aside0.mk H
            subst b95
            clear H
            go_wp2
            go_roundg kk
            case measure => omega
            case rel => exact ⟨⟨i + 1, n, cc, dp, tr, dot, digs⟩, by (first | rfl | (congr 1; done) | (simp; done)), rfl, rfl, ⟨by show kk + (i + 1) = _; have := hk.out; omega⟩, H', ⟨I.skip⟩, hdj, hoj⟩
          · rw [if_neg b95] at H
            have b95' : (b == 95) = false := beq_eq_false_iff_ne.mpr b95
            by_cases b46 : b = 46
            · rw [if_pos b46] at H
              subst b46
              cases dot
              · rw [if_neg (by decide)] at H
                have H' := Aside0.mk H
                clear H
                go_wp2
                go_roundg kk
                case measure => omega
                case rel => exact ⟨⟨i + 1, n, cc, n, tr, true, digs⟩, by (first | rfl | (congr 1; done) | (simp; done)), rfl, rfl, ⟨by show kk + (i + 1) = _; have := hk.out; omega⟩, H', ⟨I.point⟩, hdj.set_dp n, hoj.set _ _⟩
              · rw [if_pos rfl] at H
                cases H
            · rw [if_neg b46] at H
              have b46' : (b == 46) = false := beq_eq_false_iff_ne.mpr b46
              replace b95 := Aside0.mk b95
              replace b46 := Aside0.mk b46
              by_cases b48 : 48 ≤ b
              · rw [if_pos b48] at H
                by_cases b57 : b ≤ 57
                · rw [if_pos b57] at H
                  have DI := I.digit b b48 b57
                  simp only [ST.dig] at H DI
                  by_cases bz : b = 48
                  · rw [if_pos bz] at H DI
                    by_cases nz : n = 0
                    · rw [if_pos nz] at H DI
                      have H' := Aside0.mk H
                      subst bz
                      clear H
                      rw [nz] at e0
                      simp only [Int.natCast_zero] at e0
                      replace nz := Aside0.mk nz
                      go_wp2
                      go_roundg kk
                      case measure => omega
                      case rel => exact ⟨⟨i + 1, n, cc, dp - 1, tr, dot, true⟩, by (first | rfl | (congr 1; done) | (simp; done)), rfl, rfl, ⟨by show kk + (i + 1) = _; have := hk.out; omega⟩, H', ⟨DI⟩, hdj.set_dp (dp - 1), hoj.set _ _⟩
                    · rw [if_neg nz] at H DI
                      have nz' : ((n : Int) == 0) = false := by simp only [beq_eq_false_iff_ne]; omega
                      by_cases n8' : n < 800
                      · rw [if_pos n8'] at H DI
                        have H' := Aside0.mk H
                        subst bz
                        clear H
                        have n8i : (n : Int) < 800 := by omega
                        have ew := hdj.d n n8'
                        simp only at ew
                        replace nz := Aside0.mk nz
                        go_wp2
                        go_region
                        go_wp2
                        go_roundg kk
                        case measure => omega
                        case rel => exact ⟨⟨i + 1, n + 1, upd cc n 48, dp, tr, dot, true⟩, by (first | rfl | (congr 1; done) | (simp; done)), rfl, rfl, ⟨by show kk + (i + 1) = _; have := hk.out; omega⟩, H', ⟨DI⟩, (by have h := ((hdj.set_d n n8' 48).set_nd ((n : Int) + 1)).drew; have e : ((n : Int) + 1) = ((n + 1 : Nat) : Int) := (by simp); show IsDec g ⟨upd cc n 48, ((n + 1 : Nat) : Int), dp, neg, tr⟩ _; rw [← e]; exact h), ((hoj.set _ _).set _ _).drew⟩
                      · rw [if_neg n8'] at H DI
                        have H' := Aside0.mk H
                        subst bz
                        clear H
                        have n8i : 800 ≤ (n : Int) := by omega
                        clear n8'
                        replace nz := Aside0.mk nz
                        go_wp2
                        go_roundg kk
                        case measure => omega
                        case rel => exact ⟨⟨i + 1, n, cc, dp, tr, dot, true⟩, by (first | rfl | (congr 1; done) | (simp; done)), rfl, rfl, ⟨by show kk + (i + 1) = _; have := hk.out; omega⟩, H', ⟨DI⟩, hdj, hoj⟩
                  · rw [if_neg bz] at H DI
                    have bz' : (b == 48) = false := beq_eq_false_iff_ne.mpr bz
                    have bz2 : (b != 48) = true := bne_iff_ne.mpr bz
                    replace bz := Aside0.mk bz
                    by_cases n8' : n < 800
                    · rw [if_pos n8'] at H DI
                      have H' := Aside0.mk H
                      clear H
                      have n8i : (n : Int) < 800 := by omega
                      have ew := hdj.d n n8'
                      simp only at ew
                      go_wp2
                      go_region
                      go_wp2
                      go_roundg kk
                      case measure => omega
                      case rel => exact ⟨⟨i + 1, n + 1, upd cc n b, dp, tr, dot, true⟩, by (first | rfl | (congr 1; done) | (simp; done)), rfl, rfl, ⟨by show kk + (i + 1) = _; have := hk.out; omega⟩, H', ⟨DI⟩, (by have h := ((hdj.set_d n n8' b).set_nd ((n : Int) + 1)).drew; have e : ((n : Int) + 1) = ((n + 1 : Nat) : Int) := (by simp); show IsDec g ⟨upd cc n b, ((n + 1 : Nat) : Int), dp, neg, tr⟩ _; rw [← e]; exact h), ((hoj.set _ _).set _ _).drew⟩
                    · rw [if_neg n8'] at H DI
                      have H' := Aside0.mk H
                      clear H
                      have n8i : 800 ≤ (n : Int) := by omega
                      clear n8'
                      go_wp2
                      go_roundg kk
                      case measure => omega
                      case rel => exact ⟨⟨i + 1, n, cc, dp, true, dot, true⟩, by (first | rfl | (congr 1; done) | (simp; done)), rfl, rfl, ⟨by show kk + (i + 1) = _; have := hk.out; omega⟩, H', ⟨DI⟩, hdj.set_tr true, hoj.set _ _⟩
                · rw [if_neg b57] at H
                  simp only [SR.go.injEq] at H
                  subst H
                  go_wp2
                  go_meet
                  case rel => exact ⟨rfl, rfl, rfl, hdj, hoj⟩
              · rw [if_neg b48] at H
                simp only [SR.go.injEq] at H
                subst H
                go_wp2
                go_meet
                case rel => exact ⟨rfl, rfl, rfl, hdj, hoj⟩
    case rest => as_aux_lemma =>
      clear hd1 ho1
      obtain ⟨rfl, rfl, rfl, hd2, ho2⟩ := hcut
      have e0 := hd2.nd
      have e1 := hd2.dp
      have fz := hd2.frozen
      have H := h2.out
      have hI := hinv.out
      rw [st2] at H
      obtain ⟨i, n, cc, dp, tr, dot, digs⟩ := t
      simp only [ST.D, ST.D1] at *
      have hile := hI.2
      have hdb := hI.1.d0
      have hdb1 := hI.1.d1
      have hn8 := hI.1.n8
      simp only at hile hdb hdb1 hn8
      have hil : (i : Int) ≤ s.size := by omega
      clear h2 hI hinv hsa
      cases digs
      · rw [if_pos rfl] at H
        simp only [Prod.mk.injEq] at H
        obtain ⟨rfl, rfl⟩ := H
        go_wp2
        go_ret
        exact ⟨rfl, hd2, ho2⟩
      · rw [if_neg (by decide)] at H
        cases dot
        · obtain ⟨dp1, hdp1⟩ : ∃ z, z = (n : Int) := ⟨_, rfl⟩
          have hdp0 : (if false = true then dp else (n : Int)) = dp1 := by rw [hdp1]; rfl
          rw [hdp0] at H
          have hdq0 : -2000000 ≤ dp1 := by omega
          have hdq1 : dp1 ≤ 2000000 := by omega
          have e0' : wc.cell? ⟨g, 800, none⟩ = some (.int .i64 dp1) := by rw [e0, hdp1]
          clear e0 hdp1
          have hdT := (hd2.set_dp dp1)
          have hoT := (ho2.set 801 (.int .i64 dp1))
          clear hd2 ho2
          by_cases hi : s.size ≤ i
          · rw [if_pos hi] at H
            have hie : (i : Int) = s.size := by omega
            have hie2 : i = s.size := by omega
            rw [decide_eq_true hie2] at H
            simp only [Prod.mk.injEq] at H
            obtain ⟨rfl, rfl⟩ := H
            subst hie2
            clear hi hie
            go_wp2
            go_ret
            exact ⟨rfl, hdT, hoT⟩
          · rw [if_neg hi] at H
            have hi1 : (i : Int) < s.size := by omega
            have hi2 : i < s.size := by omega
            have hine : ((i : Int) != s.size) = true := by simp only [bne_iff_ne, ne_eq]; omega
            have hine2 : ((i : Int) == s.size) = false := by simp only [beq_eq_false_iff_ne, ne_eq]; omega
            have hx : ∀ h : i < s.size, ((s[i]'h).toNat : Int) = bt s i := fun h => bt_at s (i : Int) h
            by_cases h101 : Go.bits .or .u8 (bt s i) 32 = 101
            · rw [if_pos h101] at H
              have h101' : (Go.bits .or .u8 (bt s i) 32 == 101) = true := beq_iff_eq.mpr h101
              clear h101
              by_cases hj : s.size ≤ i + 1
              · rw [if_pos hj] at H
                simp only [Prod.mk.injEq] at H
                obtain ⟨rfl, rfl⟩ := H
                have hj1 : (s.size : Int) ≤ i + 1 := by omega
                clear hj hi
                go_wp2_with (first | (go_at_call 50; ((with_reducible refine (lower_any _ _).mono ?_); rintro e w' ⟨rfl, rfl⟩)))
                go_ret
                exact ⟨rfl, hdT, hoT⟩
              · rw [if_neg hj] at H
                have hj1 : (i : Int) + 1 < s.size := by omega
                have hj2 : i + 1 < s.size := by omega
                have hx1 : ∀ h : i + 1 < s.size, ((s[i + 1]'h).toNat : Int) = bt s (i + 1 : Nat) := fun h => bt_at s ((i + 1 : Nat) : Int) h
                obtain ⟨b1, hb1⟩ : ∃ b, bt s (i + 1 : Nat) = b := ⟨_, rfl⟩
                rw [hb1] at H hx1
                clear hb1
                obtain ⟨i2, sg, hcase, H3⟩ : ∃ (i2 : Nat) (sg : Int), (b1 = 43 ∧ i2 = i + 2 ∧ sg = 1 ∨ b1 = 45 ∧ i2 = i + 2 ∧ sg = -1 ∨ b1 ≠ 43 ∧ b1 ≠ 45 ∧ i2 = i + 1 ∧ sg = 1) ∧ st3 s neg ⟨i, n, cc, dp, tr, false, true⟩ i2 sg = (ok, y) := by
                  by_cases c43 : b1 = 43
                  · rw [if_pos c43] at H; exact ⟨_, _, .inl ⟨c43, rfl, rfl⟩, H⟩
                  · rw [if_neg c43] at H
                    by_cases c45 : b1 = 45
                    · rw [if_pos c45] at H; exact ⟨_, _, .inr (.inl ⟨c45, rfl, rfl⟩), H⟩
                    · rw [if_neg c45] at H; exact ⟨_, _, .inr (.inr ⟨c43, c45, rfl, rfl⟩), H⟩
                clear H
                replace H3 := Aside0.mk H3
                replace hcase := Aside0.mk hcase
                clear hj hi
                go_upto_block 4 with (first | (go_at_call 50; ((with_reducible refine (lower_any _ _).mono ?_); rintro e w' ⟨rfl, rfl⟩)))
                go_cut [5, 8] (fun v5 v8 wc => v5 = .int .i64 i2 ∧ v8 = .int .i64 sg ∧ IsDec g ⟨cc, n, dp1, neg, tr⟩ wc ∧ OnlyAt g w wc)
                case first => as_aux_lemma =>
                  rcases hcase.out with ⟨h1, rfl, rfl⟩ | ⟨h1, rfl, rfl⟩ | ⟨h1, h3, rfl, rfl⟩
                  · subst h1
                    go_wp2
                    go_meet
                    case rel => exact ⟨by first | rfl | (congr 1; done) | (congr 1; omega), rfl, hdT, hoT⟩
                  · subst h1
                    go_wp2
                    go_meet
                    case rel => exact ⟨by first | rfl | (congr 1; done) | (congr 1; omega), rfl, hdT, hoT⟩
                  · have hb : (b1 == 43) = false := beq_eq_false_iff_ne.mpr h1
                    have hb2 : (b1 == 45) = false := beq_eq_false_iff_ne.mpr h3
                    clear h1 h3
                    go_wp2
                    go_meet
                    case rel => exact ⟨by first | rfl | (congr 1; done) | (congr 1; omega), rfl, hdT, hoT⟩
                case rest => as_aux_lemma =>
                  obtain ⟨rfl, rfl, hd5, ho5⟩ := hcut
                  have hi2b : i2 ≤ s.size + 1 ∧ (sg = 1 ∨ sg = -1) := by have := hcase.out; omega
                  obtain ⟨hi2a, hsg⟩ := hi2b
                  clear hdT hoT hx hx1 hj1 hj2 hi1 hi2 hine hine2 h101' hcase e1 fz
                  have H := H3.out
                  clear H3
                  rw [st3] at H
                  simp only [ST.D1] at H
                  try rw [hdp0] at H
                  by_cases hk : s.size ≤ i2
                  · rw [if_pos hk] at H
                    simp only [Prod.mk.injEq] at H
                    obtain ⟨rfl, rfl⟩ := H
                    have hk1 : (s.size : Int) ≤ i2 := by omega
                    clear hk
                    go_wp2
                    go_ret
                    exact ⟨rfl, hd5, ho5⟩
                  · rw [if_neg hk] at H
                    have hk1 : (i2 : Int) < s.size := by omega
                    have hk2 : i2 < s.size := by omega
                    have hx2 : ∀ h : i2 < s.size, ((s[i2]'h).toNat : Int) = bt s i2 := fun h => bt_at s (i2 : Int) h
                    clear hk
                    by_cases h48 : bt s i2 < 48
                    · rw [if_pos h48] at H
                      simp only [Prod.mk.injEq] at H
                      obtain ⟨rfl, rfl⟩ := H
                      go_wp2
                      go_ret
                      exact ⟨rfl, hd5, ho5⟩
                    · rw [if_neg h48] at H
                      have h48' : 48 ≤ bt s i2 := by omega
                      by_cases h57 : 57 < bt s i2
                      · rw [if_pos h57] at H
                        simp only [Prod.mk.injEq] at H
                        obtain ⟨rfl, rfl⟩ := H
                        go_wp2
                        go_ret
                        exact ⟨rfl, hd5, ho5⟩
                      · rw [if_neg h57] at H
                        have h57' : bt s i2 ≤ 57 := by omega
                        have hk3 : (s.size ≤ i2) = False := eq_false (by omega)
                        have h48f : (bt s i2 < 48) = False := eq_false (by omega)
                        have h57f : (57 < bt s i2) = False := eq_false (by omega)
                        have hbe := eb_bd s (s.size - i2) i2 0 (by omega) (by omega)
                        have hbi := eb_le s (s.size - i2) i2 0 (by omega)
                        obtain ⟨i3, e3, he3⟩ : ∃ i3 e3, eb s (s.size - i2) i2 0 = (i3, e3) := ⟨_, _, rfl⟩
                        rw [he3] at H hbe hbi
                        obtain ⟨hb0, hb1⟩ := hbe
                        simp only at hb0 hb1 hbi H
                        replace he3 := Aside0.mk he3
                        clear h48 h57
                        replace H := Aside0.mk H
                        go_upto_block 5 with (fail)
                        go_cut [5, 9] (fun v5 v9 wc => v5 = .int .i64 i3 ∧ v9 = .int .i64 e3 ∧ IsDec g ⟨cc, n, dp1, neg, tr⟩ wc ∧ OnlyAt g w wc)
                        case first => as_aux_lemma =>
                          go_wp2
                          go_loopg [5, 9] (s.size - i2) (fun kk v5 v9 wr => ∃ (j : Nat) (e : Int), v5 = .int .i64 j ∧ v9 = .int .i64 e ∧ Aside0 (kk + j = s.size) ∧ 0 ≤ e ∧ e ≤ 100000 ∧ Aside0 (eb s kk j e = (i3, e3)) ∧ IsDec g ⟨cc, n, dp1, neg, tr⟩ wr ∧ OnlyAt g w wr)
                          case atStart => exact ⟨i2, 0, rfl, rfl, ⟨by omega⟩, by omega, by omega, he3, hd5, ho5⟩
                          case round =>
                            clear hd5 ho5 he3
                            obtain ⟨j, e, rfl, rfl, hk, q0, q1, he, hdj, hoj⟩ := hrel
                            rcases gk with _ | kk
                            · have hje : j = s.size := by have := hk.out; omega
                              have HE := he.out
                              simp only [eb, Prod.mk.injEq] at HE
                              obtain ⟨rfl, rfl⟩ := HE
                              have hje' : (j : Int) = s.size := by omega
                              go_wp2
                              go_meet
                              case rel => exact ⟨rfl, rfl, hdj, hoj⟩
                            · have hj : j < s.size := by have := hk.out; omega
                              have hj' : (j : Int) < s.size := by omega
                              have hxj : ∀ h : j < s.size, ((s[j]'h).toNat : Int) = bt s j := fun h => bt_at s (j : Int) h
                              have HE := he.out
                              have hbd := bt_range s j
                              rw [eb] at HE
                              obtain ⟨b, hb⟩ : ∃ b, bt s j = b := ⟨_, rfl⟩
                              rw [hb] at HE hxj hbd
                              clear hb he
                              by_cases c48 : 48 ≤ b
                              · rw [if_pos c48] at HE
                                by_cases c57 : b ≤ 57
                                · rw [if_pos c57] at HE
                                  have c95 : (b == 95) = false := by simp only [beq_eq_false_iff_ne, ne_eq]; omega
                                  by_cases cE : e < 10000
                                  · rw [if_pos cE] at HE
                                    have HE' := Aside0.mk HE
                                    clear HE
                                    go_wp2
                                    go_roundg kk
                                    case measure => omega
                                    case rel => exact ⟨j + 1, _, by simp, rfl, ⟨by have := hk.out; omega⟩, by omega, by omega, HE', hdj, hoj⟩
                                  · rw [if_neg cE] at HE
                                    have HE' := Aside0.mk HE
                                    have cE' : 10000 ≤ e := by omega
                                    clear HE cE
                                    go_wp2
                                    go_roundg kk
                                    case measure => omega
                                    case rel => exact ⟨j + 1, e, by simp, rfl, ⟨by have := hk.out; omega⟩, q0, q1, HE', hdj, hoj⟩
                                · rw [if_neg c57] at HE
                                  have c57' : 58 ≤ b := by omega
                                  clear c57
                                  by_cases c95 : b = 95
                                  · rw [if_pos c95] at HE
                                    have HE' := Aside0.mk HE
                                    subst c95
                                    clear HE
                                    go_wp2
                                    go_roundg kk
                                    case measure => omega
                                    case rel => exact ⟨j + 1, e, by simp, rfl, ⟨by have := hk.out; omega⟩, q0, q1, HE', hdj, hoj⟩
                                  · rw [if_neg c95] at HE
                                    simp only [Prod.mk.injEq] at HE
                                    obtain ⟨rfl, rfl⟩ := HE
                                    have c95' : (b == 95) = false := beq_eq_false_iff_ne.mpr c95
                                    clear c95
                                    go_wp2
                                    go_meet
                                    case rel => exact ⟨rfl, rfl, hdj, hoj⟩
                              · rw [if_neg c48] at HE
                                have c48' : b ≤ 47 := by omega
                                clear c48
                                simp only [Prod.mk.injEq] at HE
                                obtain ⟨rfl, rfl⟩ := HE
                                have c95' : (b == 95) = false := by simp only [beq_eq_false_iff_ne, ne_eq]; omega
                                go_wp2
                                go_meet
                                case rel => exact ⟨rfl, rfl, hdj, hoj⟩
                        case rest => as_aux_lemma =>
                          clear hd5 ho5 he3
                          obtain ⟨rfl, rfl, hd6, ho6⟩ := hcut
                          have e1 := hd6.dp
                          have fz := hd6.frozen
                          simp only at e1
                          have H := H.out
                          obtain ⟨pr, hpr⟩ : ∃ z, e3 * sg = z := ⟨_, rfl⟩
                          have hp0 : -100000 ≤ pr ∧ pr ≤ 100000 := by rcases hsg with rfl | rfl <;> omega
                          obtain ⟨hp0, hp1⟩ := hp0
                          rw [hpr] at H
                          simp only [Prod.mk.injEq] at H
                          obtain ⟨hok, rfl⟩ := H
                          have hbi' : (i3 : Int) ≤ s.size := by omega
                          by_cases hie : i3 = s.size
                          · rw [decide_eq_true hie] at hok
                            subst hok
                            have hie' : ((i3 : Int) == s.size) = true := by simp only [beq_iff_eq]; omega
                            have hie2 : ((i3 : Int) != s.size) = false := by simp only [bne_eq_false_iff_eq]; omega
                            clear hie
                            go_wp2
                            go_ret
                            exact ⟨rfl, hd6.set_dp _, ho6.set _ _⟩
                          · rw [decide_eq_false hie] at hok
                            subst hok
                            have hie' : ((i3 : Int) == s.size) = false := by simp only [beq_eq_false_iff_ne, ne_eq]; omega
                            have hie2 : ((i3 : Int) != s.size) = true := by simp only [bne_iff_ne, ne_eq]; omega
                            clear hie
                            go_wp2
                            go_ret
                            exact ⟨rfl, hd6.set_dp _, ho6.set _ _⟩
            · rw [if_neg h101] at H
              simp only [Prod.mk.injEq] at H
              obtain ⟨rfl, rfl⟩ := H
              have h101' : (Go.bits .or .u8 (bt s i) 32 == 101) = false := beq_eq_false_iff_ne.mpr h101
              clear h101 hi
              go_wp2_with (first | (go_at_call 50; ((with_reducible refine (lower_any _ _).mono ?_); rintro e w' ⟨rfl, rfl⟩)))
              go_ret
              exact ⟨rfl, hdT, hoT⟩
        · have hdp0 : (if true = true then dp else (n : Int)) = dp := rfl
          try rw [hdp0] at H
          have hdq0 : -2000000 ≤ dp := by omega
          have hdq1 : dp ≤ 2000000 := by omega
          have hdT := hd2
          have hoT := ho2
          clear hd2 ho2
          by_cases hi : s.size ≤ i
          · rw [if_pos hi] at H
            have hie : (i : Int) = s.size := by omega
            have hie2 : i = s.size := by omega
            rw [decide_eq_true hie2] at H
            simp only [Prod.mk.injEq] at H
            obtain ⟨rfl, rfl⟩ := H
            subst hie2
            clear hi hie
            go_wp2
            go_ret
            exact ⟨rfl, hdT, hoT⟩
          · rw [if_neg hi] at H
            have hi1 : (i : Int) < s.size := by omega
            have hi2 : i < s.size := by omega
            have hine : ((i : Int) != s.size) = true := by simp only [bne_iff_ne, ne_eq]; omega
            have hine2 : ((i : Int) == s.size) = false := by simp only [beq_eq_false_iff_ne, ne_eq]; omega
            have hx : ∀ h : i < s.size, ((s[i]'h).toNat : Int) = bt s i := fun h => bt_at s (i : Int) h
            by_cases h101 : Go.bits .or .u8 (bt s i) 32 = 101
            · rw [if_pos h101] at H
              have h101' : (Go.bits .or .u8 (bt s i) 32 == 101) = true := beq_iff_eq.mpr h101
              clear h101
              by_cases hj : s.size ≤ i + 1
              · rw [if_pos hj] at H
                simp only [Prod.mk.injEq] at H
                obtain ⟨rfl, rfl⟩ := H
                have hj1 : (s.size : Int) ≤ i + 1 := by omega
                clear hj hi
                go_wp2_with (first | (go_at_call 50; ((with_reducible refine (lower_any _ _).mono ?_); rintro e w' ⟨rfl, rfl⟩)))
                go_ret
                exact ⟨rfl, hdT, hoT⟩
              · rw [if_neg hj] at H
                have hj1 : (i : Int) + 1 < s.size := by omega
                have hj2 : i + 1 < s.size := by omega
                have hx1 : ∀ h : i + 1 < s.size, ((s[i + 1]'h).toNat : Int) = bt s (i + 1 : Nat) := fun h => bt_at s ((i + 1 : Nat) : Int) h
                obtain ⟨b1, hb1⟩ : ∃ b, bt s (i + 1 : Nat) = b := ⟨_, rfl⟩
                rw [hb1] at H hx1
                clear hb1
                obtain ⟨i2, sg, hcase, H3⟩ : ∃ (i2 : Nat) (sg : Int), (b1 = 43 ∧ i2 = i + 2 ∧ sg = 1 ∨ b1 = 45 ∧ i2 = i + 2 ∧ sg = -1 ∨ b1 ≠ 43 ∧ b1 ≠ 45 ∧ i2 = i + 1 ∧ sg = 1) ∧ st3 s neg ⟨i, n, cc, dp, tr, true, true⟩ i2 sg = (ok, y) := by
                  by_cases c43 : b1 = 43
                  · rw [if_pos c43] at H; exact ⟨_, _, .inl ⟨c43, rfl, rfl⟩, H⟩
                  · rw [if_neg c43] at H
                    by_cases c45 : b1 = 45
                    · rw [if_pos c45] at H; exact ⟨_, _, .inr (.inl ⟨c45, rfl, rfl⟩), H⟩
                    · rw [if_neg c45] at H; exact ⟨_, _, .inr (.inr ⟨c43, c45, rfl, rfl⟩), H⟩
                clear H
                replace H3 := Aside0.mk H3
                replace hcase := Aside0.mk hcase
                clear hj hi
                go_upto_block 4 with (first | (go_at_call 50; ((with_reducible refine (lower_any _ _).mono ?_); rintro e w' ⟨rfl, rfl⟩)))
                go_cut [5, 8] (fun v5 v8 wc => v5 = .int .i64 i2 ∧ v8 = .int .i64 sg ∧ IsDec g ⟨cc, n, dp, neg, tr⟩ wc ∧ OnlyAt g w wc)
                case first => as_aux_lemma =>
                  rcases hcase.out with ⟨h1, rfl, rfl⟩ | ⟨h1, rfl, rfl⟩ | ⟨h1, h3, rfl, rfl⟩
                  · subst h1
                    go_wp2
                    go_meet
                    case rel => exact ⟨by first | rfl | (congr 1; done) | (congr 1; omega), rfl, hdT, hoT⟩
                  · subst h1
                    go_wp2
                    go_meet
                    case rel => exact ⟨by first | rfl | (congr 1; done) | (congr 1; omega), rfl, hdT, hoT⟩
                  · have hb : (b1 == 43) = false := beq_eq_false_iff_ne.mpr h1
                    have hb2 : (b1 == 45) = false := beq_eq_false_iff_ne.mpr h3
                    clear h1 h3
                    go_wp2
                    go_meet
                    case rel => exact ⟨by first | rfl | (congr 1; done) | (congr 1; omega), rfl, hdT, hoT⟩
                case rest => as_aux_lemma =>
                  obtain ⟨rfl, rfl, hd5, ho5⟩ := hcut
                  have hi2b : i2 ≤ s.size + 1 ∧ (sg = 1 ∨ sg = -1) := by have := hcase.out; omega
                  obtain ⟨hi2a, hsg⟩ := hi2b
                  clear hdT hoT hx hx1 hj1 hj2 hi1 hi2 hine hine2 h101' hcase e1 fz
                  have H := H3.out
                  clear H3
                  rw [st3] at H
                  simp only [ST.D1] at H
                  try rw [hdp0] at H
                  by_cases hk : s.size ≤ i2
                  · rw [if_pos hk] at H
                    simp only [Prod.mk.injEq] at H
                    obtain ⟨rfl, rfl⟩ := H
                    have hk1 : (s.size : Int) ≤ i2 := by omega
                    clear hk
                    go_wp2
                    go_ret
                    exact ⟨rfl, hd5, ho5⟩
                  · rw [if_neg hk] at H
                    have hk1 : (i2 : Int) < s.size := by omega
                    have hk2 : i2 < s.size := by omega
                    have hx2 : ∀ h : i2 < s.size, ((s[i2]'h).toNat : Int) = bt s i2 := fun h => bt_at s (i2 : Int) h
                    clear hk
                    by_cases h48 : bt s i2 < 48
                    · rw [if_pos h48] at H
                      simp only [Prod.mk.injEq] at H
                      obtain ⟨rfl, rfl⟩ := H
                      go_wp2
                      go_ret
                      exact ⟨rfl, hd5, ho5⟩
                    · rw [if_neg h48] at H
                      have h48' : 48 ≤ bt s i2 := by omega
                      by_cases h57 : 57 < bt s i2
                      · rw [if_pos h57] at H
                        simp only [Prod.mk.injEq] at H
                        obtain ⟨rfl, rfl⟩ := H
                        go_wp2
                        go_ret
                        exact ⟨rfl, hd5, ho5⟩
                      · rw [if_neg h57] at H
                        have h57' : bt s i2 ≤ 57 := by omega
                        have hk3 : (s.size ≤ i2) = False := eq_false (by omega)
                        have h48f : (bt s i2 < 48) = False := eq_false (by omega)
                        have h57f : (57 < bt s i2) = False := eq_false (by omega)
                        have hbe := eb_bd s (s.size - i2) i2 0 (by omega) (by omega)
                        have hbi := eb_le s (s.size - i2) i2 0 (by omega)
                        obtain ⟨i3, e3, he3⟩ : ∃ i3 e3, eb s (s.size - i2) i2 0 = (i3, e3) := ⟨_, _, rfl⟩
                        rw [he3] at H hbe hbi
                        obtain ⟨hb0, hb1⟩ := hbe
                        simp only at hb0 hb1 hbi H
                        replace he3 := Aside0.mk he3
                        clear h48 h57
                        replace H := Aside0.mk H
                        go_upto_block 5 with (fail)
                        go_cut [5, 9] (fun v5 v9 wc => v5 = .int .i64 i3 ∧ v9 = .int .i64 e3 ∧ IsDec g ⟨cc, n, dp, neg, tr⟩ wc ∧ OnlyAt g w wc)
                        case first => as_aux_lemma =>
                          go_wp2
                          go_loopg [5, 9] (s.size - i2) (fun kk v5 v9 wr => ∃ (j : Nat) (e : Int), v5 = .int .i64 j ∧ v9 = .int .i64 e ∧ Aside0 (kk + j = s.size) ∧ 0 ≤ e ∧ e ≤ 100000 ∧ Aside0 (eb s kk j e = (i3, e3)) ∧ IsDec g ⟨cc, n, dp, neg, tr⟩ wr ∧ OnlyAt g w wr)
                          case atStart => exact ⟨i2, 0, rfl, rfl, ⟨by omega⟩, by omega, by omega, he3, hd5, ho5⟩
                          case round =>
                            clear hd5 ho5 he3
                            obtain ⟨j, e, rfl, rfl, hk, q0, q1, he, hdj, hoj⟩ := hrel
                            rcases gk with _ | kk
                            · have hje : j = s.size := by have := hk.out; omega
                              have HE := he.out
                              simp only [eb, Prod.mk.injEq] at HE
                              obtain ⟨rfl, rfl⟩ := HE
                              have hje' : (j : Int) = s.size := by omega
                              go_wp2
                              go_meet
                              case rel => exact ⟨rfl, rfl, hdj, hoj⟩
                            · have hj : j < s.size := by have := hk.out; omega
                              have hj' : (j : Int) < s.size := by omega
                              have hxj : ∀ h : j < s.size, ((s[j]'h).toNat : Int) = bt s j := fun h => bt_at s (j : Int) h
                              have HE := he.out
                              have hbd := bt_range s j
                              rw [eb] at HE
                              obtain ⟨b, hb⟩ : ∃ b, bt s j = b := ⟨_, rfl⟩
                              rw [hb] at HE hxj hbd
                              clear hb he
                              by_cases c48 : 48 ≤ b
                              · rw [if_pos c48] at HE
                                by_cases c57 : b ≤ 57
                                · rw [if_pos c57] at HE
                                  have c95 : (b == 95) = false := by simp only [beq_eq_false_iff_ne, ne_eq]; omega
                                  by_cases cE : e < 10000
                                  · rw [if_pos cE] at HE
                                    have HE' := Aside0.mk HE
                                    clear HE
                                    go_wp2
                                    go_roundg kk
                                    case measure => omega
                                    case rel => exact ⟨j + 1, _, by simp, rfl, ⟨by have := hk.out; omega⟩, by omega, by omega, HE', hdj, hoj⟩
                                  · rw [if_neg cE] at HE
                                    have HE' := Aside0.mk HE
                                    have cE' : 10000 ≤ e := by omega
                                    clear HE cE
                                    go_wp2
                                    go_roundg kk
                                    case measure => omega
                                    case rel => exact ⟨j + 1, e, by simp, rfl, ⟨by have := hk.out; omega⟩, q0, q1, HE', hdj, hoj⟩
                                · rw [if_neg c57] at HE
                                  have c57' : 58 ≤ b := by omega
                                  clear c57
                                  by_cases c95 : b = 95
                                  · rw [if_pos c95] at HE
                                    have HE' := Aside0.mk HE
                                    subst c95
                                    clear HE
                                    go_wp2
                                    go_roundg kk
                                    case measure => omega
                                    case rel => exact ⟨j + 1, e, by simp, rfl, ⟨by have := hk.out; omega⟩, q0, q1, HE', hdj, hoj⟩
                                  · rw [if_neg c95] at HE
                                    simp only [Prod.mk.injEq] at HE
                                    obtain ⟨rfl, rfl⟩ := HE
                                    have c95' : (b == 95) = false := beq_eq_false_iff_ne.mpr c95
                                    clear c95
                                    go_wp2
                                    go_meet
                                    case rel => exact ⟨rfl, rfl, hdj, hoj⟩
                              · rw [if_neg c48] at HE
                                have c48' : b ≤ 47 := by omega
                                clear c48
                                simp only [Prod.mk.injEq] at HE
                                obtain ⟨rfl, rfl⟩ := HE
                                have c95' : (b == 95) = false := by simp only [beq_eq_false_iff_ne, ne_eq]; omega
                                go_wp2
                                go_meet
                                case rel => exact ⟨rfl, rfl, hdj, hoj⟩
                        case rest => as_aux_lemma =>
                          clear hd5 ho5 he3
                          obtain ⟨rfl, rfl, hd6, ho6⟩ := hcut
                          have e1 := hd6.dp
                          have fz := hd6.frozen
                          simp only at e1
                          have H := H.out
                          obtain ⟨pr, hpr⟩ : ∃ z, e3 * sg = z := ⟨_, rfl⟩
                          have hp0 : -100000 ≤ pr ∧ pr ≤ 100000 := by rcases hsg with rfl | rfl <;> omega
                          obtain ⟨hp0, hp1⟩ := hp0
                          rw [hpr] at H
                          simp only [Prod.mk.injEq] at H
                          obtain ⟨hok, rfl⟩ := H
                          have hbi' : (i3 : Int) ≤ s.size := by omega
                          by_cases hie : i3 = s.size
                          · rw [decide_eq_true hie] at hok
                            subst hok
                            have hie' : ((i3 : Int) == s.size) = true := by simp only [beq_iff_eq]; omega
                            have hie2 : ((i3 : Int) != s.size) = false := by simp only [bne_eq_false_iff_eq]; omega
                            clear hie
                            go_wp2
                            go_ret
                            exact ⟨rfl, hd6.set_dp _, ho6.set _ _⟩
                          · rw [decide_eq_false hie] at hok
                            subst hok
                            have hie' : ((i3 : Int) == s.size) = false := by simp only [beq_eq_false_iff_ne, ne_eq]; omega
                            have hie2 : ((i3 : Int) != s.size) = true := by simp only [bne_iff_ne, ne_eq]; omega
                            clear hie
                            go_wp2
                            go_ret
                            exact ⟨rfl, hd6.set_dp _, ho6.set _ _⟩
            · rw [if_neg h101] at H
              simp only [Prod.mk.injEq] at H
              obtain ⟨rfl, rfl⟩ := H
              have h101' : (Go.bits .or .u8 (bt s i) 32 == 101) = false := beq_eq_false_iff_ne.mpr h101
              clear h101 hi
              go_wp2_with (first | (go_at_call 50; ((with_reducible refine (lower_any _ _).mono ?_); rintro e w' ⟨rfl, rfl⟩)))
              go_ret
              exact ⟨rfl, hdT, hoT⟩
end Go.Proofs.YtfkpbkjokapijaaGreatFmt.PQ
