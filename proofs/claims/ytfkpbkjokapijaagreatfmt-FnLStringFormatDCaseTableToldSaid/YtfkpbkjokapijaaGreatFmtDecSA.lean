/- The slow road's number is read off the text: the contract. -/
import Derived.Test.YtfkpbkjokapijaaGreatFmtDecSW
/- The slow road's number is read off the text: two points. -/
namespace Go.Proofs.YtfkpbkjokapijaaGreatFmt.PQ
open Go.RowKit Go.Proofs.YtfkpbkjokapijaaGreatFmtW.PrintWords
set_option linter.unusedVariables false
set_option linter.unusedSimpArgs false

set_option maxHeartbeats 8000000 in
set_option maxRecDepth 100000 in
theorem set_ret (s : ByteArray) (hs : s.size ≤ 1000000) (hs0 : 0 < s.size) (c : Nat → Int) (i0 : Nat) (neg : Bool) (hi0 : i0 ≤ 1) (hsign : bt s 0 = 43 ∧ i0 = 1 ∧ neg = false ∨ bt s 0 = 45 ∧ i0 = 1 ∧ neg = true ∨ bt s 0 ≠ 43 ∧ bt s 0 ≠ 45 ∧ i0 = 0 ∧ neg = false)
    (t : ST) (hsa : sa s (s.size - i0) ⟨i0, 0, c, 0, false, false, false⟩ = .ret t) (n0 : Bool) (t0 : Bool) (g : Nat) (w : World) (hd : IsDec g ⟨c, 0, 0, n0, t0⟩ w) :
    Calls Tryz.prog 67 #[.pointer (some ⟨g, 0, none⟩), .string s] w fun en w' => en = .returned (.bool false) ∧ IsDec g (t.D neg) w' ∧ OnlyAt g w w' := by
  have hsz : (0 : Int) < s.size := by omega
  have hse : (s = ByteArray.empty) = False := eq_false (fun e => by subst e; exact absurd hs0 (by decide))
  have en := hd.neg
  have et := hd.tr
  have fz := hd.frozen
  simp only at en et
  replace hsa := Aside0.mk hsa
  replace hsign := Aside0.mk hsign
  have hx0 : ∀ h : 0 < s.size, ((s[0]'h).toNat : Int) = bt s 0 := fun h => bt_at s (0 : Int) h
  go_enter Tryz.func67, Tryz.ntmps67
  go_upto_block 0 with (fail)
  go_cut [5] (fun v5 wc => v5 = .int .i64 i0 ∧ IsDec g ⟨c, 0, 0, neg, false⟩ wc ∧ OnlyAt g w wc)
  case first => as_aux_lemma =>
    rcases hsign.out with ⟨h1, rfl, rfl⟩ | ⟨h1, rfl, rfl⟩ | ⟨h1, h3, rfl, rfl⟩
    · have hb : (bt s 0 == 43) = true := beq_iff_eq.mpr h1
      clear h1
      go_wp2
      go_meet
      case rel => exact ⟨rfl, (hd.set_neg false).set_tr false, ((OnlyAt.refl g w).set _ _).set _ _⟩
    · have hb : (bt s 0 == 43) = false := by rw [h1]; rfl
      have hb2 : (bt s 0 == 45) = true := beq_iff_eq.mpr h1
      clear h1
      go_wp2
      go_meet
      case rel => exact ⟨rfl, ((hd.set_neg false).set_tr false).set_neg true, (((OnlyAt.refl g w).set _ _).set _ _).set _ _⟩
    · have hb : (bt s 0 == 43) = false := beq_eq_false_iff_ne.mpr h1
      have hb2 : (bt s 0 == 45) = false := beq_eq_false_iff_ne.mpr h3
      clear h1 h3
      go_wp2
      go_meet
      case rel => exact ⟨rfl, (hd.set_neg false).set_tr false, ((OnlyAt.refl g w).set _ _).set _ _⟩
  case rest => as_aux_lemma =>
    clear hx0 en et fz hd
    obtain ⟨rfl, hd1, ho1⟩ := hcut
    go_wp2
    go_loopg [5, 6, 7] (s.size - i0) (fun kk v5 v6 v7 wr => ∃ u : ST, v5 = .int .i64 u.i ∧ v6 = .bool u.dot ∧ v7 = .bool u.digs ∧ Aside0 (kk + u.i = s.size) ∧ Aside0 (sa s kk u = .ret t) ∧ Aside0 u.Inv ∧ IsDec g (u.D neg) wr ∧ OnlyAt g w wr)
    case atStart => exact ⟨⟨i0, 0, c, 0, false, false, false⟩, rfl, rfl, rfl, ⟨by show s.size - i0 + i0 = _; omega⟩, hsa, ⟨⟨by show 0 ≤ 800; omega, fun j hj => absurd hj (by show ¬ j < 0; omega), fun h => absurd h (by show ¬ 0 < 0; omega), by show -(i0 : Int) ≤ 0; omega, by show (0 : Int) ≤ 800; omega⟩⟩, hd1, ho1⟩
    case round =>
      clear hd1 ho1
      obtain ⟨u, rfl, rfl, rfl, hk, hst, hI, hdj, hoj⟩ := hrel
      rcases gk with _ | kk
      · have hi : u.i = s.size := by have := hk.out; omega
        have H := hst.out
        simp only [sa] at H
        cases H
      · have hi : u.i < s.size := by have := hk.out; omega
        have hi' : (u.i : Int) < s.size := by omega
        have hx : ∀ h : u.i < s.size, ((s[u.i]'h).toNat : Int) = bt s u.i := fun h => bt_at s (u.i : Int) h
        have H := hst.out
        have I := hI.out
        have hbd := bt_range s u.i
        rw [sa] at H
        obtain ⟨i, n, cc, dp, tr, dot, digs⟩ := u
        obtain ⟨n8, Id, If, Id0, Id1⟩ := id I
        simp only [ST.D] at *
        obtain ⟨b, hb⟩ : ∃ b, bt s i = b := ⟨_, rfl⟩
        rw [hb] at H hx hbd
        have e0 := hdj.nd
        have e1 := hdj.dp
        have et := hdj.tr
        have fz := hdj.frozen
        simp only at e0 e1 et
        clear hb
        by_cases b95 : b = 95
        · rw [if_pos b95] at H
          have H' := Aside0.mk H
          subst b95
          clear H
          go_wp2
          go_roundg kk
          case measure => omega
          case rel => exact ⟨⟨i + 1, n, cc, dp, tr, dot, digs⟩, by (first | rfl | (congr 1; done) | (simp; done)), rfl, rfl, ⟨by show kk + (i + 1) = _; have := hk.out; omega⟩, H', ⟨I.skip⟩, hdj, hoj⟩
        · rw [if_neg b95] at H
          have b95' : (b == 95) = false := beq_eq_false_iff_ne.mpr b95
          by_cases b46 : b = 46
          · rw [if_pos b46] at H
            subst b46
            cases dot
            · rw [if_neg (by decide)] at H
              have H' := Aside0.mk H
              clear H
              go_wp2
              go_roundg kk
              case measure => omega
              case rel => exact ⟨⟨i + 1, n, cc, n, tr, true, digs⟩, by (first | rfl | (congr 1; done) | (simp; done)), rfl, rfl, ⟨by show kk + (i + 1) = _; have := hk.out; omega⟩, H', ⟨I.point⟩, hdj.set_dp n, hoj.set _ _⟩
            · rw [if_pos rfl] at H
              simp only [SR.ret.injEq] at H
              subst H
              go_wp2
              go_ret
              exact ⟨rfl, hdj, hoj⟩
          · rw [if_neg b46] at H
            have b46' : (b == 46) = false := beq_eq_false_iff_ne.mpr b46
            replace b95 := Aside0.mk b95
            replace b46 := Aside0.mk b46
            by_cases b48 : 48 ≤ b
            · rw [if_pos b48] at H
              by_cases b57 : b ≤ 57
              · rw [if_pos b57] at H
                have DI := I.digit b b48 b57
                simp only [ST.dig] at H DI
                by_cases bz : b = 48
                · rw [if_pos bz] at H DI
                  by_cases nz : n = 0
                  · rw [if_pos nz] at H DI
                    have H' := Aside0.mk H
                    subst bz
                    clear H
                    rw [nz] at e0
                    simp only [Int.natCast_zero] at e0
                    replace nz := Aside0.mk nz
                    go_wp2
                    go_roundg kk
                    case measure => omega
                    case rel => exact ⟨⟨i + 1, n, cc, dp - 1, tr, dot, true⟩, by (first | rfl | (congr 1; done) | (simp; done)), rfl, rfl, ⟨by show kk + (i + 1) = _; have := hk.out; omega⟩, H', ⟨DI⟩, hdj.set_dp (dp - 1), hoj.set _ _⟩
                  · rw [if_neg nz] at H DI
                    have nz' : ((n : Int) == 0) = false := by simp only [beq_eq_false_iff_ne]; omega
                    by_cases n8' : n < 800
                    · rw [if_pos n8'] at H DI
                      have H' := Aside0.mk H
                      subst bz
                      clear H
                      have n8i : (n : Int) < 800 := by omega
                      have ew := hdj.d n n8'
                      simp only at ew
                      replace nz := Aside0.mk nz
                      go_wp2
                      go_region
                      go_wp2
                      go_roundg kk
                      case measure => omega
                      case rel => exact ⟨⟨i + 1, n + 1, upd cc n 48, dp, tr, dot, true⟩, by (first | rfl | (congr 1; done) | (simp; done)), rfl, rfl, ⟨by show kk + (i + 1) = _; have := hk.out; omega⟩, H', ⟨DI⟩, (by have h := ((hdj.set_d n n8' 48).set_nd ((n : Int) + 1)).drew; have e : ((n : Int) + 1) = ((n + 1 : Nat) : Int) := (by simp); show IsDec g ⟨upd cc n 48, ((n + 1 : Nat) : Int), dp, neg, tr⟩ _; rw [← e]; exact h), ((hoj.set _ _).set _ _).drew⟩
                    · rw [if_neg n8'] at H DI
                      have H' := Aside0.mk H
                      subst bz
                      clear H
                      have n8i : 800 ≤ (n : Int) := by omega
                      clear n8'
                      replace nz := Aside0.mk nz
                      go_wp2
                      go_roundg kk
                      case measure => omega
                      case rel => exact ⟨⟨i + 1, n, cc, dp, tr, dot, true⟩, by (first | rfl | (congr 1; done) | (simp; done)), rfl, rfl, ⟨by show kk + (i + 1) = _; have := hk.out; omega⟩, H', ⟨DI⟩, hdj, hoj⟩
                · rw [if_neg bz] at H DI
                  have bz' : (b == 48) = false := beq_eq_false_iff_ne.mpr bz
                  have bz2 : (b != 48) = true := bne_iff_ne.mpr bz
                  replace bz := Aside0.mk bz
                  by_cases n8' : n < 800
                  · rw [if_pos n8'] at H DI
                    have H' := Aside0.mk H
                    clear H
                    have n8i : (n : Int) < 800 := by omega
                    have ew := hdj.d n n8'
                    simp only at ew
                    go_wp2
                    go_region
                    go_wp2
                    go_roundg kk
                    case measure => omega
                    case rel => exact ⟨⟨i + 1, n + 1, upd cc n b, dp, tr, dot, true⟩, by (first | rfl | (congr 1; done) | (simp; done)), rfl, rfl, ⟨by show kk + (i + 1) = _; have := hk.out; omega⟩, H', ⟨DI⟩, (by have h := ((hdj.set_d n n8' b).set_nd ((n : Int) + 1)).drew; have e : ((n : Int) + 1) = ((n + 1 : Nat) : Int) := (by simp); show IsDec g ⟨upd cc n b, ((n + 1 : Nat) : Int), dp, neg, tr⟩ _; rw [← e]; exact h), ((hoj.set _ _).set _ _).drew⟩
                  · rw [if_neg n8'] at H DI
                    have H' := Aside0.mk H
                    clear H
                    have n8i : 800 ≤ (n : Int) := by omega
                    clear n8'
                    go_wp2
                    go_roundg kk
                    case measure => omega
                    case rel => exact ⟨⟨i + 1, n, cc, dp, true, dot, true⟩, by (first | rfl | (congr 1; done) | (simp; done)), rfl, rfl, ⟨by show kk + (i + 1) = _; have := hk.out; omega⟩, H', ⟨DI⟩, hdj.set_tr true, hoj.set _ _⟩
              · rw [if_neg b57] at H
                cases H
            · rw [if_neg b48] at H
              cases H
end Go.Proofs.YtfkpbkjokapijaaGreatFmt.PQ
namespace Go.Proofs.YtfkpbkjokapijaaGreatFmt.PQ
open Go.RowKit Go.Proofs.YtfkpbkjokapijaaGreatFmtW.PrintWords
set_option linter.unusedVariables false
set_option linter.unusedSimpArgs false

set_option maxRecDepth 100000 in
theorem set_empty (s : ByteArray) (hs : s = ByteArray.empty) (c : Nat → Int) (g : Nat) (w : World) (hd : IsDec g ⟨c, 0, 0, false, false⟩ w) :
    Calls Tryz.prog 67 #[.pointer (some ⟨g, 0, none⟩), .string s] w fun en w' => en = .returned (.bool false) ∧ IsDec g ⟨c, 0, 0, false, false⟩ w' ∧ OnlyAt g w w' := by
  have en := hd.neg
  have et := hd.tr
  have fz := hd.frozen
  simp only at en et
  have hz : s.size = 0 := by rw [hs]; rfl
  go_enter Tryz.func67, Tryz.ntmps67
  go_wp2
  go_ret
  exact ⟨rfl, (hd.set_neg false).set_tr false, ((OnlyAt.refl g w).set _ _).set _ _⟩
theorem set_any (s : ByteArray) (hs : s.size ≤ 1000000) (c : Nat → Int) : ∃ (ok : Bool) (y : D), (y.nd = 0 ∨ y.Good ∨ ok = false) ∧ ∀ (g : Nat) (w : World), IsDec g ⟨c, 0, 0, false, false⟩ w →
    Calls Tryz.prog 67 #[.pointer (some ⟨g, 0, none⟩), .string s] w fun en w' => en = .returned (.bool ok) ∧ IsDec g y w' ∧ OnlyAt g w w' := by
  by_cases h0 : s.size = 0
  · exact ⟨false, _, .inr (.inr rfl), fun g w hd => set_empty s (ByteArray.size_eq_zero_iff.mp h0) c g w hd⟩
  obtain ⟨i0, neg, hi0, hsign⟩ : ∃ (i0 : Nat) (neg : Bool), i0 ≤ 1 ∧ (bt s 0 = 43 ∧ i0 = 1 ∧ neg = false ∨ bt s 0 = 45 ∧ i0 = 1 ∧ neg = true ∨ bt s 0 ≠ 43 ∧ bt s 0 ≠ 45 ∧ i0 = 0 ∧ neg = false) := by
    by_cases h1 : bt s 0 = 43
    · exact ⟨1, false, by omega, .inl ⟨h1, rfl, rfl⟩⟩
    · by_cases h2 : bt s 0 = 45
      · exact ⟨1, true, by omega, .inr (.inl ⟨h2, rfl, rfl⟩)⟩
      · exact ⟨0, false, by omega, .inr (.inr ⟨h1, h2, rfl, rfl⟩)⟩
  cases hsa : sa s (s.size - i0) ⟨i0, 0, c, 0, false, false, false⟩ with
  | ret t => exact ⟨false, _, .inr (.inr rfl), fun g w hd => set_ret s hs (by omega) c i0 neg hi0 hsign t hsa false false g w hd⟩
  | go t =>
    have hinv := sa_inv s (s.size - i0) _ t ⟨by show 0 ≤ 800; omega, fun j hj => absurd hj (by show ¬ j < 0; omega), fun h => absurd h (by show ¬ 0 < 0; omega), by show -(i0 : Int) ≤ 0; omega, by show (0 : Int) ≤ 800; omega⟩ (by show s.size - i0 + i0 = _; omega) hsa
    have hg := st2_good s neg t hinv.1
    cases h2 : st2 s neg t with
    | mk ok y =>
      rw [h2] at hg
      refine ⟨ok, y, ?_, fun g w hd => set_walk s hs (by omega) c i0 neg hi0 hsign t hsa hinv ok y h2 false false g w hd⟩
      rcases hg with hg | hg
      · exact .inl hg
      · exact .inr (.inl hg)
end Go.Proofs.YtfkpbkjokapijaaGreatFmt.PQ
