/- ParseUint at base 0 ends; what it answers is the same in every memory. -/
import Derived.Test.YtfkpbkjokapijaaGreatFmtSafe3
import Derived.Test.YtfkpbkjokapijaaGreatFmtDecSA
import Derived.Test.YtfkpbkjokapijaaGreatFmtShelf
namespace Go.Proofs.YtfkpbkjokapijaaGreatFmt.PQ
open Go.RowKit Go.Proofs.YtfkpbkjokapijaaGreatFmtW.PrintWords
set_option linter.unusedVariables false
set_option linter.unusedSimpArgs false

inductive PR where
  | stop (v c : Int) : PR
  | done (us : Bool) (n : Int) : PR
def low (c : Int) : Int := Go.bits .or .u8 c 32
/-- One digit taken up. -/
def pstep (base cut n d : Int) : Option Int :=
  if IntKind.u64.wrap (IntKind.u64.wrap (n * base) + d) < IntKind.u64.wrap (n * base) then none else some (IntKind.u64.wrap (IntKind.u64.wrap (n * base) + d))
def pu (t : ByteArray) (base cut : Int) : Nat → Nat → Bool → Int → PR
  | 0, _, us, n => .done us n
  | f + 1, i, us, n =>
    if bt t i = 95 then pu t base cut f (i + 1) true n
    else if 48 ≤ bt t i ∧ bt t i ≤ 57 then
      (if base ≤ bt t i - 48 then .stop 0 2 else if cut ≤ n then .stop 18446744073709551615 1 else
        match pstep base cut n (bt t i - 48) with
        | none => .stop 18446744073709551615 1
        | some n1 => pu t base cut f (i + 1) us n1)
    else if 97 ≤ low (bt t i) ∧ low (bt t i) ≤ 122 then
      (if base ≤ low (bt t i) - 97 + 10 then .stop 0 2 else if cut ≤ n then .stop 18446744073709551615 1 else
        match pstep base cut n (low (bt t i) - 97 + 10) with
        | none => .stop 18446744073709551615 1
        | some n1 => pu t base cut f (i + 1) us n1)
    else .stop 0 2
/-- What the head of the text says of the base. -/
structure Pre (s t : ByteArray) (base cut : Int) : Prop where
  out : (bt s 0 ≠ 48 ∧ t = s ∧ base = 10 ∧ cut = 1844674407370955162) ∨
    (bt s 0 = 48 ∧ 3 ≤ s.size ∧ low (bt s 1) = 98 ∧ t = s.extract 2 s.size ∧ base = 2 ∧ cut = 9223372036854775808) ∨
    (bt s 0 = 48 ∧ 3 ≤ s.size ∧ low (bt s 1) = 111 ∧ t = s.extract 2 s.size ∧ base = 8 ∧ cut = 2305843009213693952) ∨
    (bt s 0 = 48 ∧ 3 ≤ s.size ∧ low (bt s 1) = 120 ∧ t = s.extract 2 s.size ∧ base = 16 ∧ cut = 1152921504606846976) ∨
    (bt s 0 = 48 ∧ (s.size < 3 ∨ low (bt s 1) ≠ 98 ∧ low (bt s 1) ≠ 111 ∧ low (bt s 1) ≠ 120) ∧ t = s.extract 1 s.size ∧ base = 8 ∧ cut = 2305843009213693952)
theorem pre_any (s : ByteArray) : ∃ t base cut, Pre s t base cut := by
  by_cases h0 : bt s 0 = 48
  · by_cases h3 : 3 ≤ s.size
    · by_cases h1 : low (bt s 1) = 98
      · exact ⟨_, _, _, ⟨.inr (.inl ⟨h0, h3, h1, rfl, rfl, rfl⟩)⟩⟩
      · by_cases h2 : low (bt s 1) = 111
        · exact ⟨_, _, _, ⟨.inr (.inr (.inl ⟨h0, h3, h2, rfl, rfl, rfl⟩))⟩⟩
        · by_cases h4 : low (bt s 1) = 120
          · exact ⟨_, _, _, ⟨.inr (.inr (.inr (.inl ⟨h0, h3, h4, rfl, rfl, rfl⟩)))⟩⟩
          · exact ⟨_, _, _, ⟨.inr (.inr (.inr (.inr ⟨h0, .inr ⟨h1, h2, h4⟩, rfl, rfl, rfl⟩)))⟩⟩
    · exact ⟨_, _, _, ⟨.inr (.inr (.inr (.inr ⟨h0, .inl (by omega), rfl, rfl, rfl⟩)))⟩⟩
  · exact ⟨_, _, _, ⟨.inl ⟨h0, rfl, rfl, rfl⟩⟩⟩

set_option maxHeartbeats 8000000 in
set_option maxRecDepth 100000 in
theorem pu_stop (s t : ByteArray) (hs : s.size ≤ 1000000) (hs0 : 0 < s.size) (base cut : Int) (hpre : Pre s t base cut) (v c : Int) (hR : pu t base cut t.size 0 false 0 = .stop v c) (w : World) :
    Calls Tryz.prog 41 #[.string s, .int .i64 0, .int .i64 64] w fun en w' => en = .returned (.tuple #[.int .u64 v, .iface 74 (.int .i64 c)]) ∧ Below w.heap.size w w' := by
  have hsz : (0 : Int) < s.size := by omega
  replace hR := Aside0.mk hR
  have hse : (s = ByteArray.empty) = False := eq_false (fun e => by subst e; exact absurd hs0 (by decide))
  have hse2 : s.toList.isEmpty = false := by rw [← decide_eq_emptyBytes s]; exact decide_eq_false (fun e => by subst e; exact absurd hs0 (by decide))
  have hx0 : ∀ h : 0 < s.size, ((s[0]'h).toNat : Int) = bt s 0 := fun h => bt_at s (0 : Int) h
  have hx1 : ∀ h : 1 < s.size, ((s[1]'h).toNat : Int) = bt s 1 := fun h => bt_at s (1 : Int) h
  go_enter Tryz.func41, Tryz.ntmps41
  go_upto_block 0 with (fail)
  go_cut [0, 1] (fun v0 v1 wc => v0 = .string t ∧ v1 = .int .i64 base ∧ w = wc)
  case first => as_aux_lemma =>
    have hq := hpre.out
    clear hpre
    simp only [low] at hq
    rcases hq with ⟨h0, rfl, rfl, rfl⟩ | ⟨h0, h3, h1, rfl, rfl, rfl⟩ | ⟨h0, h3, h1, rfl, rfl, rfl⟩ | ⟨h0, h3, h1, rfl, rfl, rfl⟩ | ⟨h0, h1, rfl, rfl, rfl⟩
    · have b0 : (bt t 0 == 48) = false := beq_eq_false_iff_ne.mpr h0
      clear h0
      go_wp2
      go_meet
      case rel => exact ⟨rfl, rfl, rfl⟩
    · have b0 : (bt s 0 == 48) = true := beq_iff_eq.mpr h0
      have b3 : (3 : Int) ≤ s.size := by omega
      have b1 : (Go.bits .or .u8 (bt s 1) 32 == 98) = true := beq_iff_eq.mpr h1
      clear h0 h1
      go_wp2_with (first | (go_at_call 50; ((with_reducible refine (lower_any _ _).mono ?_); rintro e w' ⟨rfl, rfl⟩)))
      go_meet
      case rel => exact ⟨rfl, rfl, rfl⟩
    · have b0 : (bt s 0 == 48) = true := beq_iff_eq.mpr h0
      have b3 : (3 : Int) ≤ s.size := by omega
      have b1 : (Go.bits .or .u8 (bt s 1) 32 == 111) = true := beq_iff_eq.mpr h1
      have c98 : (Go.bits .or .u8 (bt s 1) 32 == 98) = false := by rw [h1]; rfl
      clear h0 h1
      go_wp2_with (first | (go_at_call 50; ((with_reducible refine (lower_any _ _).mono ?_); rintro e w' ⟨rfl, rfl⟩)))
      go_meet
      case rel => exact ⟨rfl, rfl, rfl⟩
    · have b0 : (bt s 0 == 48) = true := beq_iff_eq.mpr h0
      have b3 : (3 : Int) ≤ s.size := by omega
      have b1 : (Go.bits .or .u8 (bt s 1) 32 == 120) = true := beq_iff_eq.mpr h1
      have c98 : (Go.bits .or .u8 (bt s 1) 32 == 98) = false := by rw [h1]; rfl
      have c111 : (Go.bits .or .u8 (bt s 1) 32 == 111) = false := by rw [h1]; rfl
      clear h0 h1
      go_wp2_with (first | (go_at_call 50; ((with_reducible refine (lower_any _ _).mono ?_); rintro e w' ⟨rfl, rfl⟩)))
      go_meet
      case rel => exact ⟨rfl, rfl, rfl⟩
    · have b0 : (bt s 0 == 48) = true := beq_iff_eq.mpr h0
      clear h0
      rcases h1 with h1 | ⟨h1, h2, h3⟩
      · have b3 : ¬ (3 : Int) ≤ s.size := by omega
        go_wp2_with (first | (go_at_call 50; ((with_reducible refine (lower_any _ _).mono ?_); rintro e w' ⟨rfl, rfl⟩)))
        go_meet
        case rel => exact ⟨rfl, rfl, rfl⟩
      · have b1 : (Go.bits .or .u8 (bt s 1) 32 == 98) = false := beq_eq_false_iff_ne.mpr h1
        have b2 : (Go.bits .or .u8 (bt s 1) 32 == 111) = false := beq_eq_false_iff_ne.mpr h2
        have b4 : (Go.bits .or .u8 (bt s 1) 32 == 120) = false := beq_eq_false_iff_ne.mpr h3
        clear h1 h2 h3
        by_cases b3 : (3 : Int) ≤ s.size
        · go_wp2_with (first | (go_at_call 50; ((with_reducible refine (lower_any _ _).mono ?_); rintro e w' ⟨rfl, rfl⟩)))
          go_meet
          case rel => exact ⟨rfl, rfl, rfl⟩
        · go_wp2_with (first | (go_at_call 50; ((with_reducible refine (lower_any _ _).mono ?_); rintro e w' ⟨rfl, rfl⟩)))
          go_meet
          case rel => exact ⟨rfl, rfl, rfl⟩
  case rest => as_aux_lemma =>
    clear hx0 hx1 hse hse2
    obtain ⟨rfl, rfl, rfl⟩ := hcut
    go_upto_block 2 with (fail)
    go_cut [10] (fun v10 wc => v10 = .int .u64 cut ∧ w = wc)
    case first => as_aux_lemma =>
      rcases hpre.out with ⟨h0, rfl, rfl, rfl⟩ | ⟨h0, h3, h1, rfl, rfl, rfl⟩ | ⟨h0, h3, h1, rfl, rfl, rfl⟩ | ⟨h0, h3, h1, rfl, rfl, rfl⟩ | ⟨h0, h1, rfl, rfl, rfl⟩
      all_goals (clear h0; go_wp2; go_meet; case rel => exact ⟨rfl, rfl⟩)
    case rest => as_aux_lemma =>
      obtain ⟨rfl, rfl⟩ := hcut
      have hM : IntKind.u64.wrap (IntKind.u64.wrap 18446744073709551616 - 1) = 18446744073709551615 := by decide
      have hb2 : 2 ≤ base ∧ base ≤ 16 ∧ 0 ≤ cut ∧ t.size ≤ 1000000 := by
        rcases hpre.out with ⟨h0, rfl, rfl, rfl⟩ | ⟨h0, h3, h1, rfl, rfl, rfl⟩ | ⟨h0, h3, h1, rfl, rfl, rfl⟩ | ⟨h0, h3, h1, rfl, rfl, rfl⟩ | ⟨h0, h1, rfl, rfl, rfl⟩ <;> (try rw [ByteArray.size_extract]) <;> omega
      obtain ⟨b2, b16, c0, ht⟩ := hb2
      clear hpre
      have kb := fun W => print_bytes (P := Tryz.prog) 9 37 5 Tryz.underlying9 Tryz.underlying37 Tryz.underlying5 t W
      obtain ⟨bw, hbw⟩ : ∃ bw, Lib.bytesWorld w 5 t = bw := ⟨_, rfl⟩
      have hBB : Below w.heap.size w bw := by rw [← hbw]; exact bytes_below (Below.refl _ _) (Nat.le_refl _) 5 t
      have hcell : ∀ j : Nat, j < t.size → bw.cell? ⟨w.heap.size, j, none⟩ = some (.int .u8 (bt t j)) := by
        intro j hj
        obtain ⟨ad, e1, e2⟩ := (bytes_reads w 5 t (by omega)).at_ (j : Int) (by omega) (by omega)
        cases e1
        rw [hbw, add_plain, rd_bytesOf] at e2
        exact e2
      replace hcell := Aside0.mk hcell
      replace hBB := Aside0.mk hBB
      have kb1 := kb w
      rw [hbw] at kb1
      clear kb hbw
      go_wp2
      go_loopg [12, 13, 101] t.size (fun kk v12 v13 v101 wr => ∃ (i : Nat) (us : Bool) (n : Int), v12 = .bool us ∧ v13 = .int .u64 n ∧ v101 = .int .i64 i ∧ Aside0 (kk + i = t.size) ∧ 0 ≤ n ∧ n < 18446744073709551616 ∧ Aside0 (pu t base cut kk i us n = .stop v c) ∧ Aside0 (bw = wr))
      case atStart => exact ⟨0, false, 0, rfl, rfl, rfl, ⟨rfl⟩, by omega, by omega, hR, ⟨rfl⟩⟩
      case round =>
        obtain ⟨i, us, n, rfl, rfl, rfl, hk, n0, n1, hH, hw⟩ := hrel
        obtain rfl := hw.out
        clear hw kb1
        have H := hH.out
        clear hH
        rcases gk with _ | kk
        · have hi : i = t.size := by have := hk.out; omega
          have hi' : (i : Int) = t.size := by omega
          rw [pu] at H
          cases H
        · have hi : i < t.size := by have := hk.out; omega
          have hi' : (i : Int) < t.size := by omega
          have ec := hcell.out i hi
          have hbd := bt_range t i
          rw [pu] at H
          obtain ⟨b, hb⟩ : ∃ b, bt t i = b := ⟨_, rfl⟩
          rw [hb] at H ec hbd
          clear hb
          obtain ⟨hbd0, hbd1⟩ := hbd
          by_cases c95 : b = 95
          · rw [if_pos c95] at H
            have H' := Aside0.mk H
            subst c95
            clear H
            go_wp2
            go_roundg kk
            case measure => omega
            case rel => exact ⟨i + 1, true, n, rfl, rfl, by simp, ⟨by have := hk.out; omega⟩, n0, n1, H', ⟨rfl⟩⟩
          · rw [if_neg c95] at H
            have c95' : (b == 95) = false := beq_eq_false_iff_ne.mpr c95
            clear c95
            by_cases c48 : 48 ≤ b ∧ b ≤ 57
            · rw [if_pos c48] at H
              obtain ⟨c48, c57⟩ := c48
              obtain ⟨d, hd⟩ : ∃ d, b - 48 = d := ⟨_, rfl⟩
              rw [hd] at H
              have hdb : 0 ≤ d ∧ d ≤ 255 := by omega
              obtain ⟨hd0, hd1⟩ := hdb
              by_cases g1 : base ≤ d
              · rw [if_pos g1] at H

                simp only [PR.stop.injEq] at H
                obtain ⟨rfl, rfl⟩ := H
                go_wp2_with (first | (go_at_call 50; ((with_reducible refine (lower_any _ _).mono ?_); rintro e w' ⟨rfl, rfl⟩)))
                go_ret2
                exact ⟨rfl, hBB.out⟩
              · rw [if_neg g1] at H
                have g1' : d < base := by omega
                clear g1
                by_cases g2 : cut ≤ n
                · rw [if_pos g2] at H

                  simp only [PR.stop.injEq] at H
                  obtain ⟨rfl, rfl⟩ := H
                  go_wp2_with (first | (go_at_call 50; ((with_reducible refine (lower_any _ _).mono ?_); rintro e w' ⟨rfl, rfl⟩)))
                  go_ret2
                  exact ⟨rfl, hBB.out⟩
                · rw [if_neg g2] at H
                  have g2' : n < cut := by omega
                  clear g2
                  obtain ⟨p, hp⟩ : ∃ p, IntKind.u64.wrap (n * base) = p := ⟨_, rfl⟩
                  obtain ⟨q, hq⟩ : ∃ q, IntKind.u64.wrap (p + d) = q := ⟨_, rfl⟩
                  have pb := u64w_bd (n * base)
                  have qb := u64w_bd (p + d)
                  rw [hp] at pb
                  rw [hq] at qb
                  obtain ⟨pb0, pb1⟩ := pb
                  obtain ⟨qb0, qb1⟩ := qb
                  have qb2 : (18446744073709551615 < q) = False := eq_false (by omega)
                  simp only [pstep] at H
                  rw [hp, hq] at H
                  by_cases g3 : q < p
                  · rw [if_pos g3] at H
                    simp only at H

                    simp only [PR.stop.injEq] at H
                    obtain ⟨rfl, rfl⟩ := H
                    go_wp2_with (first | (go_at_call 50; ((with_reducible refine (lower_any _ _).mono ?_); rintro e w' ⟨rfl, rfl⟩)))
                    go_ret2
                    exact ⟨rfl, hBB.out⟩
                  · rw [if_neg g3] at H
                    simp only at H
                    have g3' : p ≤ q := by omega
                    clear g3
                    have H' := Aside0.mk H
                    clear H
                    go_wp2_with (first | (go_at_call 50; ((with_reducible refine (lower_any _ _).mono ?_); rintro e w' ⟨rfl, rfl⟩)))
                    go_roundg kk
                    case measure => omega
                    case rel => exact ⟨i + 1, us, q, rfl, rfl, by simp, ⟨by have := hk.out; omega⟩, by omega, by omega, H', ⟨rfl⟩⟩
            · rw [if_neg c48] at H
              obtain ⟨l, hl⟩ : ∃ l, low b = l := ⟨_, rfl⟩
              rw [hl] at H
              simp only [low] at hl
              have hnd : (b < 48 ∨ 57 < b) := by omega
              clear c48
              by_cases c97 : 97 ≤ l ∧ l ≤ 122
              · rw [if_pos c97] at H
                obtain ⟨c97, c122⟩ := c97
                rcases hnd with hnd | hnd
                · obtain ⟨d, hd⟩ : ∃ d, l - 97 + 10 = d := ⟨_, rfl⟩
                  rw [hd] at H
                  have hdb : 0 ≤ d ∧ d ≤ 255 := by omega
                  obtain ⟨hd0, hd1⟩ := hdb
                  by_cases g1 : base ≤ d
                  · rw [if_pos g1] at H

                    simp only [PR.stop.injEq] at H
                    obtain ⟨rfl, rfl⟩ := H
                    go_wp2_with (first | (go_at_call 50; ((with_reducible refine (lower_any _ _).mono ?_); rintro e w' ⟨rfl, rfl⟩)))
                    go_ret2
                    exact ⟨rfl, hBB.out⟩
                  · rw [if_neg g1] at H
                    have g1' : d < base := by omega
                    clear g1
                    by_cases g2 : cut ≤ n
                    · rw [if_pos g2] at H

                      simp only [PR.stop.injEq] at H
                      obtain ⟨rfl, rfl⟩ := H
                      go_wp2_with (first | (go_at_call 50; ((with_reducible refine (lower_any _ _).mono ?_); rintro e w' ⟨rfl, rfl⟩)))
                      go_ret2
                      exact ⟨rfl, hBB.out⟩
                    · rw [if_neg g2] at H
                      have g2' : n < cut := by omega
                      clear g2
                      obtain ⟨p, hp⟩ : ∃ p, IntKind.u64.wrap (n * base) = p := ⟨_, rfl⟩
                      obtain ⟨q, hq⟩ : ∃ q, IntKind.u64.wrap (p + d) = q := ⟨_, rfl⟩
                      have pb := u64w_bd (n * base)
                      have qb := u64w_bd (p + d)
                      rw [hp] at pb
                      rw [hq] at qb
                      obtain ⟨pb0, pb1⟩ := pb
                      obtain ⟨qb0, qb1⟩ := qb
                      have qb2 : (18446744073709551615 < q) = False := eq_false (by omega)
                      simp only [pstep] at H
                      rw [hp, hq] at H
                      by_cases g3 : q < p
                      · rw [if_pos g3] at H
                        simp only at H

                        simp only [PR.stop.injEq] at H
                        obtain ⟨rfl, rfl⟩ := H
                        go_wp2_with (first | (go_at_call 50; ((with_reducible refine (lower_any _ _).mono ?_); rintro e w' ⟨rfl, rfl⟩)))
                        go_ret2
                        exact ⟨rfl, hBB.out⟩
                      · rw [if_neg g3] at H
                        simp only at H
                        have g3' : p ≤ q := by omega
                        clear g3
                        have H' := Aside0.mk H
                        clear H
                        go_wp2_with (first | (go_at_call 50; ((with_reducible refine (lower_any _ _).mono ?_); rintro e w' ⟨rfl, rfl⟩)))
                        go_roundg kk
                        case measure => omega
                        case rel => exact ⟨i + 1, us, q, rfl, rfl, by simp, ⟨by have := hk.out; omega⟩, by omega, by omega, H', ⟨rfl⟩⟩
                · obtain ⟨d, hd⟩ : ∃ d, l - 97 + 10 = d := ⟨_, rfl⟩
                  rw [hd] at H
                  have hdb : 0 ≤ d ∧ d ≤ 255 := by omega
                  obtain ⟨hd0, hd1⟩ := hdb
                  by_cases g1 : base ≤ d
                  · rw [if_pos g1] at H

                    simp only [PR.stop.injEq] at H
                    obtain ⟨rfl, rfl⟩ := H
                    go_wp2_with (first | (go_at_call 50; ((with_reducible refine (lower_any _ _).mono ?_); rintro e w' ⟨rfl, rfl⟩)))
                    go_ret2
                    exact ⟨rfl, hBB.out⟩
                  · rw [if_neg g1] at H
                    have g1' : d < base := by omega
                    clear g1
                    by_cases g2 : cut ≤ n
                    · rw [if_pos g2] at H

                      simp only [PR.stop.injEq] at H
                      obtain ⟨rfl, rfl⟩ := H
                      go_wp2_with (first | (go_at_call 50; ((with_reducible refine (lower_any _ _).mono ?_); rintro e w' ⟨rfl, rfl⟩)))
                      go_ret2
                      exact ⟨rfl, hBB.out⟩
                    · rw [if_neg g2] at H
                      have g2' : n < cut := by omega
                      clear g2
                      obtain ⟨p, hp⟩ : ∃ p, IntKind.u64.wrap (n * base) = p := ⟨_, rfl⟩
                      obtain ⟨q, hq⟩ : ∃ q, IntKind.u64.wrap (p + d) = q := ⟨_, rfl⟩
                      have pb := u64w_bd (n * base)
                      have qb := u64w_bd (p + d)
                      rw [hp] at pb
                      rw [hq] at qb
                      obtain ⟨pb0, pb1⟩ := pb
                      obtain ⟨qb0, qb1⟩ := qb
                      have qb2 : (18446744073709551615 < q) = False := eq_false (by omega)
                      simp only [pstep] at H
                      rw [hp, hq] at H
                      by_cases g3 : q < p
                      · rw [if_pos g3] at H
                        simp only at H

                        simp only [PR.stop.injEq] at H
                        obtain ⟨rfl, rfl⟩ := H
                        go_wp2_with (first | (go_at_call 50; ((with_reducible refine (lower_any _ _).mono ?_); rintro e w' ⟨rfl, rfl⟩)))
                        go_ret2
                        exact ⟨rfl, hBB.out⟩
                      · rw [if_neg g3] at H
                        simp only at H
                        have g3' : p ≤ q := by omega
                        clear g3
                        have H' := Aside0.mk H
                        clear H
                        go_wp2_with (first | (go_at_call 50; ((with_reducible refine (lower_any _ _).mono ?_); rintro e w' ⟨rfl, rfl⟩)))
                        go_roundg kk
                        case measure => omega
                        case rel => exact ⟨i + 1, us, q, rfl, rfl, by simp, ⟨by have := hk.out; omega⟩, by omega, by omega, H', ⟨rfl⟩⟩
              · rw [if_neg c97] at H
                simp only [PR.stop.injEq] at H
                obtain ⟨rfl, rfl⟩ := H
                have hnl : l < 97 ∨ 122 < l := by omega
                clear c97
                rcases hnd with hnd | hnd
                · rcases hnl with hnl | hnl
                  · go_wp2_with (first | (go_at_call 50; ((with_reducible refine (lower_any _ _).mono ?_); rintro e w' ⟨rfl, rfl⟩)))
                    go_ret2
                    exact ⟨rfl, hBB.out⟩
                  · go_wp2_with (first | (go_at_call 50; ((with_reducible refine (lower_any _ _).mono ?_); rintro e w' ⟨rfl, rfl⟩)))
                    go_ret2
                    exact ⟨rfl, hBB.out⟩
                · rcases hnl with hnl | hnl
                  · go_wp2_with (first | (go_at_call 50; ((with_reducible refine (lower_any _ _).mono ?_); rintro e w' ⟨rfl, rfl⟩)))
                    go_ret2
                    exact ⟨rfl, hBB.out⟩
                  · go_wp2_with (first | (go_at_call 50; ((with_reducible refine (lower_any _ _).mono ?_); rintro e w' ⟨rfl, rfl⟩)))
                    go_ret2
                    exact ⟨rfl, hBB.out⟩
end Go.Proofs.YtfkpbkjokapijaaGreatFmt.PQ
