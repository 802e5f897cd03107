/- atofHex ends; whether it tells a range error is a plain function of its arguments; for every mantissa below 2^64 (the cells of float64info as Go lays them). -/
import Derived.Test.YtfkpbkjokapijaaGreatFmtPQ0
import Derived.WalkSpells
import Derived.WalkLawsBesides
import Derived.Laws.BitsAllLaws
import Derived.LaidEqlPtr
namespace Go.Proofs.YtfkpbkjokapijaaGreatFmt.PQ
open Go.RowKit Go.Proofs.YtfkpbkjokapijaaGreatFmtW.PrintWords
set_option linter.unusedVariables false
set_option linter.unusedSimpArgs false

/-- What float64info holds. -/
structure Flt (w : World) : Prop where
  c0 : w.cell? ⟨6, 0, none⟩ = some (.int .u64 52)
  c1 : w.cell? ⟨6, 0 + 1, none⟩ = some (.int .u64 11)
  c2 : w.cell? ⟨6, 0 + 2, none⟩ = some (.int .i64 (-1023))
  h6 : ∃ c t, w.heap[6]? = some (.cells c t (0, 0))
  h4 : ∃ c t, w.heap[4]? = some (.cells c t (0, 0))

/-- The two tables lie apart. -/
theorem Flt.apart {w : World} (h : Flt w) (n : Nat) : (binOp .eql 112 (.pointer (some ⟨6, 0, none⟩)) (.pointer (some ⟨4, 0, none⟩))).run Tryz.prog (w.drewN n) = .ok (.bool false) (w.drewN n) := by
  obtain ⟨c6, t6, h6⟩ := h.h6
  obtain ⟨c4, t4, h4⟩ := h.h4
  obtain ⟨j, hj, hz⟩ : ∃ j, Tryz.prog.info? 114 = some j ∧ j.size ≠ 0 := by
    have := (show (Tryz.prog.info? 114).map (fun i => decide (i.size ≠ 0)) = some true by kernel_rfl)
    obtain ⟨j, hj, hz⟩ := Option.map_eq_some_iff.1 this
    exact ⟨j, hj, of_decide_eq_true hz⟩
  exact run_eql_ptr_other (w.drewN n) (te := 114) (j := j) (a := ⟨6, 0, none⟩) (b := ⟨4, 0, none⟩) Tryz.underlying112 hj hz (by simp) h6 h4

/-- The three loops, each as a plain function. -/
def hx1 : Nat → Int → Int → Option (Int × Int)
  | 0, _, _ => none
  | k + 1, m, e => if m ≠ 0 ∧ m < 18014398509481984 then hx1 k (m * 2) (wrap64 (e - 1)) else some (m, e)
def hx2 : Nat → Int → Int → Option (Int × Int)
  | 0, _, _ => none
  | k + 1, m, e => if 36028797018963968 ≤ m then hx2 k (Go.bits .or .u64 (m / 2) (Go.bits .and .u64 m 1)) (wrap64 (e + 1)) else some (m, e)
def hx3 : Nat → Int → Int → Option (Int × Int)
  | 0, _, _ => none
  | k + 1, m, e => if 1 < m ∧ e < -1024 then hx3 k (Go.bits .or .u64 (m / 2) (Go.bits .and .u64 m 1)) (wrap64 (e + 1)) else some (m, e)
/-- What is left behind the loops: is the number too great? -/
def hexErr (m e : Int) : Option Int :=
  if Go.bits .or .u64 (Go.bits .and .u64 m 3) (Go.bits .and .u64 (m / 4) 1) = 3 then
    (if m / 4 + 1 = 9007199254740992 then (if 1023 < wrap64 (wrap64 (e + 2) + 1) then some 1 else none)
     else if (m / 4 + 1) / 4503599627370496 = 0 then none else if 1023 < wrap64 (e + 2) then some 1 else none)
  else if m / 4 / 4503599627370496 = 0 then none else if 1023 < wrap64 (e + 2) then some 1 else none

theorem or_le (a b : Nat) (hb : b < 2) : a ||| b ≤ a + b := by
  have h1 : (a ||| b) / 2 = a / 2 := by rw [Nat.or_div_two]; simp [Nat.div_eq_of_lt hb]
  have h2 : (a ||| b) % 2 = 1 → a % 2 = 1 ∨ b % 2 = 1 := fun h => (Nat.or_mod_two_eq_one).1 h
  omega
theorem and_one (x : Int) (h0 : 0 ≤ x) (h1 : x < 18446744073709551616) : Go.bits .and .u64 x 1 = x % 2 := by
  rw [u64_and x 1 h0 h1 (by omega) (by omega)]
  have : x.toNat &&& (1 : Int).toNat = x.toNat % 2 := Nat.and_one_is_mod _
  rw [this]; omega
theorem half (x : Int) (h0 : 0 ≤ x) (h1 : x < 18446744073709551616) :
    0 ≤ Go.bits .or .u64 (x / 2) (Go.bits .and .u64 x 1) ∧ Go.bits .or .u64 (x / 2) (Go.bits .and .u64 x 1) ≤ x / 2 + x % 2 := by
  rw [and_one x h0 h1, u64_or (x / 2) (x % 2) (by omega) (by omega) (by omega) (by omega)]
  have := or_le (x / 2).toNat (x % 2).toNat (by omega)
  omega
theorem or_one (x : Int) (h0 : 0 ≤ x) (h1 : x < 18446744073709551616) : 0 ≤ Go.bits .or .u64 x 1 ∧ Go.bits .or .u64 x 1 < 18446744073709551616 := by
  rw [u64_or x 1 h0 h1 (by omega) (by omega)]
  have h2 : (x.toNat ||| (1 : Int).toNat) / 2 = x.toNat / 2 := by rw [Nat.or_div_two]; simp
  omega

theorem hx1_ends (d : Nat) : ∀ (m e : Int), 0 ≤ m → m < 18446744073709551616 → (18014398509481984 - m).toNat = d → ∃ k m' e', hx1 k m e = some (m', e') ∧ 0 ≤ m' ∧ m' < 18446744073709551616 := by
  induction d using Nat.strongRecOn with
  | _ d ih =>
    intro m e h0 h1 hd
    by_cases c : m ≠ 0 ∧ m < 18014398509481984
    · obtain ⟨k, m', e', hk, hm⟩ := ih (18014398509481984 - m * 2).toNat (by omega) (m * 2) (wrap64 (e - 1)) (by omega) (by omega) rfl
      exact ⟨k + 1, m', e', by rw [hx1, if_pos c]; exact hk, hm⟩
    · exact ⟨1, m, e, by rw [hx1, if_neg c], h0, h1⟩
theorem hx2_ends (d : Nat) : ∀ (m e : Int), 0 ≤ m → m < 18446744073709551616 → m.toNat = d → ∃ k m' e', hx2 k m e = some (m', e') ∧ 0 ≤ m' ∧ m' < 36028797018963968 := by
  induction d using Nat.strongRecOn with
  | _ d ih =>
    intro m e h0 h1 hd
    by_cases c : 36028797018963968 ≤ m
    · obtain ⟨g0, g1⟩ := half m h0 h1
      obtain ⟨k, m', e', hk, hm⟩ := ih (Go.bits .or .u64 (m / 2) (Go.bits .and .u64 m 1)).toNat (by omega) (Go.bits .or .u64 (m / 2) (Go.bits .and .u64 m 1)) (wrap64 (e + 1)) g0 (by omega) rfl
      exact ⟨k + 1, m', e', by rw [hx2, if_pos c]; exact hk, hm⟩
    · exact ⟨1, m, e, by rw [hx2, if_neg c], h0, by omega⟩
theorem hx3_ends (d : Nat) : ∀ (m e : Int), 0 ≤ m → m < 36028797018963968 → m.toNat = d → ∃ k m' e', hx3 k m e = some (m', e') ∧ 0 ≤ m' ∧ m' < 36028797018963968 := by
  induction d using Nat.strongRecOn with
  | _ d ih =>
    intro m e h0 h1 hd
    by_cases c : 1 < m ∧ e < -1024
    · obtain ⟨g0, g1⟩ := half m h0 (by omega)
      obtain ⟨k, m', e', hk, hm⟩ := ih (Go.bits .or .u64 (m / 2) (Go.bits .and .u64 m 1)).toNat (by omega) (Go.bits .or .u64 (m / 2) (Go.bits .and .u64 m 1)) (wrap64 (e + 1)) g0 (by omega) rfl
      exact ⟨k + 1, m', e', by rw [hx3, if_pos c]; exact hk, hm⟩
    · exact ⟨1, m, e, by rw [hx3, if_neg c], h0, h1⟩

set_option maxHeartbeats 8000000 in
set_option maxRecDepth 100000 in
theorem atofHex_false (t : ByteArray) (m e : Int) (neg : Bool) (h0 : 0 ≤ m) (h1 : m < 18446744073709551616) (k1 k2 k3 : Nat) (m1 e1 m2 e2 m3 e3 : Int)
    (H1 : hx1 k1 m (wrap64 (e + 52)) = some (m1, e1)) (hm0 : 0 ≤ m1) (hm1 : m1 < 18446744073709551616) 
    (H2 : hx2 k2 m1 e1 = some (m2, e2)) (h2a : 0 ≤ m2) (h2b : m2 < 36028797018963968)
    (H3 : hx3 k3 m2 e2 = some (m3, e3)) (h3a : 0 ≤ m3) (h3b : m3 < 36028797018963968) (w : World) (hw : Flt w) :
    Calls Tryz.prog 62 #[.string t, .pointer (some ⟨6, 0, none⟩), .int .u64 m, .int .i64 e, .bool neg, .bool false] w fun e w' => ∃ x n, e = .returned (.tuple #[.float .f64 x, errW (hexErr m3 e3)]) ∧ w' = w.drewN n := by
  have hap := hw.apart
  obtain ⟨c0, c1, c2, _, _⟩ := hw
  have H1' := Aside0.mk H1
  have H2' := Aside0.mk H2
  have H3' := Aside0.mk H3
  clear H1 H2 H3
  go_enter Tryz.func62, Tryz.ntmps62
  go_wp2
  go_quiet (fail)
  go_upto_block 0 with (fail)
  go_cut [2, 3] (fun a b wc => a = .int .u64 m1 ∧ b = .int .i64 e1 ∧ wc = w.drewN nq)
  case first => as_aux_lemma =>
    go_wp2
    go_loop [2, 3] (fun a b => ∃ (k : Nat) (x y : Int), a = .int .u64 x ∧ b = .int .i64 y ∧ 0 ≤ x ∧ x < 18446744073709551616 ∧ Aside0 (hx1 k x y = some (m1, e1))) (fun a _ => (18014398509481984 - intOf a).toNat)
    case atStart => exact ⟨k1, m, _, rfl, rfl, h0, h1, H1'⟩
    case round =>
      obtain ⟨k, x, y, rfl, rfl, hx0, hx1', H⟩ := hrel
      cases k with
      | zero => exact absurd H.out (by simp [hx1])
      | succ k =>
        have H0 := H.out
        clear H
        rw [hx1] at H0
        by_cases cz : x = 0
        · rw [if_neg (by omega)] at H0
          simp only [Option.some.injEq, Prod.mk.injEq] at H0
          obtain ⟨rfl, rfl⟩ := H0
          subst cz
          go_wp2
          go_meet
          case rel => exact ⟨rfl, rfl, rfl⟩
        · by_cases cl : x < 18014398509481984
          · rw [if_pos ⟨cz, cl⟩] at H0
            have H := Aside0.mk H0
            clear H0
            have b1 : (x != 0) = true := by simpa using cz
            have b2 : (x / 18014398509481984 == 0) = true := by simp; omega
            have cz' := Aside0.mk cz
            clear cz
            go_wp2
            go_round
            case rel => exact ⟨k, _, _, rfl, rfl, by omega, by omega, H⟩
            case measure => have := cz'.out; simp [intOf]; omega
          · rw [if_neg (by omega)] at H0
            simp only [Option.some.injEq, Prod.mk.injEq] at H0
            obtain ⟨rfl, rfl⟩ := H0
            have b1 : (x != 0) = true := by simpa using cz
            have b2 : (x / 18014398509481984 == 0) = false := by simp; omega
            clear cz
            go_wp2
            go_meet
            case rel => exact ⟨rfl, rfl, rfl⟩
  case rest => as_aux_lemma =>
    obtain ⟨rfl, rfl, rfl⟩ := hcut
    go_upto_block 2 with (fail)
    go_cut [2, 3] (fun a b wc => a = .int .u64 m2 ∧ b = .int .i64 e2 ∧ wc = w.drewN nq)
    case first => as_aux_lemma =>
      go_wp2
      go_loop [2, 3] (fun a b => ∃ (k : Nat) (x y : Int), a = .int .u64 x ∧ b = .int .i64 y ∧ 0 ≤ x ∧ x < 18446744073709551616 ∧ Aside0 (hx2 k x y = some (m2, e2))) (fun a _ => (intOf a).toNat)
      case atStart => exact ⟨k2, _, _, rfl, rfl, hm0, hm1, H2'⟩
      case round =>
        obtain ⟨k, x, y, rfl, rfl, hx0, hx1', H⟩ := hrel
        cases k with
        | zero => exact absurd H.out (by simp [hx2])
        | succ k =>
          have H0 := H.out
          clear H
          rw [hx2] at H0
          by_cases cl : 36028797018963968 ≤ x
          · rw [if_pos cl] at H0
            have H := Aside0.mk H0
            clear H0
            have b2 : (x / 36028797018963968 != 0) = true := by simp; omega
            have G := Aside0.mk (half x hx0 hx1')
            go_wp2
            go_round
            case rel => exact ⟨k, _, _, rfl, rfl, G.out.1, by have := G.out.2; omega, H⟩
            case measure => have := G.out; simp only [intOf]; simp; omega
          · rw [if_neg cl] at H0
            simp only [Option.some.injEq, Prod.mk.injEq] at H0
            obtain ⟨rfl, rfl⟩ := H0
            have b2 : (x / 36028797018963968 != 0) = false := by simp; omega
            go_wp2
            go_meet
            case rel => exact ⟨rfl, rfl, rfl⟩
    case rest => as_aux_lemma =>
      obtain ⟨rfl, rfl, rfl⟩ := hcut
      go_upto_block 4 with (fail)
      go_cut [2, 3] (fun a b wc => a = .int .u64 m3 ∧ b = .int .i64 e3 ∧ wc = w.drewN nq)
      case first => as_aux_lemma =>
        go_wp2
        go_loop [2, 3] (fun a b => ∃ (k : Nat) (x y : Int), a = .int .u64 x ∧ b = .int .i64 y ∧ 0 ≤ x ∧ x < 36028797018963968 ∧ Aside0 (hx3 k x y = some (m3, e3))) (fun a _ => (intOf a).toNat)
        case atStart => exact ⟨k3, m2, _, rfl, rfl, h2a, h2b, H3'⟩
        case round =>
          obtain ⟨k, x, y, rfl, rfl, hx0, hx1', H⟩ := hrel
          cases k with
          | zero => exact absurd H.out (by simp [hx3])
          | succ k =>
            have H0 := H.out
            clear H
            rw [hx3] at H0
            by_cases c1' : 1 < x
            · by_cases c2' : y < -1024
              · rw [if_pos ⟨c1', c2'⟩] at H0
                have H := Aside0.mk H0
                clear H0
                have G := Aside0.mk (half x hx0 (by omega))
                have d1 : decide (1 < x) = true := decide_eq_true c1'
                have d2 : decide (y < -1024) = true := decide_eq_true c2'
                go_wp2
                go_round
                case rel => exact ⟨k, _, _, rfl, rfl, G.out.1, by have := G.out.2; omega, H⟩
                case measure => have := G.out; simp only [intOf]; simp; omega
              · rw [if_neg (by omega)] at H0
                simp only [Option.some.injEq, Prod.mk.injEq] at H0
                obtain ⟨rfl, rfl⟩ := H0
                have d1 : decide (1 < x) = true := decide_eq_true c1'
                have d2 : decide (y < -1024) = false := decide_eq_false c2'
                go_wp2
                go_meet
                case rel => exact ⟨rfl, rfl, rfl⟩
            · rw [if_neg (by omega)] at H0
              simp only [Option.some.injEq, Prod.mk.injEq] at H0
              obtain ⟨rfl, rfl⟩ := H0
              have d1 : decide (1 < x) = false := decide_eq_false c1'
              go_wp2
              go_meet
              case rel => exact ⟨rfl, rfl, rfl⟩
      case rest => as_aux_lemma =>
        obtain ⟨rfl, rfl, rfl⟩ := hcut
        by_cases r : Go.bits .or .u64 (Go.bits .and .u64 m3 3) (Go.bits .and .u64 (m3 / 4) 1) = 3
        · have rb0 : (Go.bits .or .u64 (Go.bits .and .u64 m3 3) (Go.bits .and .u64 (m3 / 4) 1) == 3) = true := beq_iff_eq.mpr r
          have r' := Aside0.mk r
          clear r
          by_cases s : m3 / 4 + 1 = 9007199254740992
          · have sb0 : (m3 / 4 + 1 == 9007199254740992) = true := beq_iff_eq.mpr s
            have s' := Aside0.mk s
            clear s
            have b3 : ((m3 / 4 + 1) / 2 / 4503599627370496 == 0) = false := beq_eq_false_iff_ne.mpr (by have := s'.out; omega)
            by_cases u : 1023 < wrap64 (wrap64 (e3 + 2) + 1)
            · have u' := Aside0.mk u
              cases neg
              · go_wp2
                go_quiet (fail)
                go_wp2
                go_ret2
                exact ⟨_, _, by rw [show hexErr m3 e3 = _ by unfold hexErr; rw [if_pos r'.out, if_pos s'.out, if_pos u'.out]]; rfl, rfl⟩
              · go_wp2
                go_quiet (fail)
                go_wp2
                go_quiet (fail)
                go_wp2
                go_ret2
                exact ⟨_, _, by rw [show hexErr m3 e3 = _ by unfold hexErr; rw [if_pos r'.out, if_pos s'.out, if_pos u'.out]]; rfl, rfl⟩
            · have u' := Aside0.mk u
              cases neg
              · go_wp2
                go_quiet (fail)
                go_wp2
                go_ret2
                exact ⟨_, _, by rw [show hexErr m3 e3 = _ by unfold hexErr; rw [if_pos r'.out, if_pos s'.out, if_neg (by have := u'.out; omega)]]; rfl, rfl⟩
              · go_wp2
                go_quiet (fail)
                go_wp2
                go_quiet (fail)
                go_wp2
                go_ret2
                exact ⟨_, _, by rw [show hexErr m3 e3 = _ by unfold hexErr; rw [if_pos r'.out, if_pos s'.out, if_neg (by have := u'.out; omega)]]; rfl, rfl⟩
          · have sb0 : (m3 / 4 + 1 == 9007199254740992) = false := beq_eq_false_iff_ne.mpr s
            have s' := Aside0.mk s
            clear s
            by_cases v : (m3 / 4 + 1) / 4503599627370496 = 0
            · have vb0 : ((m3 / 4 + 1) / 4503599627370496 == 0) = true := beq_iff_eq.mpr v
              have v' := Aside0.mk v
              clear v
              cases neg
              · go_wp2
                go_quiet (fail)
                go_wp2
                go_ret2
                exact ⟨_, _, by rw [show hexErr m3 e3 = _ by unfold hexErr; rw [if_pos r'.out, if_neg s'.out, if_pos v'.out]]; rfl, rfl⟩
              · go_wp2
                go_quiet (fail)
                go_wp2
                go_quiet (fail)
                go_wp2
                go_ret2
                exact ⟨_, _, by rw [show hexErr m3 e3 = _ by unfold hexErr; rw [if_pos r'.out, if_neg s'.out, if_pos v'.out]]; rfl, rfl⟩
            · have vb0 : ((m3 / 4 + 1) / 4503599627370496 == 0) = false := beq_eq_false_iff_ne.mpr v
              have v' := Aside0.mk v
              clear v
              by_cases u : 1023 < wrap64 (e3 + 2)
              · have u' := Aside0.mk u
                cases neg
                · go_wp2
                  go_quiet (fail)
                  go_wp2
                  go_ret2
                  exact ⟨_, _, by rw [show hexErr m3 e3 = _ by unfold hexErr; rw [if_pos r'.out, if_neg s'.out, if_neg v'.out, if_pos u'.out]]; rfl, rfl⟩
                · go_wp2
                  go_quiet (fail)
                  go_wp2
                  go_quiet (fail)
                  go_wp2
                  go_ret2
                  exact ⟨_, _, by rw [show hexErr m3 e3 = _ by unfold hexErr; rw [if_pos r'.out, if_neg s'.out, if_neg v'.out, if_pos u'.out]]; rfl, rfl⟩
              · have u' := Aside0.mk u
                cases neg
                · go_wp2
                  go_quiet (fail)
                  go_wp2
                  go_ret2
                  exact ⟨_, _, by rw [show hexErr m3 e3 = _ by unfold hexErr; rw [if_pos r'.out, if_neg s'.out, if_neg v'.out, if_neg (by have := u'.out; omega)]]; rfl, rfl⟩
                · go_wp2
                  go_quiet (fail)
                  go_wp2
                  go_quiet (fail)
                  go_wp2
                  go_ret2
                  exact ⟨_, _, by rw [show hexErr m3 e3 = _ by unfold hexErr; rw [if_pos r'.out, if_neg s'.out, if_neg v'.out, if_neg (by have := u'.out; omega)]]; rfl, rfl⟩
        · have rb0 : (Go.bits .or .u64 (Go.bits .and .u64 m3 3) (Go.bits .and .u64 (m3 / 4) 1) == 3) = false := beq_eq_false_iff_ne.mpr r
          have r' := Aside0.mk r
          clear r
          by_cases v : m3 / 4 / 4503599627370496 = 0
          · have vb0 : (m3 / 4 / 4503599627370496 == 0) = true := beq_iff_eq.mpr v
            have v' := Aside0.mk v
            clear v
            cases neg
            · go_wp2
              go_quiet (fail)
              go_wp2
              go_ret2
              exact ⟨_, _, by rw [show hexErr m3 e3 = _ by unfold hexErr; rw [if_neg r'.out, if_pos v'.out]]; rfl, rfl⟩
            · go_wp2
              go_quiet (fail)
              go_wp2
              go_quiet (fail)
              go_wp2
              go_ret2
              exact ⟨_, _, by rw [show hexErr m3 e3 = _ by unfold hexErr; rw [if_neg r'.out, if_pos v'.out]]; rfl, rfl⟩
          · have vb0 : (m3 / 4 / 4503599627370496 == 0) = false := beq_eq_false_iff_ne.mpr v
            have v' := Aside0.mk v
            clear v
            by_cases u : 1023 < wrap64 (e3 + 2)
            · have u' := Aside0.mk u
              cases neg
              · go_wp2
                go_quiet (fail)
                go_wp2
                go_ret2
                exact ⟨_, _, by rw [show hexErr m3 e3 = _ by unfold hexErr; rw [if_neg r'.out, if_neg v'.out, if_pos u'.out]]; rfl, rfl⟩
              · go_wp2
                go_quiet (fail)
                go_wp2
                go_quiet (fail)
                go_wp2
                go_ret2
                exact ⟨_, _, by rw [show hexErr m3 e3 = _ by unfold hexErr; rw [if_neg r'.out, if_neg v'.out, if_pos u'.out]]; rfl, rfl⟩
            · have u' := Aside0.mk u
              cases neg
              · go_wp2
                go_quiet (fail)
                go_wp2
                go_ret2
                exact ⟨_, _, by rw [show hexErr m3 e3 = _ by unfold hexErr; rw [if_neg r'.out, if_neg v'.out, if_neg (by have := u'.out; omega)]]; rfl, rfl⟩
              · go_wp2
                go_quiet (fail)
                go_wp2
                go_quiet (fail)
                go_wp2
                go_ret2
                exact ⟨_, _, by rw [show hexErr m3 e3 = _ by unfold hexErr; rw [if_neg r'.out, if_neg v'.out, if_neg (by have := u'.out; omega)]]; rfl, rfl⟩

set_option maxHeartbeats 8000000 in
set_option maxRecDepth 100000 in
theorem atofHex_true (t : ByteArray) (m e : Int) (neg : Bool) (h0 : 0 ≤ m) (h1 : m < 18446744073709551616) (k1 k2 k3 : Nat) (m1 e1 m2 e2 m3 e3 : Int)
    (H1 : hx1 k1 m (wrap64 (e + 52)) = some (m1, e1)) (hm0 : 0 ≤ m1) (hm1 : m1 < 18446744073709551616) (hn0 : 0 ≤ Go.bits .or .u64 m1 1) (hn1 : Go.bits .or .u64 m1 1 < 18446744073709551616)
    (H2 : hx2 k2 (Go.bits .or .u64 m1 1) e1 = some (m2, e2)) (h2a : 0 ≤ m2) (h2b : m2 < 36028797018963968)
    (H3 : hx3 k3 m2 e2 = some (m3, e3)) (h3a : 0 ≤ m3) (h3b : m3 < 36028797018963968) (w : World) (hw : Flt w) :
    Calls Tryz.prog 62 #[.string t, .pointer (some ⟨6, 0, none⟩), .int .u64 m, .int .i64 e, .bool neg, .bool true] w fun e w' => ∃ x n, e = .returned (.tuple #[.float .f64 x, errW (hexErr m3 e3)]) ∧ w' = w.drewN n := by
  have hap := hw.apart
  obtain ⟨c0, c1, c2, _, _⟩ := hw
  have H1' := Aside0.mk H1
  have H2' := Aside0.mk H2
  have H3' := Aside0.mk H3
  clear H1 H2 H3
  go_enter Tryz.func62, Tryz.ntmps62
  go_wp2
  go_quiet (fail)
  go_upto_block 0 with (fail)
  go_cut [2, 3] (fun a b wc => a = .int .u64 m1 ∧ b = .int .i64 e1 ∧ wc = w.drewN nq)
  case first => as_aux_lemma =>
    go_wp2
    go_loop [2, 3] (fun a b => ∃ (k : Nat) (x y : Int), a = .int .u64 x ∧ b = .int .i64 y ∧ 0 ≤ x ∧ x < 18446744073709551616 ∧ Aside0 (hx1 k x y = some (m1, e1))) (fun a _ => (18014398509481984 - intOf a).toNat)
    case atStart => exact ⟨k1, m, _, rfl, rfl, h0, h1, H1'⟩
    case round =>
      obtain ⟨k, x, y, rfl, rfl, hx0, hx1', H⟩ := hrel
      cases k with
      | zero => exact absurd H.out (by simp [hx1])
      | succ k =>
        have H0 := H.out
        clear H
        rw [hx1] at H0
        by_cases cz : x = 0
        · rw [if_neg (by omega)] at H0
          simp only [Option.some.injEq, Prod.mk.injEq] at H0
          obtain ⟨rfl, rfl⟩ := H0
          subst cz
          go_wp2
          go_meet
          case rel => exact ⟨rfl, rfl, rfl⟩
        · by_cases cl : x < 18014398509481984
          · rw [if_pos ⟨cz, cl⟩] at H0
            have H := Aside0.mk H0
            clear H0
            have b1 : (x != 0) = true := by simpa using cz
            have b2 : (x / 18014398509481984 == 0) = true := by simp; omega
            have cz' := Aside0.mk cz
            clear cz
            go_wp2
            go_round
            case rel => exact ⟨k, _, _, rfl, rfl, by omega, by omega, H⟩
            case measure => have := cz'.out; simp [intOf]; omega
          · rw [if_neg (by omega)] at H0
            simp only [Option.some.injEq, Prod.mk.injEq] at H0
            obtain ⟨rfl, rfl⟩ := H0
            have b1 : (x != 0) = true := by simpa using cz
            have b2 : (x / 18014398509481984 == 0) = false := by simp; omega
            clear cz
            go_wp2
            go_meet
            case rel => exact ⟨rfl, rfl, rfl⟩
  case rest => as_aux_lemma =>
    obtain ⟨rfl, rfl, rfl⟩ := hcut
    go_upto_block 2 with (fail)
    go_cut [2, 3] (fun a b wc => a = .int .u64 m2 ∧ b = .int .i64 e2 ∧ wc = w.drewN nq)
    case first => as_aux_lemma =>
      go_wp2
      go_loop [2, 3] (fun a b => ∃ (k : Nat) (x y : Int), a = .int .u64 x ∧ b = .int .i64 y ∧ 0 ≤ x ∧ x < 18446744073709551616 ∧ Aside0 (hx2 k x y = some (m2, e2))) (fun a _ => (intOf a).toNat)
      case atStart => exact ⟨k2, _, _, rfl, rfl, hn0, hn1, H2'⟩
      case round =>
        obtain ⟨k, x, y, rfl, rfl, hx0, hx1', H⟩ := hrel
        cases k with
        | zero => exact absurd H.out (by simp [hx2])
        | succ k =>
          have H0 := H.out
          clear H
          rw [hx2] at H0
          by_cases cl : 36028797018963968 ≤ x
          · rw [if_pos cl] at H0
            have H := Aside0.mk H0
            clear H0
            have b2 : (x / 36028797018963968 != 0) = true := by simp; omega
            have G := Aside0.mk (half x hx0 hx1')
            go_wp2
            go_round
            case rel => exact ⟨k, _, _, rfl, rfl, G.out.1, by have := G.out.2; omega, H⟩
            case measure => have := G.out; simp only [intOf]; simp; omega
          · rw [if_neg cl] at H0
            simp only [Option.some.injEq, Prod.mk.injEq] at H0
            obtain ⟨rfl, rfl⟩ := H0
            have b2 : (x / 36028797018963968 != 0) = false := by simp; omega
            go_wp2
            go_meet
            case rel => exact ⟨rfl, rfl, rfl⟩
    case rest => as_aux_lemma =>
      obtain ⟨rfl, rfl, rfl⟩ := hcut
      go_upto_block 4 with (fail)
      go_cut [2, 3] (fun a b wc => a = .int .u64 m3 ∧ b = .int .i64 e3 ∧ wc = w.drewN nq)
      case first => as_aux_lemma =>
        go_wp2
        go_loop [2, 3] (fun a b => ∃ (k : Nat) (x y : Int), a = .int .u64 x ∧ b = .int .i64 y ∧ 0 ≤ x ∧ x < 36028797018963968 ∧ Aside0 (hx3 k x y = some (m3, e3))) (fun a _ => (intOf a).toNat)
        case atStart => exact ⟨k3, m2, _, rfl, rfl, h2a, h2b, H3'⟩
        case round =>
          obtain ⟨k, x, y, rfl, rfl, hx0, hx1', H⟩ := hrel
          cases k with
          | zero => exact absurd H.out (by simp [hx3])
          | succ k =>
            have H0 := H.out
            clear H
            rw [hx3] at H0
            by_cases c1' : 1 < x
            · by_cases c2' : y < -1024
              · rw [if_pos ⟨c1', c2'⟩] at H0
                have H := Aside0.mk H0
                clear H0
                have G := Aside0.mk (half x hx0 (by omega))
                have d1 : decide (1 < x) = true := decide_eq_true c1'
                have d2 : decide (y < -1024) = true := decide_eq_true c2'
                go_wp2
                go_round
                case rel => exact ⟨k, _, _, rfl, rfl, G.out.1, by have := G.out.2; omega, H⟩
                case measure => have := G.out; simp only [intOf]; simp; omega
              · rw [if_neg (by omega)] at H0
                simp only [Option.some.injEq, Prod.mk.injEq] at H0
                obtain ⟨rfl, rfl⟩ := H0
                have d1 : decide (1 < x) = true := decide_eq_true c1'
                have d2 : decide (y < -1024) = false := decide_eq_false c2'
                go_wp2
                go_meet
                case rel => exact ⟨rfl, rfl, rfl⟩
            · rw [if_neg (by omega)] at H0
              simp only [Option.some.injEq, Prod.mk.injEq] at H0
              obtain ⟨rfl, rfl⟩ := H0
              have d1 : decide (1 < x) = false := decide_eq_false c1'
              go_wp2
              go_meet
              case rel => exact ⟨rfl, rfl, rfl⟩
      case rest => as_aux_lemma =>
        obtain ⟨rfl, rfl, rfl⟩ := hcut
        by_cases r : Go.bits .or .u64 (Go.bits .and .u64 m3 3) (Go.bits .and .u64 (m3 / 4) 1) = 3
        · have rb0 : (Go.bits .or .u64 (Go.bits .and .u64 m3 3) (Go.bits .and .u64 (m3 / 4) 1) == 3) = true := beq_iff_eq.mpr r
          have r' := Aside0.mk r
          clear r
          by_cases s : m3 / 4 + 1 = 9007199254740992
          · have sb0 : (m3 / 4 + 1 == 9007199254740992) = true := beq_iff_eq.mpr s
            have s' := Aside0.mk s
            clear s
            have b3 : ((m3 / 4 + 1) / 2 / 4503599627370496 == 0) = false := beq_eq_false_iff_ne.mpr (by have := s'.out; omega)
            by_cases u : 1023 < wrap64 (wrap64 (e3 + 2) + 1)
            · have u' := Aside0.mk u
              cases neg
              · go_wp2
                go_quiet (fail)
                go_wp2
                go_ret2
                exact ⟨_, _, by rw [show hexErr m3 e3 = _ by unfold hexErr; rw [if_pos r'.out, if_pos s'.out, if_pos u'.out]]; rfl, rfl⟩
              · go_wp2
                go_quiet (fail)
                go_wp2
                go_quiet (fail)
                go_wp2
                go_ret2
                exact ⟨_, _, by rw [show hexErr m3 e3 = _ by unfold hexErr; rw [if_pos r'.out, if_pos s'.out, if_pos u'.out]]; rfl, rfl⟩
            · have u' := Aside0.mk u
              cases neg
              · go_wp2
                go_quiet (fail)
                go_wp2
                go_ret2
                exact ⟨_, _, by rw [show hexErr m3 e3 = _ by unfold hexErr; rw [if_pos r'.out, if_pos s'.out, if_neg (by have := u'.out; omega)]]; rfl, rfl⟩
              · go_wp2
                go_quiet (fail)
                go_wp2
                go_quiet (fail)
                go_wp2
                go_ret2
                exact ⟨_, _, by rw [show hexErr m3 e3 = _ by unfold hexErr; rw [if_pos r'.out, if_pos s'.out, if_neg (by have := u'.out; omega)]]; rfl, rfl⟩
          · have sb0 : (m3 / 4 + 1 == 9007199254740992) = false := beq_eq_false_iff_ne.mpr s
            have s' := Aside0.mk s
            clear s
            by_cases v : (m3 / 4 + 1) / 4503599627370496 = 0
            · have vb0 : ((m3 / 4 + 1) / 4503599627370496 == 0) = true := beq_iff_eq.mpr v
              have v' := Aside0.mk v
              clear v
              cases neg
              · go_wp2
                go_quiet (fail)
                go_wp2
                go_ret2
                exact ⟨_, _, by rw [show hexErr m3 e3 = _ by unfold hexErr; rw [if_pos r'.out, if_neg s'.out, if_pos v'.out]]; rfl, rfl⟩
              · go_wp2
                go_quiet (fail)
                go_wp2
                go_quiet (fail)
                go_wp2
                go_ret2
                exact ⟨_, _, by rw [show hexErr m3 e3 = _ by unfold hexErr; rw [if_pos r'.out, if_neg s'.out, if_pos v'.out]]; rfl, rfl⟩
            · have vb0 : ((m3 / 4 + 1) / 4503599627370496 == 0) = false := beq_eq_false_iff_ne.mpr v
              have v' := Aside0.mk v
              clear v
              by_cases u : 1023 < wrap64 (e3 + 2)
              · have u' := Aside0.mk u
                cases neg
                · go_wp2
                  go_quiet (fail)
                  go_wp2
                  go_ret2
                  exact ⟨_, _, by rw [show hexErr m3 e3 = _ by unfold hexErr; rw [if_pos r'.out, if_neg s'.out, if_neg v'.out, if_pos u'.out]]; rfl, rfl⟩
                · go_wp2
                  go_quiet (fail)
                  go_wp2
                  go_quiet (fail)
                  go_wp2
                  go_ret2
                  exact ⟨_, _, by rw [show hexErr m3 e3 = _ by unfold hexErr; rw [if_pos r'.out, if_neg s'.out, if_neg v'.out, if_pos u'.out]]; rfl, rfl⟩
              · have u' := Aside0.mk u
                cases neg
                · go_wp2
                  go_quiet (fail)
                  go_wp2
                  go_ret2
                  exact ⟨_, _, by rw [show hexErr m3 e3 = _ by unfold hexErr; rw [if_pos r'.out, if_neg s'.out, if_neg v'.out, if_neg (by have := u'.out; omega)]]; rfl, rfl⟩
                · go_wp2
                  go_quiet (fail)
                  go_wp2
                  go_quiet (fail)
                  go_wp2
                  go_ret2
                  exact ⟨_, _, by rw [show hexErr m3 e3 = _ by unfold hexErr; rw [if_pos r'.out, if_neg s'.out, if_neg v'.out, if_neg (by have := u'.out; omega)]]; rfl, rfl⟩
        · have rb0 : (Go.bits .or .u64 (Go.bits .and .u64 m3 3) (Go.bits .and .u64 (m3 / 4) 1) == 3) = false := beq_eq_false_iff_ne.mpr r
          have r' := Aside0.mk r
          clear r
          by_cases v : m3 / 4 / 4503599627370496 = 0
          · have vb0 : (m3 / 4 / 4503599627370496 == 0) = true := beq_iff_eq.mpr v
            have v' := Aside0.mk v
            clear v
            cases neg
            · go_wp2
              go_quiet (fail)
              go_wp2
              go_ret2
              exact ⟨_, _, by rw [show hexErr m3 e3 = _ by unfold hexErr; rw [if_neg r'.out, if_pos v'.out]]; rfl, rfl⟩
            · go_wp2
              go_quiet (fail)
              go_wp2
              go_quiet (fail)
              go_wp2
              go_ret2
              exact ⟨_, _, by rw [show hexErr m3 e3 = _ by unfold hexErr; rw [if_neg r'.out, if_pos v'.out]]; rfl, rfl⟩
          · have vb0 : (m3 / 4 / 4503599627370496 == 0) = false := beq_eq_false_iff_ne.mpr v
            have v' := Aside0.mk v
            clear v
            by_cases u : 1023 < wrap64 (e3 + 2)
            · have u' := Aside0.mk u
              cases neg
              · go_wp2
                go_quiet (fail)
                go_wp2
                go_ret2
                exact ⟨_, _, by rw [show hexErr m3 e3 = _ by unfold hexErr; rw [if_neg r'.out, if_neg v'.out, if_pos u'.out]]; rfl, rfl⟩
              · go_wp2
                go_quiet (fail)
                go_wp2
                go_quiet (fail)
                go_wp2
                go_ret2
                exact ⟨_, _, by rw [show hexErr m3 e3 = _ by unfold hexErr; rw [if_neg r'.out, if_neg v'.out, if_pos u'.out]]; rfl, rfl⟩
            · have u' := Aside0.mk u
              cases neg
              · go_wp2
                go_quiet (fail)
                go_wp2
                go_ret2
                exact ⟨_, _, by rw [show hexErr m3 e3 = _ by unfold hexErr; rw [if_neg r'.out, if_neg v'.out, if_neg (by have := u'.out; omega)]]; rfl, rfl⟩
              · go_wp2
                go_quiet (fail)
                go_wp2
                go_quiet (fail)
                go_wp2
                go_ret2
                exact ⟨_, _, by rw [show hexErr m3 e3 = _ by unfold hexErr; rw [if_neg r'.out, if_neg v'.out, if_neg (by have := u'.out; omega)]]; rfl, rfl⟩

theorem atofHex_any (t : ByteArray) (m e : Int) (neg tr : Bool) (h0 : 0 ≤ m) (h1 : m < 18446744073709551616) : ∃ er, ∀ w : World, Flt w →
    Calls Tryz.prog 62 #[.string t, .pointer (some ⟨6, 0, none⟩), .int .u64 m, .int .i64 e, .bool neg, .bool tr] w fun e w' => ∃ x n, e = .returned (.tuple #[.float .f64 x, errW er]) ∧ w' = w.drewN n := by
  obtain ⟨k1, m1, e1, H1, a0, a1⟩ := hx1_ends _ m (wrap64 (e + 52)) h0 h1 rfl
  obtain ⟨n0, n1⟩ := or_one m1 a0 a1
  cases tr with
  | false =>
    obtain ⟨k2, m2, e2, H2, b0, b1⟩ := hx2_ends _ m1 e1 a0 a1 rfl
    obtain ⟨k3, m3, e3, H3, c0, c1⟩ := hx3_ends _ m2 e2 b0 b1 rfl
    exact ⟨_, fun w hw => atofHex_false t m e neg h0 h1 k1 k2 k3 m1 e1 m2 e2 m3 e3 H1 a0 a1 H2 b0 b1 H3 c0 c1 w hw⟩
  | true =>
    obtain ⟨k2, m2, e2, H2, b0, b1⟩ := hx2_ends _ (Go.bits .or .u64 m1 1) e1 n0 n1 rfl
    obtain ⟨k3, m3, e3, H3, c0, c1⟩ := hx3_ends _ m2 e2 b0 b1 rfl
    exact ⟨_, fun w hw => atofHex_true t m e neg h0 h1 k1 k2 k3 m1 e1 m2 e2 m3 e3 H1 a0 a1 n0 n1 H2 b0 b1 H3 c0 c1 w hw⟩

end Go.Proofs.YtfkpbkjokapijaaGreatFmt.PQ
