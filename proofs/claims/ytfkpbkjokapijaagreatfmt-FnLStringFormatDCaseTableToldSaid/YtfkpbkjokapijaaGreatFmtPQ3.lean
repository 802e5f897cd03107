/- Contracts of commonPrefixLenIgnoreCase, inf, nan and special. -/
import Derived.Test.YtfkpbkjokapijaaGreatFmtPQ0
namespace Go.Proofs.YtfkpbkjokapijaaGreatFmt.PQ
open Go.RowKit Go.Proofs.YtfkpbkjokapijaaGreatFmtW.PrintWords Go.Proofs.YtfkpbkjokapijaaGreatFmtW.PrintLast Go.Proofs.YtfkpbkjokapijaaGreatFmtW.PrintMore
attribute [local go_sem] max2_int min2_int max_two min_two max_three min_three max_four min_four
set_option linter.unusedVariables false
set_option linter.unusedSimpArgs false

/-- The smaller of two numbers. -/
def mn (a b : Int) : Int := if b < a then b else a
/-! ### strconv_commonPrefixLenIgnoreCase: function 76 -/
mutual
def strconv_commonPrefixLenIgnoreCase.l0 : Nat → ByteArray → ByteArray → Int → Int → Option (Int)
  | 0, _, _, _, _ => none
  | k + 1, x0, x1, x5, x6 => if x6 < x5 then (if 0 ≤ x6 then (if x6 < (x0.size : Int) then (if 65 ≤ (bt x0 x6) then (strconv_commonPrefixLenIgnoreCase.j1 k x0 x1 x5 x6 (bt x0 x6) (decide ((bt x0 x6) ≤ 90))) else (strconv_commonPrefixLenIgnoreCase.j1 k x0 x1 x5 x6 (bt x0 x6) false)) else (none)) else (none)) else (some x5)
def strconv_commonPrefixLenIgnoreCase.j1 : Nat → ByteArray → ByteArray → Int → Int → Int → Bool → Option (Int)
  | 0, _, _, _, _, _, _ => none
  | k + 1, x0, x1, x5, x6, x7, x26 => if x26 = true then (if 0 ≤ x6 then (if x6 < (x1.size : Int) then (if ((x7 + 32) % 256) = (bt x1 x6) then (strconv_commonPrefixLenIgnoreCase.l0 k x0 x1 x5 (wrap64 (x6 + 1))) else (some x6)) else (none)) else (none)) else (if 0 ≤ x6 then (if x6 < (x1.size : Int) then (if x7 = (bt x1 x6) then (strconv_commonPrefixLenIgnoreCase.l0 k x0 x1 x5 (wrap64 (x6 + 1))) else (some x6)) else (none)) else (none))
end
def strconv_commonPrefixLenIgnoreCase.f (k : Nat) (a0 : ByteArray) (a1 : ByteArray) : Option (Int) := strconv_commonPrefixLenIgnoreCase.l0 k a0 a1 (mn (a1.size : Int) (a0.size : Int)) 0
set_option maxHeartbeats 8000000 in
set_option maxRecDepth 100000 in
theorem strconv_commonPrefixLenIgnoreCase.calls (k : Nat) (a0 : ByteArray) (a1 : ByteArray) (r : Int) (w : World) (h : strconv_commonPrefixLenIgnoreCase.f k a0 a1 = some r) :
    Calls Tryz.prog 76 #[.string a0, .string a1] w fun e w' => e = .returned (.int .i64 r) ∧ Below w.heap.size w w' := by
  have HB := Aside0.mk (Below.refl w.heap.size w)
  have H : (strconv_commonPrefixLenIgnoreCase.l0 k a0 a1 (mn (a1.size : Int) (a0.size : Int)) 0) = some r := h
  clear h
  obtain ⟨ji3, hji3⟩ : ∃ j_ : Int, (mn (a1.size : Int) (a0.size : Int)) = j_ := ⟨_, rfl⟩
  replace H : (strconv_commonPrefixLenIgnoreCase.l0 k a0 a1 ji3 0) = some r := by first | (rw [hji3] at H; exact H) | (simp only [hji3] at H ⊢; exact H)
  (try (have hji3l : 0 ≤ ji3 := by (rw [← hji3]; unfold mn; (repeat' split) <;> omega)))
  (try (have hji3m : 0 ≤ ji3 := by omega))
  have hji3_ : (if (a0.size : Int) < (a1.size : Int) then (a0.size : Int) else (a1.size : Int)) = ji3 := hji3
  have hji3n : (if a0.size < a1.size then (a0.size : Int) else (a1.size : Int)) = ji3 := by rw [← hji3]; unfold mn; by_cases hq : a0.size < a1.size <;> simp [hq]
  have H' := Aside0.mk H
  clear H
  go_enter Tryz.func76, Tryz.ntmps76
  go_wp2
  go_loopg [6] k (fun kq v6 w' => ∃ (x6_1 : Int), v6 = .int .i64 x6_1 ∧ Aside0 (strconv_commonPrefixLenIgnoreCase.l0 kq a0 a1 ji3 x6_1 = some r) ∧ Aside0 (kq ≤ k) ∧ Aside0 (Below w.heap.size w w'))
  case atStart => exact ⟨(0), (by first | rfl | (simp; done) | (simp [*]; done)), H', ⟨Nat.le_refl _⟩, ⟨by repeat (first | (with_reducible first | exact HB.out | apply below_alloc | apply pw_below_drewN | apply below_drew1) | exact HB.out)⟩⟩
  case round =>
    clear H'
    try clear p2
    obtain ⟨x6_1, rfl, HA, HK1, HB⟩ := hrel
    cases gk with
    | zero => exact absurd HA.out (by simp [strconv_commonPrefixLenIgnoreCase.l0])
    | succ k1 =>
      have H := HA.out
      clear HA
      simp only [strconv_commonPrefixLenIgnoreCase.l0] at H
      by_cases c4 : x6_1 < ji3
      · rw [if_pos c4] at H
        have c4b0 : decide (x6_1 < ji3) = true := decide_eq_true c4
        clear c4
        by_cases c5 : 0 ≤ x6_1
        · rw [if_pos c5] at H
          have c5b0 : decide (0 ≤ x6_1) = true := decide_eq_true c5
          clear c5
          by_cases c6 : x6_1 < (a0.size : Int)
          · rw [if_pos c6] at H
            have c6b0 : decide (x6_1 < (a0.size : Int)) = true := decide_eq_true c6
            clear c6
            have HC8 := Aside0.mk H
            clear H
            have p7 : 0 ≤ (x6_1 : Int) := of_decide_eq_true (by first | (with_reducible assumption) | assumption)
            have q7 : x6_1 < (a0.size : Int) := of_decide_eq_true (by first | (with_reducible assumption) | assumption)
            have hx7 := bt_at a0 x6_1
            replace p7 := eq_true p7
            replace q7 := eq_true q7
            go_upto_region 6 with (fail)
            go_cut [26] (fun v26 wc => ∃ (kq : Nat) (x26_7 : Bool), v26 = .bool x26_7 ∧ Aside0 (strconv_commonPrefixLenIgnoreCase.j1 kq a0 a1 ji3 x6_1 (bt a0 x6_1) x26_7 = some r) ∧ Aside0 (kq ≤ k1) ∧ Aside0 (Below w.heap.size w wc))
            case first =>
              have H := HC8.out
              clear HC8
              by_cases c9 : 65 ≤ (bt a0 x6_1)
              · rw [if_pos c9] at H
                have c9b0 : decide (65 ≤ (bt a0 x6_1)) = true := decide_eq_true c9
                clear c9
                (first | rw [c9b0] | (simp only [i64_w, i32_w]; rw [c9b0]) | skip)
                have H' := Aside0.mk H
                clear H
                go_wp2
                go_meet
                case rel => exact ⟨_, (decide ((bt a0 x6_1) ≤ 90)), (by first | rfl | (simp; done) | (simp [*]; done)), H', ⟨by have := HK1.out; first | omega | exact Nat.le_refl _⟩, ⟨by repeat (first | (with_reducible first | exact HB.out | apply below_alloc | apply pw_below_drewN | apply below_drew1) | exact HB.out)⟩⟩
              · rw [if_neg c9] at H
                have c9b0 : decide (65 ≤ (bt a0 x6_1)) = false := decide_eq_false c9
                clear c9
                (first | rw [c9b0] | (simp only [i64_w, i32_w]; rw [c9b0]) | skip)
                have H' := Aside0.mk H
                clear H
                go_wp2
                go_meet
                case rel => exact ⟨_, (false), (by first | rfl | (simp; done) | (simp [*]; done)), H', ⟨by have := HK1.out; first | omega | exact Nat.le_refl _⟩, ⟨by repeat (first | (with_reducible first | exact HB.out | apply below_alloc | apply pw_below_drewN | apply below_drew1) | exact HB.out)⟩⟩
            case rest =>
              clear HC8
              try clear p2
              try clear c4
              try clear c4b0
              try clear c5
              try clear c5b0
              try clear c6
              try clear c6b0
              try clear c7
              try clear p7
              try clear q7
              try clear hx7
              try clear c9
              try clear c9b0
              try clear p2
              try clear p7
              try clear q7
              obtain ⟨kq, x26_7, rfl, HA, HJ7, HB⟩ := hcut
              cases kq with
              | zero => exact absurd HA.out (by simp [strconv_commonPrefixLenIgnoreCase.j1])
              | succ kj7 =>
                have H := HA.out
                clear HA
                simp only [strconv_commonPrefixLenIgnoreCase.j1] at H
                by_cases c10 : x26_7 = true
                · subst c10
                  have H1 : (if 0 ≤ x6_1 then (if x6_1 < (a1.size : Int) then (if (((bt a0 x6_1) + 32) % 256) = (bt a1 x6_1) then (strconv_commonPrefixLenIgnoreCase.l0 kj7 a0 a1 ji3 (wrap64 (x6_1 + 1))) else (some x6_1)) else (none)) else (none)) = some r := by rw [if_pos rfl] at H; exact H
                  clear H
                  have H := H1
                  clear H1
                  by_cases c11 : 0 ≤ x6_1
                  · rw [if_pos c11] at H
                    have c11b0 : decide (0 ≤ x6_1) = true := decide_eq_true c11
                    clear c11
                    by_cases c12 : x6_1 < (a1.size : Int)
                    · rw [if_pos c12] at H
                      have c12b0 : decide (x6_1 < (a1.size : Int)) = true := decide_eq_true c12
                      clear c12
                      by_cases c14 : (((bt a0 x6_1) + 32) % 256) = (bt a1 x6_1)
                      · rw [if_pos c14] at H
                        have c14b0 : ((((bt a0 x6_1) + 32) % 256) == (bt a1 x6_1)) = true := beq_iff_eq.mpr c14
                        have c14b1 : ((((bt a0 x6_1) + 32) % 256) != (bt a1 x6_1)) = false := bne_eq_false_iff_eq.mpr c14
                        clear c14
                        have H' := Aside0.mk H
                        clear H
                        have p13 : 0 ≤ (x6_1 : Int) := of_decide_eq_true (by first | (with_reducible assumption) | assumption)
                        have q13 : x6_1 < (a1.size : Int) := of_decide_eq_true (by first | (with_reducible assumption) | assumption)
                        have hx13 := bt_at a1 x6_1
                        replace p13 := eq_true p13
                        replace q13 := eq_true q13
                        go_wp2
                        go_roundg kj7
                        case measure => have := HK1.out; have := HJ7.out; omega
                        case rel => exact ⟨(wrap64 (x6_1 + 1)), (by first | rfl | (simp; done) | (simp [*]; done)), H', ⟨by have := HK1.out; have := HJ7.out; omega⟩, ⟨by repeat (first | (with_reducible first | exact HB.out | apply below_alloc | apply pw_below_drewN | apply below_drew1) | exact HB.out)⟩⟩
                      · rw [if_neg c14] at H
                        have c14b0 : ((((bt a0 x6_1) + 32) % 256) == (bt a1 x6_1)) = false := beq_eq_false_iff_ne.mpr c14
                        have c14b1 : ((((bt a0 x6_1) + 32) % 256) != (bt a1 x6_1)) = true := bne_iff_ne.mpr c14
                        obtain rfl := Option.some.inj H
                        have p13 : 0 ≤ (x6_1 : Int) := of_decide_eq_true (by first | (with_reducible assumption) | assumption)
                        have q13 : x6_1 < (a1.size : Int) := of_decide_eq_true (by first | (with_reducible assumption) | assumption)
                        have hx13 := bt_at a1 x6_1
                        replace p13 := eq_true p13
                        replace q13 := eq_true q13
                        go_wp2
                        go_ret
                        exact ⟨by first | rfl | (simp [errW_none, errW_some] <;> rfl) | (simp only [← hji3]; first | rfl | (simp [errW_none, errW_some] <;> rfl)) | (simp [*, errW_none, errW_some] <;> rfl), by repeat (first | (with_reducible first | exact HB.out | apply below_alloc | apply pw_below_drewN | apply below_drew1) | exact HB.out)⟩
                    · rw [if_neg c12] at H
                      exact absurd H (by simp)
                  · rw [if_neg c11] at H
                    exact absurd H (by simp)
                · replace c10 := Bool.eq_false_iff.mpr c10
                  subst c10
                  have H1 : (if 0 ≤ x6_1 then (if x6_1 < (a1.size : Int) then (if (bt a0 x6_1) = (bt a1 x6_1) then (strconv_commonPrefixLenIgnoreCase.l0 kj7 a0 a1 ji3 (wrap64 (x6_1 + 1))) else (some x6_1)) else (none)) else (none)) = some r := by rw [if_neg (show ¬ (false = true) by decide)] at H; exact H
                  clear H
                  have H := H1
                  clear H1
                  by_cases c15 : 0 ≤ x6_1
                  · rw [if_pos c15] at H
                    have c15b0 : decide (0 ≤ x6_1) = true := decide_eq_true c15
                    clear c15
                    by_cases c16 : x6_1 < (a1.size : Int)
                    · rw [if_pos c16] at H
                      have c16b0 : decide (x6_1 < (a1.size : Int)) = true := decide_eq_true c16
                      clear c16
                      by_cases c18 : (bt a0 x6_1) = (bt a1 x6_1)
                      · rw [if_pos c18] at H
                        have c18b0 : ((bt a0 x6_1) == (bt a1 x6_1)) = true := beq_iff_eq.mpr c18
                        have c18b1 : ((bt a0 x6_1) != (bt a1 x6_1)) = false := bne_eq_false_iff_eq.mpr c18
                        clear c18
                        have H' := Aside0.mk H
                        clear H
                        have p17 : 0 ≤ (x6_1 : Int) := of_decide_eq_true (by first | (with_reducible assumption) | assumption)
                        have q17 : x6_1 < (a1.size : Int) := of_decide_eq_true (by first | (with_reducible assumption) | assumption)
                        have hx17 := bt_at a1 x6_1
                        replace p17 := eq_true p17
                        replace q17 := eq_true q17
                        go_wp2
                        go_roundg kj7
                        case measure => have := HK1.out; have := HJ7.out; omega
                        case rel => exact ⟨(wrap64 (x6_1 + 1)), (by first | rfl | (simp; done) | (simp [*]; done)), H', ⟨by have := HK1.out; have := HJ7.out; omega⟩, ⟨by repeat (first | (with_reducible first | exact HB.out | apply below_alloc | apply pw_below_drewN | apply below_drew1) | exact HB.out)⟩⟩
                      · rw [if_neg c18] at H
                        have c18b0 : ((bt a0 x6_1) == (bt a1 x6_1)) = false := beq_eq_false_iff_ne.mpr c18
                        have c18b1 : ((bt a0 x6_1) != (bt a1 x6_1)) = true := bne_iff_ne.mpr c18
                        obtain rfl := Option.some.inj H
                        have p17 : 0 ≤ (x6_1 : Int) := of_decide_eq_true (by first | (with_reducible assumption) | assumption)
                        have q17 : x6_1 < (a1.size : Int) := of_decide_eq_true (by first | (with_reducible assumption) | assumption)
                        have hx17 := bt_at a1 x6_1
                        replace p17 := eq_true p17
                        replace q17 := eq_true q17
                        go_wp2
                        go_ret
                        exact ⟨by first | rfl | (simp [errW_none, errW_some] <;> rfl) | (simp only [← hji3]; first | rfl | (simp [errW_none, errW_some] <;> rfl)) | (simp [*, errW_none, errW_some] <;> rfl), by repeat (first | (with_reducible first | exact HB.out | apply below_alloc | apply pw_below_drewN | apply below_drew1) | exact HB.out)⟩
                    · rw [if_neg c16] at H
                      exact absurd H (by simp)
                  · rw [if_neg c15] at H
                    exact absurd H (by simp)
          · rw [if_neg c6] at H
            exact absurd H (by simp)
        · rw [if_neg c5] at H
          exact absurd H (by simp)
      · rw [if_neg c4] at H
        have c4b0 : decide (x6_1 < ji3) = false := decide_eq_false c4
        clear c4
        obtain rfl := Option.some.inj H
        go_wp2
        go_ret
        exact ⟨by first | rfl | (simp [errW_none, errW_some] <;> rfl) | (simp only [← hji3]; first | rfl | (simp [errW_none, errW_some] <;> rfl)) | (simp [*, errW_none, errW_some] <;> rfl), by repeat (first | (with_reducible first | exact HB.out | apply below_alloc | apply pw_below_drewN | apply below_drew1) | exact HB.out)⟩

-- NOT PRINTED: function 70 (strconv_float64frombits)

/-! ### strconv_inf: function 77 -/
def strconv_inf.f (a0 : Int) : Option (Nat) := if a0 ≥ 0 then (some 9218868437227405312) else (some 18442240474082181120)
set_option maxHeartbeats 8000000 in
set_option maxRecDepth 100000 in
theorem strconv_inf.calls (a0 : Int) (r : Nat) (w : World) (h : strconv_inf.f a0 = some r) :
    Calls Tryz.prog 77 #[.int .i64 a0] w fun e w' => e = .returned (.float .f64 r) ∧ Drawn0 w w' := by
  have H : (if a0 ≥ 0 then (some 9218868437227405312) else (some 18442240474082181120)) = some r := h
  clear h
  by_cases c2 : a0 ≥ 0
  · rw [if_pos c2] at H
    have c2b0 : decide (0 ≤ a0) = true := decide_eq_true c2
    clear c2
    obtain rfl := Option.some.inj H
    go_enter Tryz.func77, Tryz.ntmps77
    go_wp2
    go_ret
    exact ⟨by first | rfl | (simp; done) | (simp [*]; done), by repeat (first | exact Drawn0.refl _ | apply Drawn0.step)⟩
  · rw [if_neg c2] at H
    have c2b0 : decide (0 ≤ a0) = false := decide_eq_false c2
    clear c2
    obtain rfl := Option.some.inj H
    go_enter Tryz.func77, Tryz.ntmps77
    go_wp2
    go_ret
    exact ⟨by first | rfl | (simp; done) | (simp [*]; done), by repeat (first | exact Drawn0.refl _ | apply Drawn0.step)⟩

/-! ### strconv_nan: function 78 -/
def strconv_nan.f  : Option (Nat) := some 9221120237041090561
set_option maxHeartbeats 8000000 in
set_option maxRecDepth 100000 in
theorem strconv_nan.calls  (r : Nat) (w : World) (h : strconv_nan.f  = some r) :
    Calls Tryz.prog 78 #[] w fun e w' => e = .returned (.float .f64 r) ∧ Drawn0 w w' := by
  have H : (some 9221120237041090561) = some r := h
  clear h
  obtain rfl := Option.some.inj H
  go_enter Tryz.func78, Tryz.ntmps78
  go_wp2
  go_ret
  exact ⟨by first | rfl | (simp; done) | (simp [*]; done), by repeat (first | exact Drawn0.refl _ | apply Drawn0.step)⟩

/-! ### strconv_special: function 60 -/
mutual
def strconv_special.j3 : Nat → ByteArray → Int → Int → Option (Nat × Int × Bool)
  | 0, _, _, _ => none
  | k + 1, x0, x5, x6 => (strconv_commonPrefixLenIgnoreCase.f k x0 (⟨#[105, 110, 102, 105, 110, 105, 116, 121]⟩ : ByteArray)).bind fun t131 => (if 3 < t131 then (strconv_special.j4 k x5 x6 t131 (decide (t131 < 8))) else (strconv_special.j4 k x5 x6 t131 false))
def strconv_special.j4 : Nat → Int → Int → Int → Bool → Option (Nat × Int × Bool)
  | 0, _, _, _, _ => none
  | k + 1, x5, x6, x7, x34 => if x34 = true then (if 3 = 3 then ((strconv_inf.f x5).bind fun t132 => (some (t132, wrap64 (x6 + 3), true))) else (if 3 = 8 then ((strconv_inf.f x5).bind fun t133 => (some (t133, wrap64 (x6 + 3), true))) else (some (0, 0, false)))) else (if x7 = 3 then ((strconv_inf.f x5).bind fun t134 => (some (t134, wrap64 (x6 + x7), true))) else (if x7 = 8 then ((strconv_inf.f x5).bind fun t135 => (some (t135, wrap64 (x6 + x7), true))) else (some (0, 0, false))))
def strconv_special.j0 : Nat → ByteArray → Int → Int → Int → Bool → Option (Nat × Int × Bool)
  | 0, _, _, _, _, _ => none
  | k + 1, x0, x5, x6, x12, x13 => if x13 = true then (if 0 < (x0.size : Int) then (if (bt x0 0) = 45 then (if 1 ≤ (x0.size : Int) then (strconv_special.j3 k (x0.extract 1 x0.size) (-1) 1) else (none)) else (if 1 ≤ (x0.size : Int) then (strconv_special.j3 k (x0.extract 1 x0.size) x5 1) else (none))) else (none)) else (if x12 = 105 then (strconv_special.j1 k x0 x5 x6 x12 (x12 == 105)) else (strconv_special.j1 k x0 x5 x6 x12 (x12 == 73)))
def strconv_special.j1 : Nat → ByteArray → Int → Int → Int → Bool → Option (Nat × Int × Bool)
  | 0, _, _, _, _, _ => none
  | k + 1, x0, x5, x6, x12, x16 => if x16 = true then (strconv_special.j3 k x0 x5 x6) else (if x12 = 110 then (strconv_special.j2 k x0 (x12 == 110)) else (strconv_special.j2 k x0 (x12 == 78)))
def strconv_special.j2 : Nat → ByteArray → Bool → Option (Nat × Int × Bool)
  | 0, _, _ => none
  | k + 1, x0, x19 => if x19 = true then ((strconv_commonPrefixLenIgnoreCase.f k x0 (⟨#[110, 97, 110]⟩ : ByteArray)).bind fun t136 => (if t136 = 3 then ((strconv_nan.f).bind fun t137 => (some (t137, 3, true))) else (some (0, 0, false)))) else (some (0, 0, false))
end
def strconv_special.f (k : Nat) (a0 : ByteArray) : Option (Nat × Int × Bool) := if (a0.size : Int) = 0 then (some (0, 0, false)) else (if 0 < (a0.size : Int) then (if (bt a0 0) = 43 then (strconv_special.j0 k a0 1 0 (bt a0 0) ((bt a0 0) == 43)) else (strconv_special.j0 k a0 1 0 (bt a0 0) ((bt a0 0) == 45))) else (none))
set_option maxHeartbeats 8000000 in
set_option maxRecDepth 100000 in
theorem strconv_special.calls (k : Nat) (a0 : ByteArray) (r1 : Nat) (r2 : Int) (r3 : Bool) (w : World) (h : strconv_special.f k a0 = some (r1, r2, r3)) :
    Calls Tryz.prog 60 #[.string a0] w fun e w' => e = .returned (.tuple #[.float .f64 r1, .int .i64 r2, .bool r3]) ∧ Below w.heap.size w w' := by
  have HB := Aside0.mk (Below.refl w.heap.size w)
  have H : (if (a0.size : Int) = 0 then (some (0, 0, false)) else (if 0 < (a0.size : Int) then (if (bt a0 0) = 43 then (strconv_special.j0 k a0 1 0 (bt a0 0) ((bt a0 0) == 43)) else (strconv_special.j0 k a0 1 0 (bt a0 0) ((bt a0 0) == 45))) else (none))) = some (r1, r2, r3) := h
  clear h
  by_cases c2 : (a0.size : Int) = 0
  · rw [if_pos c2] at H
    have c2b0 : ((a0.size : Int) == 0) = true := beq_iff_eq.mpr c2
    have c2b1 : ((a0.size : Int) != 0) = false := bne_eq_false_iff_eq.mpr c2
    clear c2
    simp only [Option.some.injEq, Prod.mk.injEq] at H
    obtain ⟨rfl, rfl, rfl⟩ := H
    go_enter Tryz.func60, Tryz.ntmps60
    go_wp2
    go_ret3
    exact ⟨by first | rfl | (simp [errW_none, errW_some] <;> rfl) | (simp [*, errW_none, errW_some] <;> rfl), by repeat (first | (with_reducible first | exact HB.out | apply below_alloc | apply pw_below_drewN | apply below_drew1) | exact HB.out)⟩
  · rw [if_neg c2] at H
    have c2b0 : ((a0.size : Int) == 0) = false := beq_eq_false_iff_ne.mpr c2
    have c2b1 : ((a0.size : Int) != 0) = true := bne_iff_ne.mpr c2
    by_cases c3 : 0 < (a0.size : Int)
    · rw [if_pos c3] at H
      have c3b0 : decide (0 < (a0.size : Int)) = true := decide_eq_true c3
      have c3b1 : decide (0 < a0.size) = true := decide_eq_true (by omega)
      clear c3
      have HC5 := Aside0.mk H
      clear H
      have p4 : 0 ≤ (0 : Int) := (by omega)
      have q4 : 0 < a0.size := (by have : (0 : Int) < (a0.size : Int) := of_decide_eq_true (by first | (with_reducible assumption) | assumption); omega)
      have hx4 : ∀ h : 0 < a0.size, ((a0[0]'h).toNat : Int) = bt a0 0 := bt_at a0 0
      clear p4
      have qi4 : (0 < (a0.size : Int)) = True := eq_true (of_decide_eq_true (by first | (with_reducible assumption) | assumption))
      replace q4 := eq_true q4
      go_enter Tryz.func60, Tryz.ntmps60
      go_upto_block 2 with (fail)
      go_cut [0, 5, 6] (fun v0 v5 v6 wc => ∃ (kq : Nat) (x0_4 : ByteArray) (x5_4 : Int) (x6_4 : Int), v0 = .string x0_4 ∧ v5 = .int .i64 x5_4 ∧ v6 = .int .i64 x6_4 ∧ Aside0 (strconv_special.j3 kq x0_4 x5_4 x6_4 = some (r1, r2, r3)) ∧ Aside0 (kq ≤ k) ∧ Aside0 (Below w.heap.size w wc))
      case first =>
        have H := HC5.out
        clear HC5
        have HC6 := Aside0.mk H
        clear H
        go_upto_if 13 with (fail)
        go_cut [13] (fun v13 wc => ∃ (kq : Nat) (x13_5 : Bool), v13 = .bool x13_5 ∧ Aside0 (strconv_special.j0 kq a0 1 0 (bt a0 0) x13_5 = some (r1, r2, r3)) ∧ Aside0 (kq ≤ k) ∧ Aside0 (Below w.heap.size w wc))
        case first =>
          have H := HC6.out
          clear HC6
          by_cases c7 : (bt a0 0) = 43
          · rw [if_pos c7] at H
            have c7b0 : ((bt a0 0) == 43) = true := beq_iff_eq.mpr c7
            have c7b1 : ((bt a0 0) != 43) = false := bne_eq_false_iff_eq.mpr c7
            clear c7
            (first | rw [c7b0] | (simp only [i64_w, i32_w]; rw [c7b0]) | skip)
            have H' := Aside0.mk H
            clear H
            go_wp2
            go_meet
            case rel => exact ⟨_, (((bt a0 0) == 43)), (by first | rfl | (simp; done) | (simp [*]; done)), H', ⟨by first | omega | exact Nat.le_refl _⟩, ⟨by repeat (first | (with_reducible first | exact HB.out | apply below_alloc | apply pw_below_drewN | apply below_drew1) | exact HB.out)⟩⟩
          · rw [if_neg c7] at H
            have c7b0 : ((bt a0 0) == 43) = false := beq_eq_false_iff_ne.mpr c7
            have c7b1 : ((bt a0 0) != 43) = true := bne_iff_ne.mpr c7
            (first | rw [c7b0] | (simp only [i64_w, i32_w]; rw [c7b0]) | skip)
            have H' := Aside0.mk H
            clear H
            go_wp2
            go_meet
            case rel => exact ⟨_, (((bt a0 0) == 45)), (by first | rfl | (simp; done) | (simp [*]; done)), H', ⟨by first | omega | exact Nat.le_refl _⟩, ⟨by repeat (first | (with_reducible first | exact HB.out | apply below_alloc | apply pw_below_drewN | apply below_drew1) | exact HB.out)⟩⟩
        case rest =>
          clear HC6
          try clear c2
          try clear c2b0
          try clear c2b1
          try clear p2
          try clear c3
          try clear c3b0
          try clear c3b1
          try clear p4
          try clear q4
          try clear hx4
          try clear qi4
          try clear c6
          try clear c7
          try clear c7b0
          try clear c7b1
          try clear p4
          try clear q4
          obtain ⟨kq, x13_5, rfl, HA, HJ5, HB⟩ := hcut
          cases kq with
          | zero => exact absurd HA.out (by simp [strconv_special.j0])
          | succ kj5 =>
            have H := HA.out
            clear HA
            simp only [strconv_special.j0] at H
            by_cases c8 : x13_5 = true
            · subst c8
              have H1 : (if 0 < (a0.size : Int) then (if (bt a0 0) = 45 then (if 1 ≤ (a0.size : Int) then (strconv_special.j3 kj5 (a0.extract 1 a0.size) (-1) 1) else (none)) else (if 1 ≤ (a0.size : Int) then (strconv_special.j3 kj5 (a0.extract 1 a0.size) 1 1) else (none))) else (none)) = some (r1, r2, r3) := by rw [if_pos rfl] at H; exact H
              clear H
              have H := H1
              clear H1
              by_cases c9 : 0 < (a0.size : Int)
              · rw [if_pos c9] at H
                have c9b0 : decide (0 < (a0.size : Int)) = true := decide_eq_true c9
                have c9b1 : decide (0 < a0.size) = true := decide_eq_true (by omega)
                clear c9
                by_cases c11 : (bt a0 0) = 45
                · rw [if_pos c11] at H
                  have c11b0 : ((bt a0 0) == 45) = true := beq_iff_eq.mpr c11
                  have c11b1 : ((bt a0 0) != 45) = false := bne_eq_false_iff_eq.mpr c11
                  clear c11
                  by_cases c12 : 1 ≤ (a0.size : Int)
                  · rw [if_pos c12] at H
                    have c12b0 := eq_true c12
                    have c12b1 : decide (1 ≤ (a0.size : Int)) = true := decide_eq_true c12
                    clear c12
                    have H' := Aside0.mk H
                    clear H
                    have p10 : 0 ≤ (0 : Int) := (by omega)
                    have q10 : 0 < a0.size := (by have : (0 : Int) < (a0.size : Int) := of_decide_eq_true (by first | (with_reducible assumption) | assumption); omega)
                    have hx10 : ∀ h : 0 < a0.size, ((a0[0]'h).toNat : Int) = bt a0 0 := bt_at a0 0
                    clear p10
                    have qi10 : (0 < (a0.size : Int)) = True := eq_true (of_decide_eq_true (by first | (with_reducible assumption) | assumption))
                    replace q10 := eq_true q10
                    go_wp2
                    go_meet
                    case rel => exact ⟨_, (a0.extract 1 a0.size), ((-1)), (1), (by first | rfl | (simp; done) | (simp [*]; done)), (by first | rfl | (simp; done) | (simp [*]; done)), (by first | rfl | (simp; done) | (simp [*]; done)), H', ⟨by have := HJ5.out; first | omega | exact Nat.le_refl _⟩, ⟨by repeat (first | (with_reducible first | exact HB.out | apply below_alloc | apply pw_below_drewN | apply below_drew1) | exact HB.out)⟩⟩
                  · rw [if_neg c12] at H
                    exact absurd H (by simp)
                · rw [if_neg c11] at H
                  have c11b0 : ((bt a0 0) == 45) = false := beq_eq_false_iff_ne.mpr c11
                  have c11b1 : ((bt a0 0) != 45) = true := bne_iff_ne.mpr c11
                  by_cases c13 : 1 ≤ (a0.size : Int)
                  · rw [if_pos c13] at H
                    have c13b0 := eq_true c13
                    have c13b1 : decide (1 ≤ (a0.size : Int)) = true := decide_eq_true c13
                    clear c13
                    have H' := Aside0.mk H
                    clear H
                    have p10 : 0 ≤ (0 : Int) := (by omega)
                    have q10 : 0 < a0.size := (by have : (0 : Int) < (a0.size : Int) := of_decide_eq_true (by first | (with_reducible assumption) | assumption); omega)
                    have hx10 : ∀ h : 0 < a0.size, ((a0[0]'h).toNat : Int) = bt a0 0 := bt_at a0 0
                    clear p10
                    have qi10 : (0 < (a0.size : Int)) = True := eq_true (of_decide_eq_true (by first | (with_reducible assumption) | assumption))
                    replace q10 := eq_true q10
                    go_wp2
                    go_meet
                    case rel => exact ⟨_, (a0.extract 1 a0.size), (1), (1), (by first | rfl | (simp; done) | (simp [*]; done)), (by first | rfl | (simp; done) | (simp [*]; done)), (by first | rfl | (simp; done) | (simp [*]; done)), H', ⟨by have := HJ5.out; first | omega | exact Nat.le_refl _⟩, ⟨by repeat (first | (with_reducible first | exact HB.out | apply below_alloc | apply pw_below_drewN | apply below_drew1) | exact HB.out)⟩⟩
                  · rw [if_neg c13] at H
                    exact absurd H (by simp)
              · rw [if_neg c9] at H
                exact absurd H (by simp)
            · replace c8 := Bool.eq_false_iff.mpr c8
              subst c8
              have H1 : (if (bt a0 0) = 105 then (strconv_special.j1 kj5 a0 1 0 (bt a0 0) ((bt a0 0) == 105)) else (strconv_special.j1 kj5 a0 1 0 (bt a0 0) ((bt a0 0) == 73))) = some (r1, r2, r3) := by rw [if_neg (show ¬ (false = true) by decide)] at H; exact H
              clear H
              have H := H1
              clear H1
              have HC14 := Aside0.mk H
              clear H
              go_upto_if 16 with (fail)
              go_cut [16] (fun v16 wc => ∃ (kq : Nat) (x16_13 : Bool), v16 = .bool x16_13 ∧ Aside0 (strconv_special.j1 kq a0 1 0 (bt a0 0) x16_13 = some (r1, r2, r3)) ∧ Aside0 (kq ≤ kj5) ∧ Aside0 (Below w.heap.size w wc))
              case first =>
                have H := HC14.out
                clear HC14
                by_cases c15 : (bt a0 0) = 105
                · rw [if_pos c15] at H
                  have c15b0 : ((bt a0 0) == 105) = true := beq_iff_eq.mpr c15
                  have c15b1 : ((bt a0 0) != 105) = false := bne_eq_false_iff_eq.mpr c15
                  clear c15
                  (first | rw [c15b0] | (simp only [i64_w, i32_w]; rw [c15b0]) | skip)
                  have H' := Aside0.mk H
                  clear H
                  go_wp2
                  go_meet
                  case rel => exact ⟨_, (((bt a0 0) == 105)), (by first | rfl | (simp; done) | (simp [*]; done)), H', ⟨by have := HJ5.out; first | omega | exact Nat.le_refl _⟩, ⟨by repeat (first | (with_reducible first | exact HB.out | apply below_alloc | apply pw_below_drewN | apply below_drew1) | exact HB.out)⟩⟩
                · rw [if_neg c15] at H
                  have c15b0 : ((bt a0 0) == 105) = false := beq_eq_false_iff_ne.mpr c15
                  have c15b1 : ((bt a0 0) != 105) = true := bne_iff_ne.mpr c15
                  (first | rw [c15b0] | (simp only [i64_w, i32_w]; rw [c15b0]) | skip)
                  have H' := Aside0.mk H
                  clear H
                  go_wp2
                  go_meet
                  case rel => exact ⟨_, (((bt a0 0) == 73)), (by first | rfl | (simp; done) | (simp [*]; done)), H', ⟨by have := HJ5.out; first | omega | exact Nat.le_refl _⟩, ⟨by repeat (first | (with_reducible first | exact HB.out | apply below_alloc | apply pw_below_drewN | apply below_drew1) | exact HB.out)⟩⟩
              case rest =>
                clear HC14
                try clear c1
                try clear p1
                try clear q1
                try clear hx1
                try clear qi1
                try clear c2
                try clear c2b0
                try clear c2b1
                try clear p2
                try clear c3
                try clear c3b0
                try clear c3b1
                try clear p4
                try clear q4
                try clear hx4
                try clear qi4
                try clear c6
                try clear c7
                try clear c7b0
                try clear c7b1
                try clear c8
                try clear c9
                try clear c9b0
                try clear c9b1
                try clear p10
                try clear q10
                try clear hx10
                try clear qi10
                try clear c11
                try clear c11b0
                try clear c11b1
                try clear c12
                try clear c12b0
                try clear c12b1
                try clear c13
                try clear c13b0
                try clear c13b1
                try clear c15
                try clear c15b0
                try clear c15b1
                try clear p10
                try clear p2
                try clear p4
                try clear q10
                try clear q4
                obtain ⟨kq, x16_13, rfl, HA, HJ13, HB⟩ := hcut
                cases kq with
                | zero => exact absurd HA.out (by simp [strconv_special.j1])
                | succ kj13 =>
                  have H := HA.out
                  clear HA
                  simp only [strconv_special.j1] at H
                  by_cases c16 : x16_13 = true
                  · subst c16
                    have H1 : (strconv_special.j3 kj13 a0 1 0) = some (r1, r2, r3) := by rw [if_pos rfl] at H; exact H
                    clear H
                    have H := H1
                    clear H1
                    have H' := Aside0.mk H
                    clear H
                    go_wp2
                    go_meet
                    case rel => exact ⟨_, (a0), (1), (0), (by first | rfl | (simp; done) | (simp [*]; done)), (by first | rfl | (simp; done) | (simp [*]; done)), (by first | rfl | (simp; done) | (simp [*]; done)), H', ⟨by have := HJ5.out; have := HJ13.out; first | omega | exact Nat.le_refl _⟩, ⟨by repeat (first | (with_reducible first | exact HB.out | apply below_alloc | apply pw_below_drewN | apply below_drew1) | exact HB.out)⟩⟩
                  · replace c16 := Bool.eq_false_iff.mpr c16
                    subst c16
                    have H1 : (if (bt a0 0) = 110 then (strconv_special.j2 kj13 a0 ((bt a0 0) == 110)) else (strconv_special.j2 kj13 a0 ((bt a0 0) == 78))) = some (r1, r2, r3) := by rw [if_neg (show ¬ (false = true) by decide)] at H; exact H
                    clear H
                    have H := H1
                    clear H1
                    have HC17 := Aside0.mk H
                    clear H
                    go_upto_if 19 with (fail)
                    go_cut [19] (fun v19 wc => ∃ (kq : Nat) (x19_16 : Bool), v19 = .bool x19_16 ∧ Aside0 (strconv_special.j2 kq a0 x19_16 = some (r1, r2, r3)) ∧ Aside0 (kq ≤ kj13) ∧ Aside0 (Below w.heap.size w wc))
                    case first =>
                      have H := HC17.out
                      clear HC17
                      by_cases c18 : (bt a0 0) = 110
                      · rw [if_pos c18] at H
                        have c18b0 : ((bt a0 0) == 110) = true := beq_iff_eq.mpr c18
                        have c18b1 : ((bt a0 0) != 110) = false := bne_eq_false_iff_eq.mpr c18
                        clear c18
                        (first | rw [c18b0] | (simp only [i64_w, i32_w]; rw [c18b0]) | skip)
                        have H' := Aside0.mk H
                        clear H
                        go_wp2
                        go_meet
                        case rel => exact ⟨_, (((bt a0 0) == 110)), (by first | rfl | (simp; done) | (simp [*]; done)), H', ⟨by have := HJ5.out; have := HJ13.out; first | omega | exact Nat.le_refl _⟩, ⟨by repeat (first | (with_reducible first | exact HB.out | apply below_alloc | apply pw_below_drewN | apply below_drew1) | exact HB.out)⟩⟩
                      · rw [if_neg c18] at H
                        have c18b0 : ((bt a0 0) == 110) = false := beq_eq_false_iff_ne.mpr c18
                        have c18b1 : ((bt a0 0) != 110) = true := bne_iff_ne.mpr c18
                        (first | rw [c18b0] | (simp only [i64_w, i32_w]; rw [c18b0]) | skip)
                        have H' := Aside0.mk H
                        clear H
                        go_wp2
                        go_meet
                        case rel => exact ⟨_, (((bt a0 0) == 78)), (by first | rfl | (simp; done) | (simp [*]; done)), H', ⟨by have := HJ5.out; have := HJ13.out; first | omega | exact Nat.le_refl _⟩, ⟨by repeat (first | (with_reducible first | exact HB.out | apply below_alloc | apply pw_below_drewN | apply below_drew1) | exact HB.out)⟩⟩
                    case rest =>
                      clear HC17
                      try clear c1
                      try clear p1
                      try clear q1
                      try clear hx1
                      try clear qi1
                      try clear c2
                      try clear c2b0
                      try clear c2b1
                      try clear p2
                      try clear c3
                      try clear c3b0
                      try clear c3b1
                      try clear p4
                      try clear q4
                      try clear hx4
                      try clear qi4
                      try clear c6
                      try clear c7
                      try clear c7b0
                      try clear c7b1
                      try clear c8
                      try clear c9
                      try clear c9b0
                      try clear c9b1
                      try clear p10
                      try clear q10
                      try clear hx10
                      try clear qi10
                      try clear c11
                      try clear c11b0
                      try clear c11b1
                      try clear c12
                      try clear c12b0
                      try clear c12b1
                      try clear c13
                      try clear c13b0
                      try clear c13b1
                      try clear c15
                      try clear c15b0
                      try clear c15b1
                      try clear c16
                      try clear c18
                      try clear c18b0
                      try clear c18b1
                      try clear p1
                      try clear p10
                      try clear p2
                      try clear p4
                      try clear q1
                      try clear q10
                      try clear q4
                      obtain ⟨kq, x19_16, rfl, HA, HJ16, HB⟩ := hcut
                      cases kq with
                      | zero => exact absurd HA.out (by simp [strconv_special.j2])
                      | succ kj16 =>
                        have H := HA.out
                        clear HA
                        simp only [strconv_special.j2] at H
                        by_cases c19 : x19_16 = true
                        · subst c19
                          have H1 : ((strconv_commonPrefixLenIgnoreCase.f kj16 a0 (⟨#[110, 97, 110]⟩ : ByteArray)).bind fun t136 => (if t136 = 3 then ((strconv_nan.f).bind fun t137 => (some (t137, 3, true))) else (some (0, 0, false)))) = some (r1, r2, r3) := by rw [if_pos rfl] at H; exact H
                          clear H
                          have H := H1
                          clear H1
                          replace H := Option.bind_eq_some_iff.mp H
                          obtain ⟨t136, A200, H⟩ := H
                          replace H : (if t136 = 3 then ((strconv_nan.f).bind fun t137 => (some (t137, 3, true))) else (some (0, 0, false))) = some (r1, r2, r3) := H
                          have A20 := Aside0.mk A200
                          clear A200
                          by_cases c21 : t136 = 3
                          · rw [if_pos c21] at H
                            have c21b0 : (t136 == 3) = true := beq_iff_eq.mpr c21
                            have c21b1 : (t136 != 3) = false := bne_eq_false_iff_eq.mpr c21
                            clear c21
                            replace H := Option.bind_eq_some_iff.mp H
                            obtain ⟨t137, A220, H⟩ := H
                            replace H : (some (t137, 3, true)) = some (r1, r2, r3) := H
                            have A22 := Aside0.mk A220
                            clear A220
                            simp only [Option.some.injEq, Prod.mk.injEq] at H
                            obtain ⟨rfl, rfl, rfl⟩ := H
                            go_wp2_with (first | ((with_reducible refine gate_callee (f := 76) rfl ?_); refine goesL_ (some 47) rfl rfl Tryz.func76 (by kernel_rfl) rfl #[.string a0, .string (⟨#[110, 97, 110]⟩ : ByteArray)] rfl (by (try simp only [List.map_toArray, List.map_cons, List.map_nil]); first | done | rfl | (simp only [List.length_drop, List.length_take]; rfl)) ?_; (with_reducible refine (strconv_commonPrefixLenIgnoreCase.calls kj16 a0 (⟨#[110, 97, 110]⟩ : ByteArray) t136 _ A20.out).mono ?_); rintro e w23 ⟨rfl, hb⟩; refine ⟨_, rfl, ?_⟩; have n0_ := Aside0.mk (below_step (by repeat (first | (with_reducible first | exact HB.out | apply below_alloc | apply pw_below_drewN | apply below_drew1) | exact HB.out)) hb); clear HB; have HB := n0_; clear n0_; (try clear hb); (try clear hb2); (try clear hk); (try clear hi)) | ((with_reducible refine gate_callee (f := 78) rfl ?_); refine goesL_ (some 49) rfl rfl Tryz.func78 (by kernel_rfl) rfl #[] rfl (by (try simp only [List.map_toArray, List.map_cons, List.map_nil]); first | done | rfl | (simp only [List.length_drop, List.length_take]; rfl)) ?_; (with_reducible refine (strconv_nan.calls  t137 _ A22.out).mono ?_); rintro e w' ⟨rfl, ⟨nd, rfl⟩⟩; refine ⟨_, rfl, ?_⟩))
                            go_ret3
                            exact ⟨by first | rfl | (simp [errW_none, errW_some] <;> rfl) | (simp [*, errW_none, errW_some] <;> rfl), by repeat (first | (with_reducible first | exact HB.out | apply below_alloc | apply pw_below_drewN | apply below_drew1) | exact HB.out)⟩
                          · rw [if_neg c21] at H
                            have c21b0 : (t136 == 3) = false := beq_eq_false_iff_ne.mpr c21
                            have c21b1 : (t136 != 3) = true := bne_iff_ne.mpr c21
                            simp only [Option.some.injEq, Prod.mk.injEq] at H
                            obtain ⟨rfl, rfl, rfl⟩ := H
                            go_wp2_with (first | ((with_reducible refine gate_callee (f := 76) rfl ?_); refine goesL_ (some 47) rfl rfl Tryz.func76 (by kernel_rfl) rfl #[.string a0, .string (⟨#[110, 97, 110]⟩ : ByteArray)] rfl (by (try simp only [List.map_toArray, List.map_cons, List.map_nil]); first | done | rfl | (simp only [List.length_drop, List.length_take]; rfl)) ?_; (with_reducible refine (strconv_commonPrefixLenIgnoreCase.calls kj16 a0 (⟨#[110, 97, 110]⟩ : ByteArray) t136 _ A20.out).mono ?_); rintro e w24 ⟨rfl, hb⟩; refine ⟨_, rfl, ?_⟩; have n0_ := Aside0.mk (below_step (by repeat (first | (with_reducible first | exact HB.out | apply below_alloc | apply pw_below_drewN | apply below_drew1) | exact HB.out)) hb); clear HB; have HB := n0_; clear n0_; (try clear hb); (try clear hb2); (try clear hk); (try clear hi)))
                            go_ret3
                            exact ⟨by first | rfl | (simp [errW_none, errW_some] <;> rfl) | (simp [*, errW_none, errW_some] <;> rfl), by repeat (first | (with_reducible first | exact HB.out | apply below_alloc | apply pw_below_drewN | apply below_drew1) | exact HB.out)⟩
                        · replace c19 := Bool.eq_false_iff.mpr c19
                          subst c19
                          have H1 : (some (0, 0, false)) = some (r1, r2, r3) := by rw [if_neg (show ¬ (false = true) by decide)] at H; exact H
                          clear H
                          have H := H1
                          clear H1
                          simp only [Option.some.injEq, Prod.mk.injEq] at H
                          obtain ⟨rfl, rfl, rfl⟩ := H
                          go_wp2
                          go_ret3
                          exact ⟨by first | rfl | (simp [errW_none, errW_some] <;> rfl) | (simp [*, errW_none, errW_some] <;> rfl), by repeat (first | (with_reducible first | exact HB.out | apply below_alloc | apply pw_below_drewN | apply below_drew1) | exact HB.out)⟩
      case rest =>
        clear HC5
        try clear c1
        try clear p1
        try clear q1
        try clear hx1
        try clear qi1
        try clear c2
        try clear c2b0
        try clear c2b1
        try clear p2
        try clear c3
        try clear c3b0
        try clear c3b1
        try clear p4
        try clear q4
        try clear hx4
        try clear qi4
        try clear c6
        try clear c7
        try clear c7b0
        try clear c7b1
        try clear c8
        try clear c9
        try clear c9b0
        try clear c9b1
        try clear p10
        try clear q10
        try clear hx10
        try clear qi10
        try clear c11
        try clear c11b0
        try clear c11b1
        try clear c12
        try clear c12b0
        try clear c12b1
        try clear c13
        try clear c13b0
        try clear c13b1
        try clear c15
        try clear c15b0
        try clear c15b1
        try clear c16
        try clear c18
        try clear c18b0
        try clear c18b1
        try clear c19
        try clear c21
        try clear c21b0
        try clear c21b1
        try clear p1
        try clear p10
        try clear p2
        try clear p4
        try clear q1
        try clear q10
        try clear q4
        obtain ⟨kq, x0_4, x5_4, x6_4, rfl, rfl, rfl, HA, HJ4, HB⟩ := hcut
        cases kq with
        | zero => exact absurd HA.out (by simp [strconv_special.j3])
        | succ kj4 =>
          have H := HA.out
          clear HA
          simp only [strconv_special.j3] at H
          replace H := Option.bind_eq_some_iff.mp H
          obtain ⟨t131, A250, H⟩ := H
          replace H : (if 3 < t131 then (strconv_special.j4 kj4 x5_4 x6_4 t131 (decide (t131 < 8))) else (strconv_special.j4 kj4 x5_4 x6_4 t131 false)) = some (r1, r2, r3) := H
          have A25 := Aside0.mk A250
          clear A250
          have HC26 := Aside0.mk H
          clear H
          go_upto_region 17 with (first | ((with_reducible refine gate_callee (f := 76) rfl ?_); refine goesL_ (some 28) rfl rfl Tryz.func76 (by kernel_rfl) rfl #[.string x0_4, .string (⟨#[105, 110, 102, 105, 110, 105, 116, 121]⟩ : ByteArray)] rfl (by (try simp only [List.map_toArray, List.map_cons, List.map_nil]); first | done | rfl | (simp only [List.length_drop, List.length_take]; rfl)) ?_; (with_reducible refine (strconv_commonPrefixLenIgnoreCase.calls kj4 x0_4 (⟨#[105, 110, 102, 105, 110, 105, 116, 121]⟩ : ByteArray) t131 _ A25.out).mono ?_); rintro e w27 ⟨rfl, hb⟩; refine ⟨_, rfl, ?_⟩; have n0_ := Aside0.mk (below_step (by repeat (first | (with_reducible first | exact HB.out | apply below_alloc | apply pw_below_drewN | apply below_drew1) | exact HB.out)) hb); clear HB; have HB := n0_; clear n0_; (try clear hb); (try clear hb2); (try clear hk); (try clear hi)))
          (try simp only [Act.put, List.setIfInBounds_toArray, List.set_cons_zero, List.set_cons_succ])
          go_cut [34] (fun v34 wc => ∃ (kq : Nat) (x34_25 : Bool), v34 = .bool x34_25 ∧ Aside0 (strconv_special.j4 kq x5_4 x6_4 t131 x34_25 = some (r1, r2, r3)) ∧ Aside0 (kq ≤ kj4) ∧ Aside0 (Below w.heap.size w wc))
          case first =>
            have H := HC26.out
            clear HC26
            by_cases c28 : 3 < t131
            · rw [if_pos c28] at H
              have c28b0 : decide (3 < t131) = true := decide_eq_true c28
              clear c28
              (first | rw [c28b0] | (simp only [i64_w, i32_w]; rw [c28b0]) | skip)
              have H' := Aside0.mk H
              clear H
              go_wp2
              go_meet
              case rel => exact ⟨_, (decide (t131 < 8)), (by first | rfl | (simp; done) | (simp [*]; done)), H', ⟨by have := HJ4.out; first | omega | exact Nat.le_refl _⟩, ⟨by repeat (first | (with_reducible first | exact HB.out | apply below_alloc | apply pw_below_drewN | apply below_drew1) | exact HB.out)⟩⟩
            · rw [if_neg c28] at H
              have c28b0 : decide (3 < t131) = false := decide_eq_false c28
              clear c28
              (first | rw [c28b0] | (simp only [i64_w, i32_w]; rw [c28b0]) | skip)
              have H' := Aside0.mk H
              clear H
              go_wp2
              go_meet
              case rel => exact ⟨_, (false), (by first | rfl | (simp; done) | (simp [*]; done)), H', ⟨by have := HJ4.out; first | omega | exact Nat.le_refl _⟩, ⟨by repeat (first | (with_reducible first | exact HB.out | apply below_alloc | apply pw_below_drewN | apply below_drew1) | exact HB.out)⟩⟩
          case rest =>
            clear HC26
            try clear c1
            try clear p1
            try clear q1
            try clear hx1
            try clear qi1
            try clear c2
            try clear c2b0
            try clear c2b1
            try clear p2
            try clear c3
            try clear c3b0
            try clear c3b1
            try clear p4
            try clear q4
            try clear hx4
            try clear qi4
            try clear c6
            try clear c7
            try clear c7b0
            try clear c7b1
            try clear c8
            try clear c9
            try clear c9b0
            try clear c9b1
            try clear p10
            try clear q10
            try clear hx10
            try clear qi10
            try clear c11
            try clear c11b0
            try clear c11b1
            try clear c12
            try clear c12b0
            try clear c12b1
            try clear c13
            try clear c13b0
            try clear c13b1
            try clear c15
            try clear c15b0
            try clear c15b1
            try clear c16
            try clear c18
            try clear c18b0
            try clear c18b1
            try clear c19
            try clear c21
            try clear c21b0
            try clear c21b1
            try clear c28
            try clear c28b0
            try clear p1
            try clear p10
            try clear p2
            try clear p4
            try clear q1
            try clear q10
            try clear q4
            obtain ⟨kq, x34_25, rfl, HA, HJ25, HB⟩ := hcut
            cases kq with
            | zero => exact absurd HA.out (by simp [strconv_special.j4])
            | succ kj25 =>
              have H := HA.out
              clear HA
              simp only [strconv_special.j4] at H
              by_cases c29 : x34_25 = true
              · subst c29
                have H1 : (if 3 = 3 then ((strconv_inf.f x5_4).bind fun t132 => (some (t132, wrap64 (x6_4 + 3), true))) else (if 3 = 8 then ((strconv_inf.f x5_4).bind fun t133 => (some (t133, wrap64 (x6_4 + 3), true))) else (some (0, 0, false)))) = some (r1, r2, r3) := by rw [if_pos rfl] at H; exact H
                clear H
                have H := H1
                clear H1
                by_cases c30 : 3 = 3
                · rw [if_pos c30] at H
                  have c30b0 : (3 == 3) = true := beq_iff_eq.mpr c30
                  have c30b1 : (3 != 3) = false := bne_eq_false_iff_eq.mpr c30
                  clear c30
                  replace H := Option.bind_eq_some_iff.mp H
                  obtain ⟨t132, A310, H⟩ := H
                  replace H : (some (t132, wrap64 (x6_4 + 3), true)) = some (r1, r2, r3) := H
                  have A31 := Aside0.mk A310
                  clear A310
                  simp only [Option.some.injEq, Prod.mk.injEq] at H
                  obtain ⟨rfl, rfl, rfl⟩ := H
                  go_wp2_with (first | ((with_reducible refine gate_callee (f := 77) rfl ?_); refine goesL_ (some 42) rfl rfl Tryz.func77 (by kernel_rfl) rfl #[.int .i64 x5_4] rfl (by (try simp only [List.map_toArray, List.map_cons, List.map_nil]); first | done | rfl | (simp only [List.length_drop, List.length_take]; rfl)) ?_; (with_reducible refine (strconv_inf.calls x5_4 t132 _ A31.out).mono ?_); rintro e w' ⟨rfl, ⟨nd, rfl⟩⟩; refine ⟨_, rfl, ?_⟩))
                  go_ret3
                  exact ⟨by first | rfl | (simp [errW_none, errW_some] <;> rfl) | (simp [*, errW_none, errW_some] <;> rfl), by repeat (first | (with_reducible first | exact HB.out | apply below_alloc | apply pw_below_drewN | apply below_drew1) | exact HB.out)⟩
                · exact absurd rfl c30
              · replace c29 := Bool.eq_false_iff.mpr c29
                subst c29
                have H1 : (if t131 = 3 then ((strconv_inf.f x5_4).bind fun t134 => (some (t134, wrap64 (x6_4 + t131), true))) else (if t131 = 8 then ((strconv_inf.f x5_4).bind fun t135 => (some (t135, wrap64 (x6_4 + t131), true))) else (some (0, 0, false)))) = some (r1, r2, r3) := by rw [if_neg (show ¬ (false = true) by decide)] at H; exact H
                clear H
                have H := H1
                clear H1
                by_cases c34 : t131 = 3
                · rw [if_pos c34] at H
                  have c34b0 : (t131 == 3) = true := beq_iff_eq.mpr c34
                  have c34b1 : (t131 != 3) = false := bne_eq_false_iff_eq.mpr c34
                  clear c34
                  replace H := Option.bind_eq_some_iff.mp H
                  obtain ⟨t134, A350, H⟩ := H
                  replace H : (some (t134, wrap64 (x6_4 + t131), true)) = some (r1, r2, r3) := H
                  have A35 := Aside0.mk A350
                  clear A350
                  simp only [Option.some.injEq, Prod.mk.injEq] at H
                  obtain ⟨rfl, rfl, rfl⟩ := H
                  go_wp2_with (first | ((with_reducible refine gate_callee (f := 77) rfl ?_); refine goesL_ (some 42) rfl rfl Tryz.func77 (by kernel_rfl) rfl #[.int .i64 x5_4] rfl (by (try simp only [List.map_toArray, List.map_cons, List.map_nil]); first | done | rfl | (simp only [List.length_drop, List.length_take]; rfl)) ?_; (with_reducible refine (strconv_inf.calls x5_4 t134 _ A35.out).mono ?_); rintro e w' ⟨rfl, ⟨nd, rfl⟩⟩; refine ⟨_, rfl, ?_⟩))
                  go_ret3
                  exact ⟨by first | rfl | (simp [errW_none, errW_some] <;> rfl) | (simp [*, errW_none, errW_some] <;> rfl), by repeat (first | (with_reducible first | exact HB.out | apply below_alloc | apply pw_below_drewN | apply below_drew1) | exact HB.out)⟩
                · rw [if_neg c34] at H
                  have c34b0 : (t131 == 3) = false := beq_eq_false_iff_ne.mpr c34
                  have c34b1 : (t131 != 3) = true := bne_iff_ne.mpr c34
                  by_cases c36 : t131 = 8
                  · rw [if_pos c36] at H
                    have c36b0 : (t131 == 8) = true := beq_iff_eq.mpr c36
                    have c36b1 : (t131 != 8) = false := bne_eq_false_iff_eq.mpr c36
                    clear c36
                    replace H := Option.bind_eq_some_iff.mp H
                    obtain ⟨t135, A370, H⟩ := H
                    replace H : (some (t135, wrap64 (x6_4 + t131), true)) = some (r1, r2, r3) := H
                    have A37 := Aside0.mk A370
                    clear A370
                    simp only [Option.some.injEq, Prod.mk.injEq] at H
                    obtain ⟨rfl, rfl, rfl⟩ := H
                    go_wp2_with (first | ((with_reducible refine gate_callee (f := 77) rfl ?_); refine goesL_ (some 42) rfl rfl Tryz.func77 (by kernel_rfl) rfl #[.int .i64 x5_4] rfl (by (try simp only [List.map_toArray, List.map_cons, List.map_nil]); first | done | rfl | (simp only [List.length_drop, List.length_take]; rfl)) ?_; (with_reducible refine (strconv_inf.calls x5_4 t135 _ A37.out).mono ?_); rintro e w' ⟨rfl, ⟨nd, rfl⟩⟩; refine ⟨_, rfl, ?_⟩))
                    go_ret3
                    exact ⟨by first | rfl | (simp [errW_none, errW_some] <;> rfl) | (simp [*, errW_none, errW_some] <;> rfl), by repeat (first | (with_reducible first | exact HB.out | apply below_alloc | apply pw_below_drewN | apply below_drew1) | exact HB.out)⟩
                  · rw [if_neg c36] at H
                    have c36b0 : (t131 == 8) = false := beq_eq_false_iff_ne.mpr c36
                    have c36b1 : (t131 != 8) = true := bne_iff_ne.mpr c36
                    simp only [Option.some.injEq, Prod.mk.injEq] at H
                    obtain ⟨rfl, rfl, rfl⟩ := H
                    go_wp2
                    go_ret3
                    exact ⟨by first | rfl | (simp [errW_none, errW_some] <;> rfl) | (simp [*, errW_none, errW_some] <;> rfl), by repeat (first | (with_reducible first | exact HB.out | apply below_alloc | apply pw_below_drewN | apply below_drew1) | exact HB.out)⟩
    · rw [if_neg c3] at H
      exact absurd H (by simp)

end Go.Proofs.YtfkpbkjokapijaaGreatFmt.PQ
