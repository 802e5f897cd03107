/- Contracts of small functions without memory: lower, underscoreOK, zzTrimRight. -/
import Derived.Test.YtfkpbkjokapijaaGreatFmtPQ0
namespace Go.Proofs.YtfkpbkjokapijaaGreatFmt.PQ
open Go.RowKit Go.Proofs.YtfkpbkjokapijaaGreatFmtW.PrintWords Go.Proofs.YtfkpbkjokapijaaGreatFmtW.PrintLast Go.Proofs.YtfkpbkjokapijaaGreatFmtW.PrintMore
attribute [local go_sem] max2_int min2_int max_two min_two max_three min_three max_four min_four
set_option linter.unusedVariables false
set_option linter.unusedSimpArgs false

/-! ### gopher_lua_zzTrimRight: function 30 -/
mutual
def gopher_lua_zzTrimRight.l0 : Nat → ByteArray → ByteArray → Int → Option (ByteArray)
  | 0, _, _, _ => none
  | k + 1, x0, x1, x5 => if x5 > 0 then (gopher_lua_zzTrimRight.l1 k x0 x1 x5 false 0) else (if 0 ≤ x5 then (if x5 ≤ (x0.size : Int) then (some (x0.extract 0 (x5 : Int).toNat)) else (none)) else (none))
def gopher_lua_zzTrimRight.l1 : Nat → ByteArray → ByteArray → Int → Bool → Int → Option (ByteArray)
  | 0, _, _, _, _, _ => none
  | k + 1, x0, x1, x5, x6, x7 => if x7 < (x1.size : Int) then (if 0 ≤ x7 then (if 0 ≤ (wrap64 (x5 - 1)) then (if (wrap64 (x5 - 1)) < (x0.size : Int) then (if (bt x1 x7) = (bt x0 (wrap64 (x5 - 1))) then (gopher_lua_zzTrimRight.l1 k x0 x1 x5 true (wrap64 (x7 + 1))) else (gopher_lua_zzTrimRight.l1 k x0 x1 x5 x6 (wrap64 (x7 + 1)))) else (none)) else (none)) else (none)) else (if x6 = true then (gopher_lua_zzTrimRight.l0 k x0 x1 (wrap64 (x5 - 1))) else (if 0 ≤ x5 then (if x5 ≤ (x0.size : Int) then (some (x0.extract 0 (x5 : Int).toNat)) else (none)) else (none)))
end
def gopher_lua_zzTrimRight.f (k : Nat) (a0 : ByteArray) (a1 : ByteArray) : Option (ByteArray) := gopher_lua_zzTrimRight.l0 k a0 a1 (a0.size : Int)
set_option maxHeartbeats 8000000 in
set_option maxRecDepth 100000 in
theorem gopher_lua_zzTrimRight.calls (k : Nat) (a0 : ByteArray) (a1 : ByteArray) (r : ByteArray) (w : World) (h : gopher_lua_zzTrimRight.f k a0 a1 = some r) :
    Calls Tryz.prog 30 #[.string a0, .string a1] w fun e w' => e = .returned (.string r) ∧ Drawn0 w w' := by
  have H : (gopher_lua_zzTrimRight.l0 k a0 a1 (a0.size : Int)) = some r := h
  clear h
  have H' := Aside0.mk H
  clear H
  go_enter Tryz.func30, Tryz.ntmps30
  go_wp2
  repeat (go_quiet (fail); try go_wp2)
  go_loopg [5] k (fun kq v5 w' => ∃ (x5_1 : Int), v5 = .int .i64 x5_1 ∧ Aside0 (gopher_lua_zzTrimRight.l0 kq a0 a1 x5_1 = some r) ∧ Aside0 (kq ≤ k) ∧ Drawn0 w w')
  case atStart => exact ⟨((a0.size : Int)), (by first | rfl | (simp; done) | (simp [*]; done)), H', ⟨Nat.le_refl _⟩, by repeat (first | exact Drawn0.refl _ | apply Drawn0.step)⟩
  case round =>
    clear H'
    try clear p2
    obtain ⟨x5_1, rfl, HA, HK1, ⟨m1, rfl⟩⟩ := hrel
    cases gk with
    | zero => exact absurd HA.out (by simp [gopher_lua_zzTrimRight.l0])
    | succ k1 =>
      have H := HA.out
      clear HA
      simp only [gopher_lua_zzTrimRight.l0] at H
      by_cases c3 : x5_1 > 0
      · rw [if_pos c3] at H
        have c3b0 : decide (0 < x5_1) = true := decide_eq_true c3
        clear c3
        have H' := Aside0.mk H
        clear H
        go_wp2
        repeat (go_quiet (fail); try go_wp2)
        go_loopg [6, 7] k1 (fun kq v6 v7 w' => ∃ (x6_2 : Bool) (x7_2 : Int), v6 = .bool x6_2 ∧ v7 = .int .i64 x7_2 ∧ Aside0 (gopher_lua_zzTrimRight.l1 kq a0 a1 x5_1 x6_2 x7_2 = some r) ∧ Aside0 (kq ≤ k1) ∧ Drawn0 w w')
        case atStart => exact ⟨(false), (0), (by first | rfl | (simp; done) | (simp [*]; done)), (by first | rfl | (simp; done) | (simp [*]; done)), H', ⟨Nat.le_refl _⟩, by repeat (first | exact Drawn0.refl _ | apply Drawn0.step)⟩
        case round =>
          clear H'
          try clear p2
          try clear c3
          try clear c3b0
          try clear p2
          obtain ⟨x6_2, x7_2, rfl, rfl, HA, HK2, ⟨m2, rfl⟩⟩ := hrel
          cases gk with
          | zero => exact absurd HA.out (by simp [gopher_lua_zzTrimRight.l1])
          | succ k2 =>
            have H := HA.out
            clear HA
            simp only [gopher_lua_zzTrimRight.l1] at H
            by_cases c4 : x7_2 < (a1.size : Int)
            · rw [if_pos c4] at H
              have c4b0 : decide (x7_2 < (a1.size : Int)) = true := decide_eq_true c4
              clear c4
              by_cases c5 : 0 ≤ x7_2
              · rw [if_pos c5] at H
                have c5b0 : decide (0 ≤ x7_2) = true := decide_eq_true c5
                clear c5
                obtain ⟨ji7, hji7⟩ : ∃ j_ : Int, (wrap64 (x5_1 - 1)) = j_ := ⟨_, rfl⟩
                replace H : (if 0 ≤ (ji7) then (if (ji7) < (a0.size : Int) then (if (bt a1 x7_2) = (bt a0 (ji7)) then (gopher_lua_zzTrimRight.l1 k2 a0 a1 x5_1 true (wrap64 (x7_2 + 1))) else (gopher_lua_zzTrimRight.l1 k2 a0 a1 x5_1 x6_2 (wrap64 (x7_2 + 1)))) else (none)) else (none)) = some r := by first | (rw [hji7] at H; exact H) | (simp only [hji7] at H ⊢; exact H)
                have hji7w : (IntKind.i64.wrap (x5_1 - 1)) = ji7 := (i64_w _).trans hji7
                by_cases c8 : 0 ≤ (ji7)
                · rw [if_pos c8] at H
                  have c8b0 : decide (0 ≤ (ji7)) = true := decide_eq_true c8
                  clear c8
                  by_cases c9 : (ji7) < (a0.size : Int)
                  · rw [if_pos c9] at H
                    have c9b0 : decide ((ji7) < (a0.size : Int)) = true := decide_eq_true c9
                    clear c9
                    by_cases c11 : (bt a1 x7_2) = (bt a0 (ji7))
                    · rw [if_pos c11] at H
                      have c11b0 : ((bt a1 x7_2) == (bt a0 (ji7))) = true := beq_iff_eq.mpr c11
                      have c11b1 : ((bt a1 x7_2) != (bt a0 (ji7))) = false := bne_eq_false_iff_eq.mpr c11
                      clear c11
                      have H' := Aside0.mk H
                      clear H
                      have p6 : 0 ≤ (x7_2 : Int) := of_decide_eq_true (by first | (with_reducible assumption) | assumption)
                      have q6 : x7_2 < (a1.size : Int) := of_decide_eq_true (by first | (with_reducible assumption) | assumption)
                      have hx6 := bt_at a1 x7_2
                      replace p6 := eq_true p6
                      replace q6 := eq_true q6
                      have p10 : 0 ≤ ((ji7) : Int) := of_decide_eq_true (by first | (with_reducible assumption) | assumption)
                      have q10 : (ji7) < (a0.size : Int) := of_decide_eq_true (by first | (with_reducible assumption) | assumption)
                      have hx10 := bt_at a0 (ji7)
                      replace p10 := eq_true p10
                      replace q10 := eq_true q10
                      go_wp2
                      repeat (go_quiet (fail); try go_wp2)
                      go_roundg k2
                      case measure => have := HK1.out; have := HK2.out; omega
                      case rel => exact ⟨(true), (wrap64 (x7_2 + 1)), (by first | rfl | (simp; done) | (simp [*]; done)), (by first | rfl | (simp; done) | (simp [*]; done)), H', ⟨by have := HK1.out; have := HK2.out; omega⟩, by repeat (first | exact Drawn0.refl _ | apply Drawn0.step)⟩
                    · rw [if_neg c11] at H
                      have c11b0 : ((bt a1 x7_2) == (bt a0 (ji7))) = false := beq_eq_false_iff_ne.mpr c11
                      have c11b1 : ((bt a1 x7_2) != (bt a0 (ji7))) = true := bne_iff_ne.mpr c11
                      have H' := Aside0.mk H
                      clear H
                      have p6 : 0 ≤ (x7_2 : Int) := of_decide_eq_true (by first | (with_reducible assumption) | assumption)
                      have q6 : x7_2 < (a1.size : Int) := of_decide_eq_true (by first | (with_reducible assumption) | assumption)
                      have hx6 := bt_at a1 x7_2
                      replace p6 := eq_true p6
                      replace q6 := eq_true q6
                      have p10 : 0 ≤ ((ji7) : Int) := of_decide_eq_true (by first | (with_reducible assumption) | assumption)
                      have q10 : (ji7) < (a0.size : Int) := of_decide_eq_true (by first | (with_reducible assumption) | assumption)
                      have hx10 := bt_at a0 (ji7)
                      replace p10 := eq_true p10
                      replace q10 := eq_true q10
                      go_wp2
                      repeat (go_quiet (fail); try go_wp2)
                      go_roundg k2
                      case measure => have := HK1.out; have := HK2.out; omega
                      case rel => exact ⟨(x6_2), (wrap64 (x7_2 + 1)), (by first | rfl | (simp; done) | (simp [*]; done)), (by first | rfl | (simp; done) | (simp [*]; done)), H', ⟨by have := HK1.out; have := HK2.out; omega⟩, by repeat (first | exact Drawn0.refl _ | apply Drawn0.step)⟩
                  · rw [if_neg c9] at H
                    exact absurd H (by simp)
                · rw [if_neg c8] at H
                  exact absurd H (by simp)
              · rw [if_neg c5] at H
                exact absurd H (by simp)
            · rw [if_neg c4] at H
              have c4b0 : decide (x7_2 < (a1.size : Int)) = false := decide_eq_false c4
              clear c4
              by_cases c12 : x6_2 = true
              · subst c12
                have H1 : (gopher_lua_zzTrimRight.l0 k2 a0 a1 (wrap64 (x5_1 - 1))) = some r := by rw [if_pos rfl] at H; exact H
                clear H
                have H := H1
                clear H1
                have H' := Aside0.mk H
                clear H
                go_wp2
                repeat (go_quiet (fail); try go_wp2)
                go_roundg k2
                case measure => have := HK1.out; have := HK2.out; omega
                case rel => exact ⟨(wrap64 (x5_1 - 1)), (by first | rfl | (simp; done) | (simp [*]; done)), H', ⟨by have := HK1.out; have := HK2.out; omega⟩, by repeat (first | exact Drawn0.refl _ | apply Drawn0.step)⟩
              · replace c12 := Bool.eq_false_iff.mpr c12
                subst c12
                have H1 : (if 0 ≤ x5_1 then (if x5_1 ≤ (a0.size : Int) then (some (a0.extract 0 (x5_1 : Int).toNat)) else (none)) else (none)) = some r := by rw [if_neg (show ¬ (false = true) by decide)] at H; exact H
                clear H
                have H := H1
                clear H1
                by_cases c13 : 0 ≤ x5_1
                · rw [if_pos c13] at H
                  have c13b0 := eq_true c13
                  have c13b1 : decide (0 ≤ x5_1) = true := decide_eq_true c13
                  clear c13
                  by_cases c14 : x5_1 ≤ (a0.size : Int)
                  · rw [if_pos c14] at H
                    have c14b0 := eq_true c14
                    have c14b1 : decide (x5_1 ≤ (a0.size : Int)) = true := decide_eq_true c14
                    clear c14
                    obtain rfl := Option.some.inj H
                    go_wp2
                    repeat (go_quiet (fail); try go_wp2)
                    go_ret
                    exact ⟨by first | rfl | (simp; done) | (simp [*]; done), by repeat (first | exact Drawn0.refl _ | apply Drawn0.step)⟩
                  · rw [if_neg c14] at H
                    exact absurd H (by simp)
                · rw [if_neg c13] at H
                  exact absurd H (by simp)
      · rw [if_neg c3] at H
        have c3b0 : decide (0 < x5_1) = false := decide_eq_false c3
        clear c3
        by_cases c15 : 0 ≤ x5_1
        · rw [if_pos c15] at H
          have c15b0 := eq_true c15
          have c15b1 : decide (0 ≤ x5_1) = true := decide_eq_true c15
          clear c15
          by_cases c16 : x5_1 ≤ (a0.size : Int)
          · rw [if_pos c16] at H
            have c16b0 := eq_true c16
            have c16b1 : decide (x5_1 ≤ (a0.size : Int)) = true := decide_eq_true c16
            clear c16
            obtain rfl := Option.some.inj H
            go_wp2
            repeat (go_quiet (fail); try go_wp2)
            go_ret
            exact ⟨by first | rfl | (simp; done) | (simp [*]; done), by repeat (first | exact Drawn0.refl _ | apply Drawn0.step)⟩
          · rw [if_neg c16] at H
            exact absurd H (by simp)
        · rw [if_neg c15] at H
          exact absurd H (by simp)

-- NOT PRINTED: function 40 (gopher_lua_zzInSet)

-- NOT PRINTED: function 31 (gopher_lua_zzTrimLeft)

-- NOT PRINTED: function 18 (gopher_lua_zzTrim)

/-! ### strconv_lower: function 50 -/
def strconv_lower.f (a0 : Int) : Option (Int) := some (Go.bits .or .u8 a0 32)
set_option maxHeartbeats 8000000 in
set_option maxRecDepth 100000 in
theorem strconv_lower.calls (a0 : Int) (r : Int) (w : World) (h : strconv_lower.f a0 = some r) :
    Calls Tryz.prog 50 #[.int .u8 a0] w fun e w' => e = .returned (.int .u8 r) ∧ Drawn0 w w' := by
  have H : (some (Go.bits .or .u8 a0 32)) = some r := h
  clear h
  obtain rfl := Option.some.inj H
  go_enter Tryz.func50, Tryz.ntmps50
  go_wp2
  go_ret
  exact ⟨by first | rfl | (simp; done) | (simp [*]; done), by repeat (first | exact Drawn0.refl _ | apply Drawn0.step)⟩

/-! ### strconv_underscoreOK: function 51 -/
mutual
def strconv_underscoreOK.j0 : Nat → ByteArray → Int → Int → Bool → Option (Bool)
  | 0, _, _, _, _ => none
  | k + 1, x0, x3, x4, x18 => if x18 = true then (if 1 ≤ (x0.size : Int) then (strconv_underscoreOK.j1 k (x0.extract 1 x0.size) x3 x4) else (none)) else (strconv_underscoreOK.j1 k x0 x3 x4)
def strconv_underscoreOK.j1 : Nat → ByteArray → Int → Int → Option (Bool)
  | 0, _, _, _ => none
  | k + 1, x0, x3, x4 => if (x0.size : Int) ≥ 2 then (if 0 < (x0.size : Int) then (if (bt x0 0) = 48 then (if 1 < (x0.size : Int) then (if (Go.bits .or .u8 (bt x0 1) 32) = 98 then (strconv_underscoreOK.j2 k x0 x3 x4 false true) else (if (Go.bits .or .u8 (bt x0 1) 32) = 111 then (strconv_underscoreOK.j2 k x0 x3 x4 false true) else (strconv_underscoreOK.j2 k x0 x3 x4 false ((Go.bits .or .u8 (bt x0 1) 32) == 120)))) else (none)) else (strconv_underscoreOK.j2 k x0 x3 x4 false false)) else (none)) else (strconv_underscoreOK.j2 k x0 x3 x4 false false)
def strconv_underscoreOK.j2 : Nat → ByteArray → Int → Int → Bool → Bool → Option (Bool)
  | 0, _, _, _, _, _ => none
  | k + 1, x0, x3, x4, x5, x46 => if x46 = true then (if 1 < (x0.size : Int) then (strconv_underscoreOK.j3 k x0 48 2 ((Go.bits .or .u8 (bt x0 1) 32) == 120)) else (none)) else (strconv_underscoreOK.j3 k x0 x3 x4 x5)
def strconv_underscoreOK.j3 : Nat → ByteArray → Int → Int → Bool → Option (Bool)
  | 0, _, _, _, _ => none
  | k + 1, x0, x3, x4, x5 => strconv_underscoreOK.l0 k x0 x3 x4 x5
def strconv_underscoreOK.l0 : Nat → ByteArray → Int → Int → Bool → Option (Bool)
  | 0, _, _, _, _ => none
  | k + 1, x0, x3, x4, x5 => if x4 < (x0.size : Int) then (if 0 ≤ x4 then (if 48 ≤ (bt x0 x4) then (if (bt x0 x4) ≤ 57 then (strconv_underscoreOK.j5 k x0 x3 x4 x5 true) else (if x5 = true then (if 97 ≤ (Go.bits .or .u8 (bt x0 x4) 32) then (strconv_underscoreOK.j5 k x0 x3 x4 x5 (decide ((Go.bits .or .u8 (bt x0 x4) 32) ≤ 102))) else (strconv_underscoreOK.j5 k x0 x3 x4 x5 false)) else (strconv_underscoreOK.j5 k x0 x3 x4 x5 false))) else (if x5 = true then (if 97 ≤ (Go.bits .or .u8 (bt x0 x4) 32) then (strconv_underscoreOK.j5 k x0 x3 x4 x5 (decide ((Go.bits .or .u8 (bt x0 x4) 32) ≤ 102))) else (strconv_underscoreOK.j5 k x0 x3 x4 x5 false)) else (strconv_underscoreOK.j5 k x0 x3 x4 x5 false))) else (none)) else (some (x3 != 95))
def strconv_underscoreOK.j5 : Nat → ByteArray → Int → Int → Bool → Bool → Option (Bool)
  | 0, _, _, _, _, _ => none
  | k + 1, x0, x3, x4, x5, x83 => if x83 = true then (strconv_underscoreOK.l0 k x0 48 (wrap64 (x4 + 1)) x5) else (if 0 ≤ x4 then (if x4 < (x0.size : Int) then (if (bt x0 x4) = 95 then (if x3 = 48 then (strconv_underscoreOK.l0 k x0 95 (wrap64 (x4 + 1)) x5) else (some false)) else (if x3 = 95 then (some false) else (strconv_underscoreOK.l0 k x0 33 (wrap64 (x4 + 1)) x5))) else (none)) else (none))
end
def strconv_underscoreOK.f (k : Nat) (a0 : ByteArray) : Option (Bool) := if (a0.size : Int) ≥ 1 then (if 0 < (a0.size : Int) then (if (bt a0 0) = 45 then (strconv_underscoreOK.j0 k a0 94 0 true) else (strconv_underscoreOK.j0 k a0 94 0 ((bt a0 0) == 43))) else (none)) else (strconv_underscoreOK.j0 k a0 94 0 false)
set_option maxHeartbeats 8000000 in
set_option maxRecDepth 100000 in
theorem strconv_underscoreOK.calls (k : Nat) (a0 : ByteArray) (r : Bool) (w : World) (h : strconv_underscoreOK.f k a0 = some r) :
    Calls Tryz.prog 51 #[.string a0] w fun e w' => e = .returned (.bool r) ∧ Drawn0 w w' := by
  have H : (if (a0.size : Int) ≥ 1 then (if 0 < (a0.size : Int) then (if (bt a0 0) = 45 then (strconv_underscoreOK.j0 k a0 94 0 true) else (strconv_underscoreOK.j0 k a0 94 0 ((bt a0 0) == 43))) else (none)) else (strconv_underscoreOK.j0 k a0 94 0 false)) = some r := h
  clear h
  have HC2 := Aside0.mk H
  clear H
  go_enter Tryz.func51, Tryz.ntmps51
  go_upto_region 3 with (fail)
  go_cut [18] (fun v18 wc => ∃ (kq : Nat) (x18_1 : Bool), v18 = .bool x18_1 ∧ Aside0 (strconv_underscoreOK.j0 kq a0 94 0 x18_1 = some r) ∧ Aside0 (kq ≤ k) ∧ Drawn0 w wc)
  case first =>
    have H := HC2.out
    clear HC2
    by_cases c3 : (a0.size : Int) ≥ 1
    · rw [if_pos c3] at H
      have c3b0 : decide (1 ≤ (a0.size : Int)) = true := decide_eq_true c3
      have c3b1 : decide (1 ≤ a0.size) = true := decide_eq_true (by omega)
      clear c3
      (first | rw [c3b0] | (simp only [i64_w, i32_w]; rw [c3b0]) | skip)
      by_cases c4 : 0 < (a0.size : Int)
      · rw [if_pos c4] at H
        have c4b0 : decide (0 < (a0.size : Int)) = true := decide_eq_true c4
        have c4b1 : decide (0 < a0.size) = true := decide_eq_true (by omega)
        clear c4
        by_cases c6 : (bt a0 0) = 45
        · rw [if_pos c6] at H
          have c6b0 : ((bt a0 0) == 45) = true := beq_iff_eq.mpr c6
          have c6b1 : ((bt a0 0) != 45) = false := bne_eq_false_iff_eq.mpr c6
          clear c6
          have H' := Aside0.mk H
          clear H
          have p5 : 0 ≤ (0 : Int) := (by omega)
          have q5 : 0 < a0.size := (by have : (0 : Int) < (a0.size : Int) := of_decide_eq_true (by first | (with_reducible assumption) | assumption); omega)
          have hx5 : ∀ h : 0 < a0.size, ((a0[0]'h).toNat : Int) = bt a0 0 := bt_at a0 0
          clear p5
          have qi5 : (0 < (a0.size : Int)) = True := eq_true (of_decide_eq_true (by first | (with_reducible assumption) | assumption))
          replace q5 := eq_true q5
          go_wp2
          go_meet
          case rel => exact ⟨_, (true), (by first | rfl | (simp; done) | (simp [*]; done)), H', ⟨by first | omega | exact Nat.le_refl _⟩, by repeat (first | exact Drawn0.refl _ | apply Drawn0.step)⟩
        · rw [if_neg c6] at H
          have c6b0 : ((bt a0 0) == 45) = false := beq_eq_false_iff_ne.mpr c6
          have c6b1 : ((bt a0 0) != 45) = true := bne_iff_ne.mpr c6
          have H' := Aside0.mk H
          clear H
          have p5 : 0 ≤ (0 : Int) := (by omega)
          have q5 : 0 < a0.size := (by have : (0 : Int) < (a0.size : Int) := of_decide_eq_true (by first | (with_reducible assumption) | assumption); omega)
          have hx5 : ∀ h : 0 < a0.size, ((a0[0]'h).toNat : Int) = bt a0 0 := bt_at a0 0
          clear p5
          have qi5 : (0 < (a0.size : Int)) = True := eq_true (of_decide_eq_true (by first | (with_reducible assumption) | assumption))
          replace q5 := eq_true q5
          have p7 : 0 ≤ (0 : Int) := (by omega)
          have q7 : 0 < a0.size := (by have : (0 : Int) < (a0.size : Int) := of_decide_eq_true (by first | (with_reducible assumption) | assumption); omega)
          have hx7 : ∀ h : 0 < a0.size, ((a0[0]'h).toNat : Int) = bt a0 0 := bt_at a0 0
          clear p7
          have qi7 : (0 < (a0.size : Int)) = True := eq_true (of_decide_eq_true (by first | (with_reducible assumption) | assumption))
          replace q7 := eq_true q7
          go_wp2
          go_meet
          case rel => exact ⟨_, (((bt a0 0) == 43)), (by first | rfl | (simp; done) | (simp [*]; done)), H', ⟨by first | omega | exact Nat.le_refl _⟩, by repeat (first | exact Drawn0.refl _ | apply Drawn0.step)⟩
      · rw [if_neg c4] at H
        exact absurd H (by simp)
    · rw [if_neg c3] at H
      have c3b0 : decide (1 ≤ (a0.size : Int)) = false := decide_eq_false c3
      have c3b1 : decide (1 ≤ a0.size) = false := decide_eq_false (by omega)
      clear c3
      (first | rw [c3b0] | (simp only [i64_w, i32_w]; rw [c3b0]) | skip)
      have H' := Aside0.mk H
      clear H
      go_wp2
      go_meet
      case rel => exact ⟨_, (false), (by first | rfl | (simp; done) | (simp [*]; done)), H', ⟨by first | omega | exact Nat.le_refl _⟩, by repeat (first | exact Drawn0.refl _ | apply Drawn0.step)⟩
  case rest =>
    clear HC2
    try clear p2
    try clear c3
    try clear c3b0
    try clear c3b1
    try clear c4
    try clear c4b0
    try clear c4b1
    try clear c5
    try clear p5
    try clear q5
    try clear hx5
    try clear qi5
    try clear c6
    try clear c6b0
    try clear c6b1
    try clear p7
    try clear q7
    try clear hx7
    try clear qi7
    try clear p5
    try clear p7
    try clear q5
    try clear q7
    obtain ⟨kq, x18_1, rfl, HA, HJ1, ⟨mc1, rfl⟩⟩ := hcut
    cases kq with
    | zero => exact absurd HA.out (by simp [strconv_underscoreOK.j0])
    | succ kj1 =>
      have H := HA.out
      clear HA
      simp only [strconv_underscoreOK.j0] at H
      have HC8 := Aside0.mk H
      clear H
      go_upto_if 18 with (fail)
      go_cut [0] (fun v0 wc => ∃ (kq : Nat) (x0_7 : ByteArray), v0 = .string x0_7 ∧ Aside0 (strconv_underscoreOK.j1 kq x0_7 94 0 = some r) ∧ Aside0 (kq ≤ kj1) ∧ Drawn0 w wc)
      case first =>
        have H := HC8.out
        clear HC8
        by_cases c9 : x18_1 = true
        · subst c9
          have H1 : (if 1 ≤ (a0.size : Int) then (strconv_underscoreOK.j1 kj1 (a0.extract 1 a0.size) 94 0) else (none)) = some r := by rw [if_pos rfl] at H; exact H
          clear H
          have H := H1
          clear H1
          by_cases c10 : 1 ≤ (a0.size : Int)
          · rw [if_pos c10] at H
            have c10b0 := eq_true c10
            have c10b1 : decide (1 ≤ (a0.size : Int)) = true := decide_eq_true c10
            clear c10
            have H' := Aside0.mk H
            clear H
            go_wp2
            go_meet
            case rel => exact ⟨_, (a0.extract 1 a0.size), (by first | rfl | (simp; done) | (simp [*]; done)), H', ⟨by have := HJ1.out; first | omega | exact Nat.le_refl _⟩, by repeat (first | exact Drawn0.refl _ | apply Drawn0.step)⟩
          · rw [if_neg c10] at H
            exact absurd H (by simp)
        · replace c9 := Bool.eq_false_iff.mpr c9
          subst c9
          have H1 : (strconv_underscoreOK.j1 kj1 a0 94 0) = some r := by rw [if_neg (show ¬ (false = true) by decide)] at H; exact H
          clear H
          have H := H1
          clear H1
          have H' := Aside0.mk H
          clear H
          go_wp2
          go_meet
          case rel => exact ⟨_, (a0), (by first | rfl | (simp; done) | (simp [*]; done)), H', ⟨by have := HJ1.out; first | omega | exact Nat.le_refl _⟩, by repeat (first | exact Drawn0.refl _ | apply Drawn0.step)⟩
      case rest =>
        clear HC8
        try clear c1
        try clear p2
        try clear c3
        try clear c3b0
        try clear c3b1
        try clear c4
        try clear c4b0
        try clear c4b1
        try clear c5
        try clear p5
        try clear q5
        try clear hx5
        try clear qi5
        try clear c6
        try clear c6b0
        try clear c6b1
        try clear p7
        try clear q7
        try clear hx7
        try clear qi7
        try clear c9
        try clear c10
        try clear c10b0
        try clear c10b1
        try clear p2
        try clear p5
        try clear p7
        try clear q5
        try clear q7
        obtain ⟨kq, x0_7, rfl, HA, HJ7, ⟨mc7, rfl⟩⟩ := hcut
        cases kq with
        | zero => exact absurd HA.out (by simp [strconv_underscoreOK.j1])
        | succ kj7 =>
          have H := HA.out
          clear HA
          simp only [strconv_underscoreOK.j1] at H
          have HC11 := Aside0.mk H
          clear H
          go_upto_region 6 with (fail)
          go_cut [46] (fun v46 wc => ∃ (kq : Nat) (x46_10 : Bool), v46 = .bool x46_10 ∧ Aside0 (strconv_underscoreOK.j2 kq x0_7 94 0 false x46_10 = some r) ∧ Aside0 (kq ≤ kj7) ∧ Drawn0 w wc)
          case first =>
            have H := HC11.out
            clear HC11
            by_cases c12 : (x0_7.size : Int) ≥ 2
            · rw [if_pos c12] at H
              have c12b0 : decide (2 ≤ (x0_7.size : Int)) = true := decide_eq_true c12
              have c12b1 : decide (2 ≤ x0_7.size) = true := decide_eq_true (by omega)
              clear c12
              (first | rw [c12b0] | (simp only [i64_w, i32_w]; rw [c12b0]) | skip)
              by_cases c13 : 0 < (x0_7.size : Int)
              · rw [if_pos c13] at H
                have c13b0 : decide (0 < (x0_7.size : Int)) = true := decide_eq_true c13
                have c13b1 : decide (0 < x0_7.size) = true := decide_eq_true (by omega)
                clear c13
                by_cases c15 : (bt x0_7 0) = 48
                · rw [if_pos c15] at H
                  have c15b0 : ((bt x0_7 0) == 48) = true := beq_iff_eq.mpr c15
                  have c15b1 : ((bt x0_7 0) != 48) = false := bne_eq_false_iff_eq.mpr c15
                  clear c15
                  by_cases c16 : 1 < (x0_7.size : Int)
                  · rw [if_pos c16] at H
                    have c16b0 : decide (1 < (x0_7.size : Int)) = true := decide_eq_true c16
                    have c16b1 : decide (1 < x0_7.size) = true := decide_eq_true (by omega)
                    clear c16
                    by_cases c18 : (Go.bits .or .u8 (bt x0_7 1) 32) = 98
                    · rw [if_pos c18] at H
                      have c18b0 : ((Go.bits .or .u8 (bt x0_7 1) 32) == 98) = true := beq_iff_eq.mpr c18
                      have c18b1 : ((Go.bits .or .u8 (bt x0_7 1) 32) != 98) = false := bne_eq_false_iff_eq.mpr c18
                      clear c18
                      have H' := Aside0.mk H
                      clear H
                      have p14 : 0 ≤ (0 : Int) := (by omega)
                      have q14 : 0 < x0_7.size := (by have : (0 : Int) < (x0_7.size : Int) := of_decide_eq_true (by first | (with_reducible assumption) | assumption); omega)
                      have hx14 : ∀ h : 0 < x0_7.size, ((x0_7[0]'h).toNat : Int) = bt x0_7 0 := bt_at x0_7 0
                      clear p14
                      have qi14 : (0 < (x0_7.size : Int)) = True := eq_true (of_decide_eq_true (by first | (with_reducible assumption) | assumption))
                      replace q14 := eq_true q14
                      have p17 : 0 ≤ (1 : Int) := (by omega)
                      have q17 : 1 < x0_7.size := (by have : (1 : Int) < (x0_7.size : Int) := of_decide_eq_true (by first | (with_reducible assumption) | assumption); omega)
                      have hx17 : ∀ h : 1 < x0_7.size, ((x0_7[1]'h).toNat : Int) = bt x0_7 1 := bt_at x0_7 1
                      clear p17
                      have qi17 : (1 < (x0_7.size : Int)) = True := eq_true (of_decide_eq_true (by first | (with_reducible assumption) | assumption))
                      replace q17 := eq_true q17
                      go_wp2
                      go_meet
                      case rel => exact ⟨_, (true), (by first | rfl | (simp; done) | (simp [*]; done)), H', ⟨by have := HJ1.out; have := HJ7.out; first | omega | exact Nat.le_refl _⟩, by repeat (first | exact Drawn0.refl _ | apply Drawn0.step)⟩
                    · rw [if_neg c18] at H
                      have c18b0 : ((Go.bits .or .u8 (bt x0_7 1) 32) == 98) = false := beq_eq_false_iff_ne.mpr c18
                      have c18b1 : ((Go.bits .or .u8 (bt x0_7 1) 32) != 98) = true := bne_iff_ne.mpr c18
                      by_cases c20 : (Go.bits .or .u8 (bt x0_7 1) 32) = 111
                      · rw [if_pos c20] at H
                        have c20b0 : ((Go.bits .or .u8 (bt x0_7 1) 32) == 111) = true := beq_iff_eq.mpr c20
                        have c20b1 : ((Go.bits .or .u8 (bt x0_7 1) 32) != 111) = false := bne_eq_false_iff_eq.mpr c20
                        clear c20
                        have H' := Aside0.mk H
                        clear H
                        have p14 : 0 ≤ (0 : Int) := (by omega)
                        have q14 : 0 < x0_7.size := (by have : (0 : Int) < (x0_7.size : Int) := of_decide_eq_true (by first | (with_reducible assumption) | assumption); omega)
                        have hx14 : ∀ h : 0 < x0_7.size, ((x0_7[0]'h).toNat : Int) = bt x0_7 0 := bt_at x0_7 0
                        clear p14
                        have qi14 : (0 < (x0_7.size : Int)) = True := eq_true (of_decide_eq_true (by first | (with_reducible assumption) | assumption))
                        replace q14 := eq_true q14
                        have p17 : 0 ≤ (1 : Int) := (by omega)
                        have q17 : 1 < x0_7.size := (by have : (1 : Int) < (x0_7.size : Int) := of_decide_eq_true (by first | (with_reducible assumption) | assumption); omega)
                        have hx17 : ∀ h : 1 < x0_7.size, ((x0_7[1]'h).toNat : Int) = bt x0_7 1 := bt_at x0_7 1
                        clear p17
                        have qi17 : (1 < (x0_7.size : Int)) = True := eq_true (of_decide_eq_true (by first | (with_reducible assumption) | assumption))
                        replace q17 := eq_true q17
                        have p19 : 0 ≤ (1 : Int) := (by omega)
                        have q19 : 1 < x0_7.size := (by have : (1 : Int) < (x0_7.size : Int) := of_decide_eq_true (by first | (with_reducible assumption) | assumption); omega)
                        have hx19 : ∀ h : 1 < x0_7.size, ((x0_7[1]'h).toNat : Int) = bt x0_7 1 := bt_at x0_7 1
                        clear p19
                        have qi19 : (1 < (x0_7.size : Int)) = True := eq_true (of_decide_eq_true (by first | (with_reducible assumption) | assumption))
                        replace q19 := eq_true q19
                        go_wp2
                        go_meet
                        case rel => exact ⟨_, (true), (by first | rfl | (simp; done) | (simp [*]; done)), H', ⟨by have := HJ1.out; have := HJ7.out; first | omega | exact Nat.le_refl _⟩, by repeat (first | exact Drawn0.refl _ | apply Drawn0.step)⟩
                      · rw [if_neg c20] at H
                        have c20b0 : ((Go.bits .or .u8 (bt x0_7 1) 32) == 111) = false := beq_eq_false_iff_ne.mpr c20
                        have c20b1 : ((Go.bits .or .u8 (bt x0_7 1) 32) != 111) = true := bne_iff_ne.mpr c20
                        have H' := Aside0.mk H
                        clear H
                        have p14 : 0 ≤ (0 : Int) := (by omega)
                        have q14 : 0 < x0_7.size := (by have : (0 : Int) < (x0_7.size : Int) := of_decide_eq_true (by first | (with_reducible assumption) | assumption); omega)
                        have hx14 : ∀ h : 0 < x0_7.size, ((x0_7[0]'h).toNat : Int) = bt x0_7 0 := bt_at x0_7 0
                        clear p14
                        have qi14 : (0 < (x0_7.size : Int)) = True := eq_true (of_decide_eq_true (by first | (with_reducible assumption) | assumption))
                        replace q14 := eq_true q14
                        have p17 : 0 ≤ (1 : Int) := (by omega)
                        have q17 : 1 < x0_7.size := (by have : (1 : Int) < (x0_7.size : Int) := of_decide_eq_true (by first | (with_reducible assumption) | assumption); omega)
                        have hx17 : ∀ h : 1 < x0_7.size, ((x0_7[1]'h).toNat : Int) = bt x0_7 1 := bt_at x0_7 1
                        clear p17
                        have qi17 : (1 < (x0_7.size : Int)) = True := eq_true (of_decide_eq_true (by first | (with_reducible assumption) | assumption))
                        replace q17 := eq_true q17
                        have p19 : 0 ≤ (1 : Int) := (by omega)
                        have q19 : 1 < x0_7.size := (by have : (1 : Int) < (x0_7.size : Int) := of_decide_eq_true (by first | (with_reducible assumption) | assumption); omega)
                        have hx19 : ∀ h : 1 < x0_7.size, ((x0_7[1]'h).toNat : Int) = bt x0_7 1 := bt_at x0_7 1
                        clear p19
                        have qi19 : (1 < (x0_7.size : Int)) = True := eq_true (of_decide_eq_true (by first | (with_reducible assumption) | assumption))
                        replace q19 := eq_true q19
                        have p21 : 0 ≤ (1 : Int) := (by omega)
                        have q21 : 1 < x0_7.size := (by have : (1 : Int) < (x0_7.size : Int) := of_decide_eq_true (by first | (with_reducible assumption) | assumption); omega)
                        have hx21 : ∀ h : 1 < x0_7.size, ((x0_7[1]'h).toNat : Int) = bt x0_7 1 := bt_at x0_7 1
                        clear p21
                        have qi21 : (1 < (x0_7.size : Int)) = True := eq_true (of_decide_eq_true (by first | (with_reducible assumption) | assumption))
                        replace q21 := eq_true q21
                        go_wp2
                        go_meet
                        case rel => exact ⟨_, (((Go.bits .or .u8 (bt x0_7 1) 32) == 120)), (by first | rfl | (simp; done) | (simp [*]; done)), H', ⟨by have := HJ1.out; have := HJ7.out; first | omega | exact Nat.le_refl _⟩, by repeat (first | exact Drawn0.refl _ | apply Drawn0.step)⟩
                  · rw [if_neg c16] at H
                    exact absurd H (by simp)
                · rw [if_neg c15] at H
                  have c15b0 : ((bt x0_7 0) == 48) = false := beq_eq_false_iff_ne.mpr c15
                  have c15b1 : ((bt x0_7 0) != 48) = true := bne_iff_ne.mpr c15
                  have H' := Aside0.mk H
                  clear H
                  have p14 : 0 ≤ (0 : Int) := (by omega)
                  have q14 : 0 < x0_7.size := (by have : (0 : Int) < (x0_7.size : Int) := of_decide_eq_true (by first | (with_reducible assumption) | assumption); omega)
                  have hx14 : ∀ h : 0 < x0_7.size, ((x0_7[0]'h).toNat : Int) = bt x0_7 0 := bt_at x0_7 0
                  clear p14
                  have qi14 : (0 < (x0_7.size : Int)) = True := eq_true (of_decide_eq_true (by first | (with_reducible assumption) | assumption))
                  replace q14 := eq_true q14
                  go_wp2
                  go_meet
                  case rel => exact ⟨_, (false), (by first | rfl | (simp; done) | (simp [*]; done)), H', ⟨by have := HJ1.out; have := HJ7.out; first | omega | exact Nat.le_refl _⟩, by repeat (first | exact Drawn0.refl _ | apply Drawn0.step)⟩
              · rw [if_neg c13] at H
                exact absurd H (by simp)
            · rw [if_neg c12] at H
              have c12b0 : decide (2 ≤ (x0_7.size : Int)) = false := decide_eq_false c12
              have c12b1 : decide (2 ≤ x0_7.size) = false := decide_eq_false (by omega)
              clear c12
              (first | rw [c12b0] | (simp only [i64_w, i32_w]; rw [c12b0]) | skip)
              have H' := Aside0.mk H
              clear H
              go_wp2
              go_meet
              case rel => exact ⟨_, (false), (by first | rfl | (simp; done) | (simp [*]; done)), H', ⟨by have := HJ1.out; have := HJ7.out; first | omega | exact Nat.le_refl _⟩, by repeat (first | exact Drawn0.refl _ | apply Drawn0.step)⟩
          case rest =>
            clear HC11
            try clear c1
            try clear p1
            try clear q1
            try clear hx1
            try clear qi1
            try clear c2
            try clear p2
            try clear q2
            try clear hx2
            try clear qi2
            try clear c3
            try clear c3b0
            try clear c3b1
            try clear c4
            try clear c4b0
            try clear c4b1
            try clear c5
            try clear p5
            try clear q5
            try clear hx5
            try clear qi5
            try clear c6
            try clear c6b0
            try clear c6b1
            try clear c7
            try clear p7
            try clear q7
            try clear hx7
            try clear qi7
            try clear c9
            try clear c10
            try clear c10b0
            try clear c10b1
            try clear c12
            try clear c12b0
            try clear c12b1
            try clear c13
            try clear c13b0
            try clear c13b1
            try clear p14
            try clear q14
            try clear hx14
            try clear qi14
            try clear c15
            try clear c15b0
            try clear c15b1
            try clear c16
            try clear c16b0
            try clear c16b1
            try clear p17
            try clear q17
            try clear hx17
            try clear qi17
            try clear c18
            try clear c18b0
            try clear c18b1
            try clear p19
            try clear q19
            try clear hx19
            try clear qi19
            try clear c20
            try clear c20b0
            try clear c20b1
            try clear p21
            try clear q21
            try clear hx21
            try clear qi21
            try clear p14
            try clear p17
            try clear p19
            try clear p2
            try clear p21
            try clear p5
            try clear p7
            try clear q14
            try clear q17
            try clear q19
            try clear q21
            try clear q5
            try clear q7
            obtain ⟨kq, x46_10, rfl, HA, HJ10, ⟨mc10, rfl⟩⟩ := hcut
            cases kq with
            | zero => exact absurd HA.out (by simp [strconv_underscoreOK.j2])
            | succ kj10 =>
              have H := HA.out
              clear HA
              simp only [strconv_underscoreOK.j2] at H
              have HC22 := Aside0.mk H
              clear H
              go_upto_if 46 with (fail)
              go_cut [3, 4, 5] (fun v3 v4 v5 wc => ∃ (kq : Nat) (x3_21 : Int) (x4_21 : Int) (x5_21 : Bool), v3 = .int .i32 x3_21 ∧ v4 = .int .i64 x4_21 ∧ v5 = .bool x5_21 ∧ Aside0 (strconv_underscoreOK.j3 kq x0_7 x3_21 x4_21 x5_21 = some r) ∧ Aside0 (kq ≤ kj10) ∧ Drawn0 w wc)
              case first =>
                have H := HC22.out
                clear HC22
                by_cases c23 : x46_10 = true
                · subst c23
                  have H1 : (if 1 < (x0_7.size : Int) then (strconv_underscoreOK.j3 kj10 x0_7 48 2 ((Go.bits .or .u8 (bt x0_7 1) 32) == 120)) else (none)) = some r := by rw [if_pos rfl] at H; exact H
                  clear H
                  have H := H1
                  clear H1
                  by_cases c24 : 1 < (x0_7.size : Int)
                  · rw [if_pos c24] at H
                    have c24b0 : decide (1 < (x0_7.size : Int)) = true := decide_eq_true c24
                    have c24b1 : decide (1 < x0_7.size) = true := decide_eq_true (by omega)
                    clear c24
                    (first | rw [c24b0] | (simp only [i64_w, i32_w]; rw [c24b0]) | skip)
                    have H' := Aside0.mk H
                    clear H
                    have p25 : 0 ≤ (1 : Int) := (by omega)
                    have q25 : 1 < x0_7.size := (by have : (1 : Int) < (x0_7.size : Int) := of_decide_eq_true (by first | (with_reducible assumption) | assumption); omega)
                    have hx25 : ∀ h : 1 < x0_7.size, ((x0_7[1]'h).toNat : Int) = bt x0_7 1 := bt_at x0_7 1
                    clear p25
                    have qi25 : (1 < (x0_7.size : Int)) = True := eq_true (of_decide_eq_true (by first | (with_reducible assumption) | assumption))
                    replace q25 := eq_true q25
                    go_wp2
                    go_meet
                    case rel => exact ⟨_, (48), (2), (((Go.bits .or .u8 (bt x0_7 1) 32) == 120)), (by first | rfl | (simp; done) | (simp [*]; done)), (by first | rfl | (simp; done) | (simp [*]; done)), (by first | rfl | (simp; done) | (simp [*]; done)), H', ⟨by have := HJ1.out; have := HJ7.out; have := HJ10.out; first | omega | exact Nat.le_refl _⟩, by repeat (first | exact Drawn0.refl _ | apply Drawn0.step)⟩
                  · rw [if_neg c24] at H
                    exact absurd H (by simp)
                · replace c23 := Bool.eq_false_iff.mpr c23
                  subst c23
                  have H1 : (strconv_underscoreOK.j3 kj10 x0_7 94 0 false) = some r := by rw [if_neg (show ¬ (false = true) by decide)] at H; exact H
                  clear H
                  have H := H1
                  clear H1
                  have H' := Aside0.mk H
                  clear H
                  go_wp2
                  go_meet
                  case rel => exact ⟨_, (94), (0), (false), (by first | rfl | (simp; done) | (simp [*]; done)), (by first | rfl | (simp; done) | (simp [*]; done)), (by first | rfl | (simp; done) | (simp [*]; done)), H', ⟨by have := HJ1.out; have := HJ7.out; have := HJ10.out; first | omega | exact Nat.le_refl _⟩, by repeat (first | exact Drawn0.refl _ | apply Drawn0.step)⟩
              case rest =>
                clear HC22
                try clear c1
                try clear p1
                try clear q1
                try clear hx1
                try clear qi1
                try clear c2
                try clear p2
                try clear q2
                try clear hx2
                try clear qi2
                try clear c3
                try clear c3b0
                try clear c3b1
                try clear c4
                try clear c4b0
                try clear c4b1
                try clear c5
                try clear p5
                try clear q5
                try clear hx5
                try clear qi5
                try clear c6
                try clear c6b0
                try clear c6b1
                try clear c7
                try clear p7
                try clear q7
                try clear hx7
                try clear qi7
                try clear c9
                try clear c10
                try clear c10b0
                try clear c10b1
                try clear c12
                try clear c12b0
                try clear c12b1
                try clear c13
                try clear c13b0
                try clear c13b1
                try clear p14
                try clear q14
                try clear hx14
                try clear qi14
                try clear c15
                try clear c15b0
                try clear c15b1
                try clear c16
                try clear c16b0
                try clear c16b1
                try clear p17
                try clear q17
                try clear hx17
                try clear qi17
                try clear c18
                try clear c18b0
                try clear c18b1
                try clear p19
                try clear q19
                try clear hx19
                try clear qi19
                try clear c20
                try clear c20b0
                try clear c20b1
                try clear p21
                try clear q21
                try clear hx21
                try clear qi21
                try clear c23
                try clear c24
                try clear c24b0
                try clear c24b1
                try clear p25
                try clear q25
                try clear hx25
                try clear qi25
                try clear p1
                try clear p14
                try clear p17
                try clear p19
                try clear p2
                try clear p21
                try clear p25
                try clear p5
                try clear p7
                try clear q1
                try clear q14
                try clear q17
                try clear q19
                try clear q2
                try clear q21
                try clear q25
                try clear q5
                try clear q7
                obtain ⟨kq, x3_21, x4_21, x5_21, rfl, rfl, rfl, HA, HJ21, ⟨mc21, rfl⟩⟩ := hcut
                cases kq with
                | zero => exact absurd HA.out (by simp [strconv_underscoreOK.j3])
                | succ kj21 =>
                  have H := HA.out
                  clear HA
                  simp only [strconv_underscoreOK.j3] at H
                  have H' := Aside0.mk H
                  clear H
                  go_wp2
                  go_loopg [3, 4] kj21 (fun kq v3 v4 w' => ∃ (x3_5 : Int) (x4_5 : Int), v3 = .int .i32 x3_5 ∧ v4 = .int .i64 x4_5 ∧ Aside0 (strconv_underscoreOK.l0 kq x0_7 x3_5 x4_5 x5_21 = some r) ∧ Aside0 (kq ≤ kj21) ∧ Drawn0 w w')
                  case atStart => exact ⟨(x3_21), (x4_21), (by first | rfl | (simp; done) | (simp [*]; done)), (by first | rfl | (simp; done) | (simp [*]; done)), H', ⟨Nat.le_refl _⟩, by repeat (first | exact Drawn0.refl _ | apply Drawn0.step)⟩
                  case round =>
                    clear H'
                    try clear c1
                    try clear p1
                    try clear q1
                    try clear hx1
                    try clear qi1
                    try clear c2
                    try clear p2
                    try clear q2
                    try clear hx2
                    try clear qi2
                    try clear c3
                    try clear c3b0
                    try clear c3b1
                    try clear c4
                    try clear c4b0
                    try clear c4b1
                    try clear c5
                    try clear p5
                    try clear q5
                    try clear hx5
                    try clear qi5
                    try clear c6
                    try clear c6b0
                    try clear c6b1
                    try clear c7
                    try clear p7
                    try clear q7
                    try clear hx7
                    try clear qi7
                    try clear c9
                    try clear c10
                    try clear c10b0
                    try clear c10b1
                    try clear c12
                    try clear c12b0
                    try clear c12b1
                    try clear c13
                    try clear c13b0
                    try clear c13b1
                    try clear p14
                    try clear q14
                    try clear hx14
                    try clear qi14
                    try clear c15
                    try clear c15b0
                    try clear c15b1
                    try clear c16
                    try clear c16b0
                    try clear c16b1
                    try clear p17
                    try clear q17
                    try clear hx17
                    try clear qi17
                    try clear c18
                    try clear c18b0
                    try clear c18b1
                    try clear p19
                    try clear q19
                    try clear hx19
                    try clear qi19
                    try clear c20
                    try clear c20b0
                    try clear c20b1
                    try clear c21
                    try clear p21
                    try clear q21
                    try clear hx21
                    try clear qi21
                    try clear c23
                    try clear c24
                    try clear c24b0
                    try clear c24b1
                    try clear p25
                    try clear q25
                    try clear hx25
                    try clear qi25
                    try clear p1
                    try clear p14
                    try clear p17
                    try clear p19
                    try clear p2
                    try clear p21
                    try clear p25
                    try clear p5
                    try clear p7
                    try clear q1
                    try clear q14
                    try clear q17
                    try clear q19
                    try clear q2
                    try clear q21
                    try clear q25
                    try clear q5
                    try clear q7
                    obtain ⟨x3_5, x4_5, rfl, rfl, HA, HK5, ⟨m5, rfl⟩⟩ := hrel
                    cases gk with
                    | zero => exact absurd HA.out (by simp [strconv_underscoreOK.l0])
                    | succ k5 =>
                      have H := HA.out
                      clear HA
                      simp only [strconv_underscoreOK.l0] at H
                      by_cases c26 : x4_5 < (x0_7.size : Int)
                      · rw [if_pos c26] at H
                        have c26b0 : decide (x4_5 < (x0_7.size : Int)) = true := decide_eq_true c26
                        clear c26
                        have HC27 := Aside0.mk H
                        clear H
                        go_upto_region 12 with (fail)
                        go_cut [83] (fun v83 wc => ∃ (kq : Nat) (x83_26 : Bool), v83 = .bool x83_26 ∧ Aside0 (strconv_underscoreOK.j5 kq x0_7 x3_5 x4_5 x5_21 x83_26 = some r) ∧ Aside0 (kq ≤ k5) ∧ Drawn0 w wc)
                        case first =>
                          have H := HC27.out
                          clear HC27
                          by_cases c28 : 0 ≤ x4_5
                          · rw [if_pos c28] at H
                            have c28b0 : decide (0 ≤ x4_5) = true := decide_eq_true c28
                            clear c28
                            (first | rw [c28b0] | (simp only [i64_w, i32_w]; rw [c28b0]) | skip)
                            by_cases c30 : 48 ≤ (bt x0_7 x4_5)
                            · rw [if_pos c30] at H
                              have c30b0 : decide (48 ≤ (bt x0_7 x4_5)) = true := decide_eq_true c30
                              clear c30
                              by_cases c32 : (bt x0_7 x4_5) ≤ 57
                              · rw [if_pos c32] at H
                                have c32b0 : decide ((bt x0_7 x4_5) ≤ 57) = true := decide_eq_true c32
                                clear c32
                                have H' := Aside0.mk H
                                clear H
                                have p29 : 0 ≤ (x4_5 : Int) := of_decide_eq_true (by first | (with_reducible assumption) | assumption)
                                have q29 : x4_5 < (x0_7.size : Int) := of_decide_eq_true (by first | (with_reducible assumption) | assumption)
                                have hx29 := bt_at x0_7 x4_5
                                replace p29 := eq_true p29
                                replace q29 := eq_true q29
                                have p31 : 0 ≤ (x4_5 : Int) := of_decide_eq_true (by first | (with_reducible assumption) | assumption)
                                have q31 : x4_5 < (x0_7.size : Int) := of_decide_eq_true (by first | (with_reducible assumption) | assumption)
                                have hx31 := bt_at x0_7 x4_5
                                replace p31 := eq_true p31
                                replace q31 := eq_true q31
                                go_wp2
                                go_meet
                                case rel => exact ⟨_, (true), (by first | rfl | (simp; done) | (simp [*]; done)), H', ⟨by have := HJ1.out; have := HJ7.out; have := HJ10.out; have := HJ21.out; have := HK5.out; first | omega | exact Nat.le_refl _⟩, by repeat (first | exact Drawn0.refl _ | apply Drawn0.step)⟩
                              · rw [if_neg c32] at H
                                have c32b0 : decide ((bt x0_7 x4_5) ≤ 57) = false := decide_eq_false c32
                                clear c32
                                by_cases c33 : x5_21 = true
                                · subst c33
                                  have H1 : (if 97 ≤ (Go.bits .or .u8 (bt x0_7 x4_5) 32) then (strconv_underscoreOK.j5 k5 x0_7 x3_5 x4_5 true (decide ((Go.bits .or .u8 (bt x0_7 x4_5) 32) ≤ 102))) else (strconv_underscoreOK.j5 k5 x0_7 x3_5 x4_5 true false)) = some r := by rw [if_pos rfl] at H; exact H
                                  clear H
                                  have H := H1
                                  clear H1
                                  by_cases c35 : 97 ≤ (Go.bits .or .u8 (bt x0_7 x4_5) 32)
                                  · rw [if_pos c35] at H
                                    have c35b0 : decide (97 ≤ (Go.bits .or .u8 (bt x0_7 x4_5) 32)) = true := decide_eq_true c35
                                    clear c35
                                    have H' := Aside0.mk H
                                    clear H
                                    have p29 : 0 ≤ (x4_5 : Int) := of_decide_eq_true (by first | (with_reducible assumption) | assumption)
                                    have q29 : x4_5 < (x0_7.size : Int) := of_decide_eq_true (by first | (with_reducible assumption) | assumption)
                                    have hx29 := bt_at x0_7 x4_5
                                    replace p29 := eq_true p29
                                    replace q29 := eq_true q29
                                    have p31 : 0 ≤ (x4_5 : Int) := of_decide_eq_true (by first | (with_reducible assumption) | assumption)
                                    have q31 : x4_5 < (x0_7.size : Int) := of_decide_eq_true (by first | (with_reducible assumption) | assumption)
                                    have hx31 := bt_at x0_7 x4_5
                                    replace p31 := eq_true p31
                                    replace q31 := eq_true q31
                                    have p34 : 0 ≤ (x4_5 : Int) := of_decide_eq_true (by first | (with_reducible assumption) | assumption)
                                    have q34 : x4_5 < (x0_7.size : Int) := of_decide_eq_true (by first | (with_reducible assumption) | assumption)
                                    have hx34 := bt_at x0_7 x4_5
                                    replace p34 := eq_true p34
                                    replace q34 := eq_true q34
                                    have p36 : 0 ≤ (x4_5 : Int) := of_decide_eq_true (by first | (with_reducible assumption) | assumption)
                                    have q36 : x4_5 < (x0_7.size : Int) := of_decide_eq_true (by first | (with_reducible assumption) | assumption)
                                    have hx36 := bt_at x0_7 x4_5
                                    replace p36 := eq_true p36
                                    replace q36 := eq_true q36
                                    go_wp2
                                    go_meet
                                    case rel => exact ⟨_, (decide ((Go.bits .or .u8 (bt x0_7 x4_5) 32) ≤ 102)), (by first | rfl | (simp; done) | (simp [*]; done)), H', ⟨by have := HJ1.out; have := HJ7.out; have := HJ10.out; have := HJ21.out; have := HK5.out; first | omega | exact Nat.le_refl _⟩, by repeat (first | exact Drawn0.refl _ | apply Drawn0.step)⟩
                                  · rw [if_neg c35] at H
                                    have c35b0 : decide (97 ≤ (Go.bits .or .u8 (bt x0_7 x4_5) 32)) = false := decide_eq_false c35
                                    clear c35
                                    have H' := Aside0.mk H
                                    clear H
                                    have p29 : 0 ≤ (x4_5 : Int) := of_decide_eq_true (by first | (with_reducible assumption) | assumption)
                                    have q29 : x4_5 < (x0_7.size : Int) := of_decide_eq_true (by first | (with_reducible assumption) | assumption)
                                    have hx29 := bt_at x0_7 x4_5
                                    replace p29 := eq_true p29
                                    replace q29 := eq_true q29
                                    have p31 : 0 ≤ (x4_5 : Int) := of_decide_eq_true (by first | (with_reducible assumption) | assumption)
                                    have q31 : x4_5 < (x0_7.size : Int) := of_decide_eq_true (by first | (with_reducible assumption) | assumption)
                                    have hx31 := bt_at x0_7 x4_5
                                    replace p31 := eq_true p31
                                    replace q31 := eq_true q31
                                    have p34 : 0 ≤ (x4_5 : Int) := of_decide_eq_true (by first | (with_reducible assumption) | assumption)
                                    have q34 : x4_5 < (x0_7.size : Int) := of_decide_eq_true (by first | (with_reducible assumption) | assumption)
                                    have hx34 := bt_at x0_7 x4_5
                                    replace p34 := eq_true p34
                                    replace q34 := eq_true q34
                                    go_wp2
                                    go_meet
                                    case rel => exact ⟨_, (false), (by first | rfl | (simp; done) | (simp [*]; done)), H', ⟨by have := HJ1.out; have := HJ7.out; have := HJ10.out; have := HJ21.out; have := HK5.out; first | omega | exact Nat.le_refl _⟩, by repeat (first | exact Drawn0.refl _ | apply Drawn0.step)⟩
                                · replace c33 := Bool.eq_false_iff.mpr c33
                                  subst c33
                                  have H1 : (strconv_underscoreOK.j5 k5 x0_7 x3_5 x4_5 false false) = some r := by rw [if_neg (show ¬ (false = true) by decide)] at H; exact H
                                  clear H
                                  have H := H1
                                  clear H1
                                  have H' := Aside0.mk H
                                  clear H
                                  have p29 : 0 ≤ (x4_5 : Int) := of_decide_eq_true (by first | (with_reducible assumption) | assumption)
                                  have q29 : x4_5 < (x0_7.size : Int) := of_decide_eq_true (by first | (with_reducible assumption) | assumption)
                                  have hx29 := bt_at x0_7 x4_5
                                  replace p29 := eq_true p29
                                  replace q29 := eq_true q29
                                  have p31 : 0 ≤ (x4_5 : Int) := of_decide_eq_true (by first | (with_reducible assumption) | assumption)
                                  have q31 : x4_5 < (x0_7.size : Int) := of_decide_eq_true (by first | (with_reducible assumption) | assumption)
                                  have hx31 := bt_at x0_7 x4_5
                                  replace p31 := eq_true p31
                                  replace q31 := eq_true q31
                                  go_wp2
                                  go_meet
                                  case rel => exact ⟨_, (false), (by first | rfl | (simp; done) | (simp [*]; done)), H', ⟨by have := HJ1.out; have := HJ7.out; have := HJ10.out; have := HJ21.out; have := HK5.out; first | omega | exact Nat.le_refl _⟩, by repeat (first | exact Drawn0.refl _ | apply Drawn0.step)⟩
                            · rw [if_neg c30] at H
                              have c30b0 : decide (48 ≤ (bt x0_7 x4_5)) = false := decide_eq_false c30
                              clear c30
                              by_cases c37 : x5_21 = true
                              · subst c37
                                have H1 : (if 97 ≤ (Go.bits .or .u8 (bt x0_7 x4_5) 32) then (strconv_underscoreOK.j5 k5 x0_7 x3_5 x4_5 true (decide ((Go.bits .or .u8 (bt x0_7 x4_5) 32) ≤ 102))) else (strconv_underscoreOK.j5 k5 x0_7 x3_5 x4_5 true false)) = some r := by rw [if_pos rfl] at H; exact H
                                clear H
                                have H := H1
                                clear H1
                                by_cases c39 : 97 ≤ (Go.bits .or .u8 (bt x0_7 x4_5) 32)
                                · rw [if_pos c39] at H
                                  have c39b0 : decide (97 ≤ (Go.bits .or .u8 (bt x0_7 x4_5) 32)) = true := decide_eq_true c39
                                  clear c39
                                  have H' := Aside0.mk H
                                  clear H
                                  have p29 : 0 ≤ (x4_5 : Int) := of_decide_eq_true (by first | (with_reducible assumption) | assumption)
                                  have q29 : x4_5 < (x0_7.size : Int) := of_decide_eq_true (by first | (with_reducible assumption) | assumption)
                                  have hx29 := bt_at x0_7 x4_5
                                  replace p29 := eq_true p29
                                  replace q29 := eq_true q29
                                  have p38 : 0 ≤ (x4_5 : Int) := of_decide_eq_true (by first | (with_reducible assumption) | assumption)
                                  have q38 : x4_5 < (x0_7.size : Int) := of_decide_eq_true (by first | (with_reducible assumption) | assumption)
                                  have hx38 := bt_at x0_7 x4_5
                                  replace p38 := eq_true p38
                                  replace q38 := eq_true q38
                                  have p40 : 0 ≤ (x4_5 : Int) := of_decide_eq_true (by first | (with_reducible assumption) | assumption)
                                  have q40 : x4_5 < (x0_7.size : Int) := of_decide_eq_true (by first | (with_reducible assumption) | assumption)
                                  have hx40 := bt_at x0_7 x4_5
                                  replace p40 := eq_true p40
                                  replace q40 := eq_true q40
                                  go_wp2
                                  go_meet
                                  case rel => exact ⟨_, (decide ((Go.bits .or .u8 (bt x0_7 x4_5) 32) ≤ 102)), (by first | rfl | (simp; done) | (simp [*]; done)), H', ⟨by have := HJ1.out; have := HJ7.out; have := HJ10.out; have := HJ21.out; have := HK5.out; first | omega | exact Nat.le_refl _⟩, by repeat (first | exact Drawn0.refl _ | apply Drawn0.step)⟩
                                · rw [if_neg c39] at H
                                  have c39b0 : decide (97 ≤ (Go.bits .or .u8 (bt x0_7 x4_5) 32)) = false := decide_eq_false c39
                                  clear c39
                                  have H' := Aside0.mk H
                                  clear H
                                  have p29 : 0 ≤ (x4_5 : Int) := of_decide_eq_true (by first | (with_reducible assumption) | assumption)
                                  have q29 : x4_5 < (x0_7.size : Int) := of_decide_eq_true (by first | (with_reducible assumption) | assumption)
                                  have hx29 := bt_at x0_7 x4_5
                                  replace p29 := eq_true p29
                                  replace q29 := eq_true q29
                                  have p38 : 0 ≤ (x4_5 : Int) := of_decide_eq_true (by first | (with_reducible assumption) | assumption)
                                  have q38 : x4_5 < (x0_7.size : Int) := of_decide_eq_true (by first | (with_reducible assumption) | assumption)
                                  have hx38 := bt_at x0_7 x4_5
                                  replace p38 := eq_true p38
                                  replace q38 := eq_true q38
                                  go_wp2
                                  go_meet
                                  case rel => exact ⟨_, (false), (by first | rfl | (simp; done) | (simp [*]; done)), H', ⟨by have := HJ1.out; have := HJ7.out; have := HJ10.out; have := HJ21.out; have := HK5.out; first | omega | exact Nat.le_refl _⟩, by repeat (first | exact Drawn0.refl _ | apply Drawn0.step)⟩
                              · replace c37 := Bool.eq_false_iff.mpr c37
                                subst c37
                                have H1 : (strconv_underscoreOK.j5 k5 x0_7 x3_5 x4_5 false false) = some r := by rw [if_neg (show ¬ (false = true) by decide)] at H; exact H
                                clear H
                                have H := H1
                                clear H1
                                have H' := Aside0.mk H
                                clear H
                                have p29 : 0 ≤ (x4_5 : Int) := of_decide_eq_true (by first | (with_reducible assumption) | assumption)
                                have q29 : x4_5 < (x0_7.size : Int) := of_decide_eq_true (by first | (with_reducible assumption) | assumption)
                                have hx29 := bt_at x0_7 x4_5
                                replace p29 := eq_true p29
                                replace q29 := eq_true q29
                                go_wp2
                                go_meet
                                case rel => exact ⟨_, (false), (by first | rfl | (simp; done) | (simp [*]; done)), H', ⟨by have := HJ1.out; have := HJ7.out; have := HJ10.out; have := HJ21.out; have := HK5.out; first | omega | exact Nat.le_refl _⟩, by repeat (first | exact Drawn0.refl _ | apply Drawn0.step)⟩
                          · rw [if_neg c28] at H
                            exact absurd H (by simp)
                        case rest =>
                          clear HC27
                          try clear c1
                          try clear p1
                          try clear q1
                          try clear hx1
                          try clear qi1
                          try clear c2
                          try clear p2
                          try clear q2
                          try clear hx2
                          try clear qi2
                          try clear c3
                          try clear c3b0
                          try clear c3b1
                          try clear p3
                          try clear q3
                          try clear hx3
                          try clear c4
                          try clear c4b0
                          try clear c4b1
                          try clear p4
                          try clear q4
                          try clear hx4
                          try clear c5
                          try clear p5
                          try clear q5
                          try clear hx5
                          try clear qi5
                          try clear c6
                          try clear c6b0
                          try clear c6b1
                          try clear c7
                          try clear p7
                          try clear q7
                          try clear hx7
                          try clear qi7
                          try clear c9
                          try clear c10
                          try clear c10b0
                          try clear c10b1
                          try clear c12
                          try clear c12b0
                          try clear c12b1
                          try clear c13
                          try clear c13b0
                          try clear c13b1
                          try clear p14
                          try clear q14
                          try clear hx14
                          try clear qi14
                          try clear c15
                          try clear c15b0
                          try clear c15b1
                          try clear c16
                          try clear c16b0
                          try clear c16b1
                          try clear p17
                          try clear q17
                          try clear hx17
                          try clear qi17
                          try clear c18
                          try clear c18b0
                          try clear c18b1
                          try clear p19
                          try clear q19
                          try clear hx19
                          try clear qi19
                          try clear c20
                          try clear c20b0
                          try clear c20b1
                          try clear c21
                          try clear p21
                          try clear q21
                          try clear hx21
                          try clear qi21
                          try clear c23
                          try clear c24
                          try clear c24b0
                          try clear c24b1
                          try clear p25
                          try clear q25
                          try clear hx25
                          try clear qi25
                          try clear c26
                          try clear c26b0
                          try clear c28
                          try clear c28b0
                          try clear p29
                          try clear q29
                          try clear hx29
                          try clear c30
                          try clear c30b0
                          try clear p31
                          try clear q31
                          try clear hx31
                          try clear c32
                          try clear c32b0
                          try clear c33
                          try clear p34
                          try clear q34
                          try clear hx34
                          try clear c35
                          try clear c35b0
                          try clear p36
                          try clear q36
                          try clear hx36
                          try clear c37
                          try clear p38
                          try clear q38
                          try clear hx38
                          try clear c39
                          try clear c39b0
                          try clear p40
                          try clear q40
                          try clear hx40
                          try clear p1
                          try clear p14
                          try clear p17
                          try clear p19
                          try clear p2
                          try clear p21
                          try clear p25
                          try clear p29
                          try clear p31
                          try clear p34
                          try clear p36
                          try clear p38
                          try clear p40
                          try clear p5
                          try clear p7
                          try clear q1
                          try clear q14
                          try clear q17
                          try clear q19
                          try clear q2
                          try clear q21
                          try clear q25
                          try clear q29
                          try clear q31
                          try clear q34
                          try clear q36
                          try clear q38
                          try clear q40
                          try clear q5
                          try clear q7
                          obtain ⟨kq, x83_26, rfl, HA, HJ26, ⟨mc26, rfl⟩⟩ := hcut
                          cases kq with
                          | zero => exact absurd HA.out (by simp [strconv_underscoreOK.j5])
                          | succ kj26 =>
                            have H := HA.out
                            clear HA
                            simp only [strconv_underscoreOK.j5] at H
                            by_cases c41 : x83_26 = true
                            · subst c41
                              have H1 : (strconv_underscoreOK.l0 kj26 x0_7 48 (wrap64 (x4_5 + 1)) x5_21) = some r := by rw [if_pos rfl] at H; exact H
                              clear H
                              have H := H1
                              clear H1
                              have H' := Aside0.mk H
                              clear H
                              go_wp2
                              go_roundg kj26
                              case measure => have := HJ1.out; have := HJ7.out; have := HJ10.out; have := HJ21.out; have := HK5.out; have := HJ26.out; omega
                              case rel => exact ⟨(48), (wrap64 (x4_5 + 1)), (by first | rfl | (simp; done) | (simp [*]; done)), (by first | rfl | (simp; done) | (simp [*]; done)), H', ⟨by have := HJ1.out; have := HJ7.out; have := HJ10.out; have := HJ21.out; have := HK5.out; have := HJ26.out; omega⟩, by repeat (first | exact Drawn0.refl _ | apply Drawn0.step)⟩
                            · replace c41 := Bool.eq_false_iff.mpr c41
                              subst c41
                              have H1 : (if 0 ≤ x4_5 then (if x4_5 < (x0_7.size : Int) then (if (bt x0_7 x4_5) = 95 then (if x3_5 = 48 then (strconv_underscoreOK.l0 kj26 x0_7 95 (wrap64 (x4_5 + 1)) x5_21) else (some false)) else (if x3_5 = 95 then (some false) else (strconv_underscoreOK.l0 kj26 x0_7 33 (wrap64 (x4_5 + 1)) x5_21))) else (none)) else (none)) = some r := by rw [if_neg (show ¬ (false = true) by decide)] at H; exact H
                              clear H
                              have H := H1
                              clear H1
                              by_cases c42 : 0 ≤ x4_5
                              · rw [if_pos c42] at H
                                have c42b0 : decide (0 ≤ x4_5) = true := decide_eq_true c42
                                clear c42
                                by_cases c43 : x4_5 < (x0_7.size : Int)
                                · rw [if_pos c43] at H
                                  have c43b0 : decide (x4_5 < (x0_7.size : Int)) = true := decide_eq_true c43
                                  clear c43
                                  by_cases c45 : (bt x0_7 x4_5) = 95
                                  · rw [if_pos c45] at H
                                    have c45b0 : ((bt x0_7 x4_5) == 95) = true := beq_iff_eq.mpr c45
                                    have c45b1 : ((bt x0_7 x4_5) != 95) = false := bne_eq_false_iff_eq.mpr c45
                                    clear c45
                                    by_cases c46 : x3_5 = 48
                                    · rw [if_pos c46] at H
                                      have c46b0 : (x3_5 == 48) = true := beq_iff_eq.mpr c46
                                      have c46b1 : (x3_5 != 48) = false := bne_eq_false_iff_eq.mpr c46
                                      clear c46
                                      have H' := Aside0.mk H
                                      clear H
                                      have p44 : 0 ≤ (x4_5 : Int) := of_decide_eq_true (by first | (with_reducible assumption) | assumption)
                                      have q44 : x4_5 < (x0_7.size : Int) := of_decide_eq_true (by first | (with_reducible assumption) | assumption)
                                      have hx44 := bt_at x0_7 x4_5
                                      replace p44 := eq_true p44
                                      replace q44 := eq_true q44
                                      go_wp2
                                      go_roundg kj26
                                      case measure => have := HJ1.out; have := HJ7.out; have := HJ10.out; have := HJ21.out; have := HK5.out; have := HJ26.out; omega
                                      case rel => exact ⟨(95), (wrap64 (x4_5 + 1)), (by first | rfl | (simp; done) | (simp [*]; done)), (by first | rfl | (simp; done) | (simp [*]; done)), H', ⟨by have := HJ1.out; have := HJ7.out; have := HJ10.out; have := HJ21.out; have := HK5.out; have := HJ26.out; omega⟩, by repeat (first | exact Drawn0.refl _ | apply Drawn0.step)⟩
                                    · rw [if_neg c46] at H
                                      have c46b0 : (x3_5 == 48) = false := beq_eq_false_iff_ne.mpr c46
                                      have c46b1 : (x3_5 != 48) = true := bne_iff_ne.mpr c46
                                      obtain rfl := Option.some.inj H
                                      have p44 : 0 ≤ (x4_5 : Int) := of_decide_eq_true (by first | (with_reducible assumption) | assumption)
                                      have q44 : x4_5 < (x0_7.size : Int) := of_decide_eq_true (by first | (with_reducible assumption) | assumption)
                                      have hx44 := bt_at x0_7 x4_5
                                      replace p44 := eq_true p44
                                      replace q44 := eq_true q44
                                      go_wp2
                                      go_ret
                                      exact ⟨by first | rfl | (simp; done) | (simp [*]; done), by repeat (first | exact Drawn0.refl _ | apply Drawn0.step)⟩
                                  · rw [if_neg c45] at H
                                    have c45b0 : ((bt x0_7 x4_5) == 95) = false := beq_eq_false_iff_ne.mpr c45
                                    have c45b1 : ((bt x0_7 x4_5) != 95) = true := bne_iff_ne.mpr c45
                                    by_cases c47 : x3_5 = 95
                                    · rw [if_pos c47] at H
                                      have c47b0 : (x3_5 == 95) = true := beq_iff_eq.mpr c47
                                      have c47b1 : (x3_5 != 95) = false := bne_eq_false_iff_eq.mpr c47
                                      clear c47
                                      obtain rfl := Option.some.inj H
                                      have p44 : 0 ≤ (x4_5 : Int) := of_decide_eq_true (by first | (with_reducible assumption) | assumption)
                                      have q44 : x4_5 < (x0_7.size : Int) := of_decide_eq_true (by first | (with_reducible assumption) | assumption)
                                      have hx44 := bt_at x0_7 x4_5
                                      replace p44 := eq_true p44
                                      replace q44 := eq_true q44
                                      go_wp2
                                      go_ret
                                      exact ⟨by first | rfl | (simp; done) | (simp [*]; done), by repeat (first | exact Drawn0.refl _ | apply Drawn0.step)⟩
                                    · rw [if_neg c47] at H
                                      have c47b0 : (x3_5 == 95) = false := beq_eq_false_iff_ne.mpr c47
                                      have c47b1 : (x3_5 != 95) = true := bne_iff_ne.mpr c47
                                      have H' := Aside0.mk H
                                      clear H
                                      have p44 : 0 ≤ (x4_5 : Int) := of_decide_eq_true (by first | (with_reducible assumption) | assumption)
                                      have q44 : x4_5 < (x0_7.size : Int) := of_decide_eq_true (by first | (with_reducible assumption) | assumption)
                                      have hx44 := bt_at x0_7 x4_5
                                      replace p44 := eq_true p44
                                      replace q44 := eq_true q44
                                      go_wp2
                                      go_roundg kj26
                                      case measure => have := HJ1.out; have := HJ7.out; have := HJ10.out; have := HJ21.out; have := HK5.out; have := HJ26.out; omega
                                      case rel => exact ⟨(33), (wrap64 (x4_5 + 1)), (by first | rfl | (simp; done) | (simp [*]; done)), (by first | rfl | (simp; done) | (simp [*]; done)), H', ⟨by have := HJ1.out; have := HJ7.out; have := HJ10.out; have := HJ21.out; have := HK5.out; have := HJ26.out; omega⟩, by repeat (first | exact Drawn0.refl _ | apply Drawn0.step)⟩
                                · rw [if_neg c43] at H
                                  exact absurd H (by simp)
                              · rw [if_neg c42] at H
                                exact absurd H (by simp)
                      · rw [if_neg c26] at H
                        have c26b0 : decide (x4_5 < (x0_7.size : Int)) = false := decide_eq_false c26
                        clear c26
                        obtain rfl := Option.some.inj H
                        go_wp2
                        go_ret
                        exact ⟨by first | rfl | (simp; done) | (simp [*]; done), by repeat (first | exact Drawn0.refl _ | apply Drawn0.step)⟩

end Go.Proofs.YtfkpbkjokapijaaGreatFmt.PQ
