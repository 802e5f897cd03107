/- Contracts of the rune counting and padding of the statement's own file. -/
import Derived.Test.YtfkpbkjokapijaaGreatFmtPQ0
namespace Go.Proofs.YtfkpbkjokapijaaGreatFmt.PQ
open Go.RowKit Go.Proofs.YtfkpbkjokapijaaGreatFmtW.PrintWords Go.Proofs.YtfkpbkjokapijaaGreatFmtW.PrintLast Go.Proofs.YtfkpbkjokapijaaGreatFmtW.PrintMore
attribute [local go_sem] max2_int min2_int max_two min_two max_three min_three max_four min_four
set_option linter.unusedVariables false
set_option linter.unusedSimpArgs false

/-! ### n005_152_zzRuneLen: function 21 -/
mutual
def n005_152_zzRuneLen.j0 : Nat → ByteArray → Int → Int → Int → Int → Bool → Option (Int)
  | 0, _, _, _, _, _, _ => none
  | k + 1, x0, x1, x5, x7, x8, x21 => if x21 = true then (n005_152_zzRuneLen.j4 k x0 x1 1 x7 x8) else (if x5 = 224 then (n005_152_zzRuneLen.j4 k x0 x1 2 160 x8) else (if x5 ≥ 225 then (n005_152_zzRuneLen.j1 k x0 x1 x5 x7 x8 (decide (x5 ≤ 236))) else (n005_152_zzRuneLen.j1 k x0 x1 x5 x7 x8 false)))
def n005_152_zzRuneLen.j4 : Nat → ByteArray → Int → Int → Int → Int → Option (Int)
  | 0, _, _, _, _, _ => none
  | k + 1, x0, x1, x6, x7, x8 => if (wrap64 ((x0.size : Int) - x1)) < (wrap64 (x6 + 1)) then (some 1) else (if 0 ≤ (wrap64 (x1 + 1)) then (if (wrap64 (x1 + 1)) < (x0.size : Int) then (if (bt x0 (wrap64 (x1 + 1))) < x7 then (n005_152_zzRuneLen.j5 k x0 x1 x6 true) else (n005_152_zzRuneLen.j5 k x0 x1 x6 (decide ((bt x0 (wrap64 (x1 + 1))) > x8)))) else (none)) else (none))
def n005_152_zzRuneLen.j5 : Nat → ByteArray → Int → Int → Bool → Option (Int)
  | 0, _, _, _, _ => none
  | k + 1, x0, x1, x6, x66 => if x66 = true then (some 1) else (n005_152_zzRuneLen.l0 k x0 x1 x6 2)
def n005_152_zzRuneLen.l0 : Nat → ByteArray → Int → Int → Int → Option (Int)
  | 0, _, _, _, _ => none
  | k + 1, x0, x1, x6, x10 => if x10 ≤ x6 then (if 0 ≤ (wrap64 (x1 + x10)) then (if (wrap64 (x1 + x10)) < (x0.size : Int) then (if (bt x0 (wrap64 (x1 + x10))) < 128 then (some 1) else (if (bt x0 (wrap64 (x1 + x10))) > 191 then (some 1) else (n005_152_zzRuneLen.l0 k x0 x1 x6 (wrap64 (x10 + 1))))) else (none)) else (none)) else (some (wrap64 (x6 + 1)))
def n005_152_zzRuneLen.j1 : Nat → ByteArray → Int → Int → Int → Int → Bool → Option (Int)
  | 0, _, _, _, _, _, _ => none
  | k + 1, x0, x1, x5, x7, x8, x29 => if x29 = true then (n005_152_zzRuneLen.j4 k x0 x1 2 x7 x8) else (if x5 = 237 then (n005_152_zzRuneLen.j4 k x0 x1 2 x7 159) else (if x5 ≥ 238 then (n005_152_zzRuneLen.j2 k x0 x1 x5 x7 x8 (decide (x5 ≤ 239))) else (n005_152_zzRuneLen.j2 k x0 x1 x5 x7 x8 false)))
def n005_152_zzRuneLen.j2 : Nat → ByteArray → Int → Int → Int → Int → Bool → Option (Int)
  | 0, _, _, _, _, _, _ => none
  | k + 1, x0, x1, x5, x7, x8, x37 => if x37 = true then (n005_152_zzRuneLen.j4 k x0 x1 2 x7 x8) else (if x5 = 240 then (n005_152_zzRuneLen.j4 k x0 x1 3 144 x8) else (if x5 ≥ 241 then (n005_152_zzRuneLen.j3 k x0 x1 x5 x7 x8 (decide (x5 ≤ 243))) else (n005_152_zzRuneLen.j3 k x0 x1 x5 x7 x8 false)))
def n005_152_zzRuneLen.j3 : Nat → ByteArray → Int → Int → Int → Int → Bool → Option (Int)
  | 0, _, _, _, _, _, _ => none
  | k + 1, x0, x1, x5, x7, x8, x45 => if x45 = true then (n005_152_zzRuneLen.j4 k x0 x1 3 x7 x8) else (if x5 = 244 then (n005_152_zzRuneLen.j4 k x0 x1 3 x7 143) else (some 1))
end
def n005_152_zzRuneLen.f (k : Nat) (a0 : ByteArray) (a1 : Int) : Option (Int) := if 0 ≤ a1 then (if a1 < (a0.size : Int) then (if (bt a0 a1) < 128 then (some 1) else (if (bt a0 a1) ≥ 194 then (n005_152_zzRuneLen.j0 k a0 a1 (bt a0 a1) 128 191 (decide ((bt a0 a1) ≤ 223))) else (n005_152_zzRuneLen.j0 k a0 a1 (bt a0 a1) 128 191 false))) else (none)) else (none)
set_option maxHeartbeats 8000000 in
set_option maxRecDepth 100000 in
theorem n005_152_zzRuneLen.calls (k : Nat) (a0 : ByteArray) (a1 : Int) (r : Int) (w : World) (h : n005_152_zzRuneLen.f k a0 a1 = some r) :
    Calls Tryz.prog 21 #[.string a0, .int .i64 a1] w fun e w' => e = .returned (.int .i64 r) ∧ Drawn0 w w' := by
  have H : (if 0 ≤ a1 then (if a1 < (a0.size : Int) then (if (bt a0 a1) < 128 then (some 1) else (if (bt a0 a1) ≥ 194 then (n005_152_zzRuneLen.j0 k a0 a1 (bt a0 a1) 128 191 (decide ((bt a0 a1) ≤ 223))) else (n005_152_zzRuneLen.j0 k a0 a1 (bt a0 a1) 128 191 false))) else (none)) else (none)) = some r := h
  clear h
  by_cases c3 : 0 ≤ a1
  · rw [if_pos c3] at H
    have c3b0 : decide (0 ≤ a1) = true := decide_eq_true c3
    clear c3
    by_cases c4 : a1 < (a0.size : Int)
    · rw [if_pos c4] at H
      have c4b0 : decide (a1 < (a0.size : Int)) = true := decide_eq_true c4
      clear c4
      by_cases c6 : (bt a0 a1) < 128
      · rw [if_pos c6] at H
        have c6b0 : decide ((bt a0 a1) < 128) = true := decide_eq_true c6
        clear c6
        obtain rfl := Option.some.inj H
        have p5 : 0 ≤ (a1 : Int) := of_decide_eq_true (by first | (with_reducible assumption) | assumption)
        have q5 : a1 < (a0.size : Int) := of_decide_eq_true (by first | (with_reducible assumption) | assumption)
        have hx5 := bt_at a0 a1
        replace p5 := eq_true p5
        replace q5 := eq_true q5
        go_enter Tryz.func21, Tryz.ntmps21
        go_wp2
        go_ret
        exact ⟨by first | rfl | (simp; done) | (simp [*]; done), by repeat (first | exact Drawn0.refl _ | apply Drawn0.step)⟩
      · rw [if_neg c6] at H
        have c6b0 : decide ((bt a0 a1) < 128) = false := decide_eq_false c6
        clear c6
        have HC7 := Aside0.mk H
        clear H
        have p5 : 0 ≤ (a1 : Int) := of_decide_eq_true (by first | (with_reducible assumption) | assumption)
        have q5 : a1 < (a0.size : Int) := of_decide_eq_true (by first | (with_reducible assumption) | assumption)
        have hx5 := bt_at a0 a1
        replace p5 := eq_true p5
        replace q5 := eq_true q5
        go_enter Tryz.func21, Tryz.ntmps21
        go_upto_region 7 with (fail)
        go_cut [21] (fun v21 wc => ∃ (kq : Nat) (x21_6 : Bool), v21 = .bool x21_6 ∧ Aside0 (n005_152_zzRuneLen.j0 kq a0 a1 (bt a0 a1) 128 191 x21_6 = some r) ∧ Aside0 (kq ≤ k) ∧ Drawn0 w wc)
        case first =>
          have H := HC7.out
          clear HC7
          by_cases c8 : (bt a0 a1) ≥ 194
          · rw [if_pos c8] at H
            have c8b0 : decide (194 ≤ (bt a0 a1)) = true := decide_eq_true c8
            clear c8
            (first | rw [c8b0] | (simp only [i64_w, i32_w]; rw [c8b0]) | skip)
            have H' := Aside0.mk H
            clear H
            go_wp2
            go_meet
            case rel => exact ⟨_, (decide ((bt a0 a1) ≤ 223)), (by first | rfl | (simp; done) | (simp [*]; done)), H', ⟨by first | omega | exact Nat.le_refl _⟩, by repeat (first | exact Drawn0.refl _ | apply Drawn0.step)⟩
          · rw [if_neg c8] at H
            have c8b0 : decide (194 ≤ (bt a0 a1)) = false := decide_eq_false c8
            clear c8
            (first | rw [c8b0] | (simp only [i64_w, i32_w]; rw [c8b0]) | skip)
            have H' := Aside0.mk H
            clear H
            go_wp2
            go_meet
            case rel => exact ⟨_, (false), (by first | rfl | (simp; done) | (simp [*]; done)), H', ⟨by first | omega | exact Nat.le_refl _⟩, by repeat (first | exact Drawn0.refl _ | apply Drawn0.step)⟩
        case rest =>
          clear HC7
          try clear c2
          try clear p2
          try clear c3
          try clear c3b0
          try clear c4
          try clear c4b0
          try clear p5
          try clear q5
          try clear hx5
          try clear c6
          try clear c6b0
          try clear c8
          try clear c8b0
          try clear p5
          try clear q5
          obtain ⟨kq, x21_6, rfl, HA, HJ6, ⟨mc6, rfl⟩⟩ := hcut
          cases kq with
          | zero => exact absurd HA.out (by simp [n005_152_zzRuneLen.j0])
          | succ kj6 =>
            have H := HA.out
            clear HA
            simp only [n005_152_zzRuneLen.j0] at H
            have HC9 := Aside0.mk H
            clear H
            go_upto_if 21 with (fail)
            go_cut [6, 7, 8] (fun v6 v7 v8 wc => ∃ (kq : Nat) (x6_8 : Int) (x7_8 : Int) (x8_8 : Int), v6 = .int .i64 x6_8 ∧ v7 = .int .u8 x7_8 ∧ v8 = .int .u8 x8_8 ∧ Aside0 (n005_152_zzRuneLen.j4 kq a0 a1 x6_8 x7_8 x8_8 = some r) ∧ Aside0 (kq ≤ kj6) ∧ Drawn0 w wc)
            case first =>
              have H := HC9.out
              clear HC9
              by_cases c10 : x21_6 = true
              · subst c10
                have H1 : (n005_152_zzRuneLen.j4 kj6 a0 a1 1 128 191) = some r := by rw [if_pos rfl] at H; exact H
                clear H
                have H := H1
                clear H1
                have H' := Aside0.mk H
                clear H
                go_wp2
                go_meet
                case rel => exact ⟨_, (1), (128), (191), (by first | rfl | (simp; done) | (simp [*]; done)), (by first | rfl | (simp; done) | (simp [*]; done)), (by first | rfl | (simp; done) | (simp [*]; done)), H', ⟨by have := HJ6.out; first | omega | exact Nat.le_refl _⟩, by repeat (first | exact Drawn0.refl _ | apply Drawn0.step)⟩
              · replace c10 := Bool.eq_false_iff.mpr c10
                subst c10
                have H1 : (if (bt a0 a1) = 224 then (n005_152_zzRuneLen.j4 kj6 a0 a1 2 160 191) else (if (bt a0 a1) ≥ 225 then (n005_152_zzRuneLen.j1 kj6 a0 a1 (bt a0 a1) 128 191 (decide ((bt a0 a1) ≤ 236))) else (n005_152_zzRuneLen.j1 kj6 a0 a1 (bt a0 a1) 128 191 false))) = some r := by rw [if_neg (show ¬ (false = true) by decide)] at H; exact H
                clear H
                have H := H1
                clear H1
                by_cases c11 : (bt a0 a1) = 224
                · rw [if_pos c11] at H
                  have c11b0 : ((bt a0 a1) == 224) = true := beq_iff_eq.mpr c11
                  have c11b1 : ((bt a0 a1) != 224) = false := bne_eq_false_iff_eq.mpr c11
                  clear c11
                  (first | rw [c11b0] | (simp only [i64_w, i32_w]; rw [c11b0]) | skip)
                  have H' := Aside0.mk H
                  clear H
                  go_wp2
                  go_meet
                  case rel => exact ⟨_, (2), (160), (191), (by first | rfl | (simp; done) | (simp [*]; done)), (by first | rfl | (simp; done) | (simp [*]; done)), (by first | rfl | (simp; done) | (simp [*]; done)), H', ⟨by have := HJ6.out; first | omega | exact Nat.le_refl _⟩, by repeat (first | exact Drawn0.refl _ | apply Drawn0.step)⟩
                · rw [if_neg c11] at H
                  have c11b0 : ((bt a0 a1) == 224) = false := beq_eq_false_iff_ne.mpr c11
                  have c11b1 : ((bt a0 a1) != 224) = true := bne_iff_ne.mpr c11
                  (first | rw [c11b0] | (simp only [i64_w, i32_w]; rw [c11b0]) | skip)
                  have HC12 := Aside0.mk H
                  clear H
                  go_upto_region 12 with (fail)
                  go_cut [29] (fun v29 wc => ∃ (kq : Nat) (x29_11 : Bool), v29 = .bool x29_11 ∧ Aside0 (n005_152_zzRuneLen.j1 kq a0 a1 (bt a0 a1) 128 191 x29_11 = some r) ∧ Aside0 (kq ≤ kj6) ∧ Drawn0 w wc)
                  case first =>
                    have H := HC12.out
                    clear HC12
                    by_cases c13 : (bt a0 a1) ≥ 225
                    · rw [if_pos c13] at H
                      have c13b0 : decide (225 ≤ (bt a0 a1)) = true := decide_eq_true c13
                      clear c13
                      (first | rw [c13b0] | (simp only [i64_w, i32_w]; rw [c13b0]) | skip)
                      have H' := Aside0.mk H
                      clear H
                      go_wp2
                      go_meet
                      case rel => exact ⟨_, (decide ((bt a0 a1) ≤ 236)), (by first | rfl | (simp; done) | (simp [*]; done)), H', ⟨by have := HJ6.out; first | omega | exact Nat.le_refl _⟩, by repeat (first | exact Drawn0.refl _ | apply Drawn0.step)⟩
                    · rw [if_neg c13] at H
                      have c13b0 : decide (225 ≤ (bt a0 a1)) = false := decide_eq_false c13
                      clear c13
                      (first | rw [c13b0] | (simp only [i64_w, i32_w]; rw [c13b0]) | skip)
                      have H' := Aside0.mk H
                      clear H
                      go_wp2
                      go_meet
                      case rel => exact ⟨_, (false), (by first | rfl | (simp; done) | (simp [*]; done)), H', ⟨by have := HJ6.out; first | omega | exact Nat.le_refl _⟩, by repeat (first | exact Drawn0.refl _ | apply Drawn0.step)⟩
                  case rest =>
                    clear HC12
                    try clear c1
                    try clear c2
                    try clear p2
                    try clear c3
                    try clear c3b0
                    try clear c4
                    try clear c4b0
                    try clear p5
                    try clear q5
                    try clear hx5
                    try clear c6
                    try clear c6b0
                    try clear c8
                    try clear c8b0
                    try clear c10
                    try clear c11
                    try clear c11b0
                    try clear c11b1
                    try clear c13
                    try clear c13b0
                    try clear p2
                    try clear p5
                    try clear q5
                    obtain ⟨kq, x29_11, rfl, HA, HJ11, ⟨mc11, rfl⟩⟩ := hcut
                    cases kq with
                    | zero => exact absurd HA.out (by simp [n005_152_zzRuneLen.j1])
                    | succ kj11 =>
                      have H := HA.out
                      clear HA
                      simp only [n005_152_zzRuneLen.j1] at H
                      by_cases c14 : x29_11 = true
                      · subst c14
                        have H1 : (n005_152_zzRuneLen.j4 kj11 a0 a1 2 128 191) = some r := by rw [if_pos rfl] at H; exact H
                        clear H
                        have H := H1
                        clear H1
                        have H' := Aside0.mk H
                        clear H
                        go_wp2
                        go_meet
                        case rel => exact ⟨_, (2), (128), (191), (by first | rfl | (simp; done) | (simp [*]; done)), (by first | rfl | (simp; done) | (simp [*]; done)), (by first | rfl | (simp; done) | (simp [*]; done)), H', ⟨by have := HJ6.out; have := HJ11.out; first | omega | exact Nat.le_refl _⟩, by repeat (first | exact Drawn0.refl _ | apply Drawn0.step)⟩
                      · replace c14 := Bool.eq_false_iff.mpr c14
                        subst c14
                        have H1 : (if (bt a0 a1) = 237 then (n005_152_zzRuneLen.j4 kj11 a0 a1 2 128 159) else (if (bt a0 a1) ≥ 238 then (n005_152_zzRuneLen.j2 kj11 a0 a1 (bt a0 a1) 128 191 (decide ((bt a0 a1) ≤ 239))) else (n005_152_zzRuneLen.j2 kj11 a0 a1 (bt a0 a1) 128 191 false))) = some r := by rw [if_neg (show ¬ (false = true) by decide)] at H; exact H
                        clear H
                        have H := H1
                        clear H1
                        by_cases c15 : (bt a0 a1) = 237
                        · rw [if_pos c15] at H
                          have c15b0 : ((bt a0 a1) == 237) = true := beq_iff_eq.mpr c15
                          have c15b1 : ((bt a0 a1) != 237) = false := bne_eq_false_iff_eq.mpr c15
                          clear c15
                          have H' := Aside0.mk H
                          clear H
                          go_wp2
                          go_meet
                          case rel => exact ⟨_, (2), (128), (159), (by first | rfl | (simp; done) | (simp [*]; done)), (by first | rfl | (simp; done) | (simp [*]; done)), (by first | rfl | (simp; done) | (simp [*]; done)), H', ⟨by have := HJ6.out; have := HJ11.out; first | omega | exact Nat.le_refl _⟩, by repeat (first | exact Drawn0.refl _ | apply Drawn0.step)⟩
                        · rw [if_neg c15] at H
                          have c15b0 : ((bt a0 a1) == 237) = false := beq_eq_false_iff_ne.mpr c15
                          have c15b1 : ((bt a0 a1) != 237) = true := bne_iff_ne.mpr c15
                          have HC16 := Aside0.mk H
                          clear H
                          go_upto_region 17 with (fail)
                          go_cut [37] (fun v37 wc => ∃ (kq : Nat) (x37_15 : Bool), v37 = .bool x37_15 ∧ Aside0 (n005_152_zzRuneLen.j2 kq a0 a1 (bt a0 a1) 128 191 x37_15 = some r) ∧ Aside0 (kq ≤ kj11) ∧ Drawn0 w wc)
                          case first =>
                            have H := HC16.out
                            clear HC16
                            by_cases c17 : (bt a0 a1) ≥ 238
                            · rw [if_pos c17] at H
                              have c17b0 : decide (238 ≤ (bt a0 a1)) = true := decide_eq_true c17
                              clear c17
                              (first | rw [c17b0] | (simp only [i64_w, i32_w]; rw [c17b0]) | skip)
                              have H' := Aside0.mk H
                              clear H
                              go_wp2
                              go_meet
                              case rel => exact ⟨_, (decide ((bt a0 a1) ≤ 239)), (by first | rfl | (simp; done) | (simp [*]; done)), H', ⟨by have := HJ6.out; have := HJ11.out; first | omega | exact Nat.le_refl _⟩, by repeat (first | exact Drawn0.refl _ | apply Drawn0.step)⟩
                            · rw [if_neg c17] at H
                              have c17b0 : decide (238 ≤ (bt a0 a1)) = false := decide_eq_false c17
                              clear c17
                              (first | rw [c17b0] | (simp only [i64_w, i32_w]; rw [c17b0]) | skip)
                              have H' := Aside0.mk H
                              clear H
                              go_wp2
                              go_meet
                              case rel => exact ⟨_, (false), (by first | rfl | (simp; done) | (simp [*]; done)), H', ⟨by have := HJ6.out; have := HJ11.out; first | omega | exact Nat.le_refl _⟩, by repeat (first | exact Drawn0.refl _ | apply Drawn0.step)⟩
                          case rest =>
                            clear HC16
                            try clear c1
                            try clear c2
                            try clear p2
                            try clear c3
                            try clear c3b0
                            try clear c4
                            try clear c4b0
                            try clear p5
                            try clear q5
                            try clear hx5
                            try clear c6
                            try clear c6b0
                            try clear c8
                            try clear c8b0
                            try clear c10
                            try clear c11
                            try clear c11b0
                            try clear c11b1
                            try clear c13
                            try clear c13b0
                            try clear c14
                            try clear c15
                            try clear c15b0
                            try clear c15b1
                            try clear c17
                            try clear c17b0
                            try clear p2
                            try clear p5
                            try clear q5
                            obtain ⟨kq, x37_15, rfl, HA, HJ15, ⟨mc15, rfl⟩⟩ := hcut
                            cases kq with
                            | zero => exact absurd HA.out (by simp [n005_152_zzRuneLen.j2])
                            | succ kj15 =>
                              have H := HA.out
                              clear HA
                              simp only [n005_152_zzRuneLen.j2] at H
                              by_cases c18 : x37_15 = true
                              · subst c18
                                have H1 : (n005_152_zzRuneLen.j4 kj15 a0 a1 2 128 191) = some r := by rw [if_pos rfl] at H; exact H
                                clear H
                                have H := H1
                                clear H1
                                have H' := Aside0.mk H
                                clear H
                                go_wp2
                                go_meet
                                case rel => exact ⟨_, (2), (128), (191), (by first | rfl | (simp; done) | (simp [*]; done)), (by first | rfl | (simp; done) | (simp [*]; done)), (by first | rfl | (simp; done) | (simp [*]; done)), H', ⟨by have := HJ6.out; have := HJ11.out; have := HJ15.out; first | omega | exact Nat.le_refl _⟩, by repeat (first | exact Drawn0.refl _ | apply Drawn0.step)⟩
                              · replace c18 := Bool.eq_false_iff.mpr c18
                                subst c18
                                have H1 : (if (bt a0 a1) = 240 then (n005_152_zzRuneLen.j4 kj15 a0 a1 3 144 191) else (if (bt a0 a1) ≥ 241 then (n005_152_zzRuneLen.j3 kj15 a0 a1 (bt a0 a1) 128 191 (decide ((bt a0 a1) ≤ 243))) else (n005_152_zzRuneLen.j3 kj15 a0 a1 (bt a0 a1) 128 191 false))) = some r := by rw [if_neg (show ¬ (false = true) by decide)] at H; exact H
                                clear H
                                have H := H1
                                clear H1
                                by_cases c19 : (bt a0 a1) = 240
                                · rw [if_pos c19] at H
                                  have c19b0 : ((bt a0 a1) == 240) = true := beq_iff_eq.mpr c19
                                  have c19b1 : ((bt a0 a1) != 240) = false := bne_eq_false_iff_eq.mpr c19
                                  clear c19
                                  have H' := Aside0.mk H
                                  clear H
                                  go_wp2
                                  go_meet
                                  case rel => exact ⟨_, (3), (144), (191), (by first | rfl | (simp; done) | (simp [*]; done)), (by first | rfl | (simp; done) | (simp [*]; done)), (by first | rfl | (simp; done) | (simp [*]; done)), H', ⟨by have := HJ6.out; have := HJ11.out; have := HJ15.out; first | omega | exact Nat.le_refl _⟩, by repeat (first | exact Drawn0.refl _ | apply Drawn0.step)⟩
                                · rw [if_neg c19] at H
                                  have c19b0 : ((bt a0 a1) == 240) = false := beq_eq_false_iff_ne.mpr c19
                                  have c19b1 : ((bt a0 a1) != 240) = true := bne_iff_ne.mpr c19
                                  have HC20 := Aside0.mk H
                                  clear H
                                  go_upto_region 22 with (fail)
                                  go_cut [45] (fun v45 wc => ∃ (kq : Nat) (x45_19 : Bool), v45 = .bool x45_19 ∧ Aside0 (n005_152_zzRuneLen.j3 kq a0 a1 (bt a0 a1) 128 191 x45_19 = some r) ∧ Aside0 (kq ≤ kj15) ∧ Drawn0 w wc)
                                  case first =>
                                    have H := HC20.out
                                    clear HC20
                                    by_cases c21 : (bt a0 a1) ≥ 241
                                    · rw [if_pos c21] at H
                                      have c21b0 : decide (241 ≤ (bt a0 a1)) = true := decide_eq_true c21
                                      clear c21
                                      (first | rw [c21b0] | (simp only [i64_w, i32_w]; rw [c21b0]) | skip)
                                      have H' := Aside0.mk H
                                      clear H
                                      go_wp2
                                      go_meet
                                      case rel => exact ⟨_, (decide ((bt a0 a1) ≤ 243)), (by first | rfl | (simp; done) | (simp [*]; done)), H', ⟨by have := HJ6.out; have := HJ11.out; have := HJ15.out; first | omega | exact Nat.le_refl _⟩, by repeat (first | exact Drawn0.refl _ | apply Drawn0.step)⟩
                                    · rw [if_neg c21] at H
                                      have c21b0 : decide (241 ≤ (bt a0 a1)) = false := decide_eq_false c21
                                      clear c21
                                      (first | rw [c21b0] | (simp only [i64_w, i32_w]; rw [c21b0]) | skip)
                                      have H' := Aside0.mk H
                                      clear H
                                      go_wp2
                                      go_meet
                                      case rel => exact ⟨_, (false), (by first | rfl | (simp; done) | (simp [*]; done)), H', ⟨by have := HJ6.out; have := HJ11.out; have := HJ15.out; first | omega | exact Nat.le_refl _⟩, by repeat (first | exact Drawn0.refl _ | apply Drawn0.step)⟩
                                  case rest =>
                                    clear HC20
                                    try clear c1
                                    try clear c2
                                    try clear p2
                                    try clear c3
                                    try clear c3b0
                                    try clear c4
                                    try clear c4b0
                                    try clear p5
                                    try clear q5
                                    try clear hx5
                                    try clear c6
                                    try clear c6b0
                                    try clear c8
                                    try clear c8b0
                                    try clear c10
                                    try clear c11
                                    try clear c11b0
                                    try clear c11b1
                                    try clear c13
                                    try clear c13b0
                                    try clear c14
                                    try clear c15
                                    try clear c15b0
                                    try clear c15b1
                                    try clear c17
                                    try clear c17b0
                                    try clear c18
                                    try clear c19
                                    try clear c19b0
                                    try clear c19b1
                                    try clear c21
                                    try clear c21b0
                                    try clear p2
                                    try clear p5
                                    try clear q5
                                    obtain ⟨kq, x45_19, rfl, HA, HJ19, ⟨mc19, rfl⟩⟩ := hcut
                                    cases kq with
                                    | zero => exact absurd HA.out (by simp [n005_152_zzRuneLen.j3])
                                    | succ kj19 =>
                                      have H := HA.out
                                      clear HA
                                      simp only [n005_152_zzRuneLen.j3] at H
                                      by_cases c22 : x45_19 = true
                                      · subst c22
                                        have H1 : (n005_152_zzRuneLen.j4 kj19 a0 a1 3 128 191) = some r := by rw [if_pos rfl] at H; exact H
                                        clear H
                                        have H := H1
                                        clear H1
                                        have H' := Aside0.mk H
                                        clear H
                                        go_wp2
                                        go_meet
                                        case rel => exact ⟨_, (3), (128), (191), (by first | rfl | (simp; done) | (simp [*]; done)), (by first | rfl | (simp; done) | (simp [*]; done)), (by first | rfl | (simp; done) | (simp [*]; done)), H', ⟨by have := HJ6.out; have := HJ11.out; have := HJ15.out; have := HJ19.out; first | omega | exact Nat.le_refl _⟩, by repeat (first | exact Drawn0.refl _ | apply Drawn0.step)⟩
                                      · replace c22 := Bool.eq_false_iff.mpr c22
                                        subst c22
                                        have H1 : (if (bt a0 a1) = 244 then (n005_152_zzRuneLen.j4 kj19 a0 a1 3 128 143) else (some 1)) = some r := by rw [if_neg (show ¬ (false = true) by decide)] at H; exact H
                                        clear H
                                        have H := H1
                                        clear H1
                                        by_cases c23 : (bt a0 a1) = 244
                                        · rw [if_pos c23] at H
                                          have c23b0 : ((bt a0 a1) == 244) = true := beq_iff_eq.mpr c23
                                          have c23b1 : ((bt a0 a1) != 244) = false := bne_eq_false_iff_eq.mpr c23
                                          clear c23
                                          have H' := Aside0.mk H
                                          clear H
                                          go_wp2
                                          go_meet
                                          case rel => exact ⟨_, (3), (128), (143), (by first | rfl | (simp; done) | (simp [*]; done)), (by first | rfl | (simp; done) | (simp [*]; done)), (by first | rfl | (simp; done) | (simp [*]; done)), H', ⟨by have := HJ6.out; have := HJ11.out; have := HJ15.out; have := HJ19.out; first | omega | exact Nat.le_refl _⟩, by repeat (first | exact Drawn0.refl _ | apply Drawn0.step)⟩
                                        · rw [if_neg c23] at H
                                          have c23b0 : ((bt a0 a1) == 244) = false := beq_eq_false_iff_ne.mpr c23
                                          have c23b1 : ((bt a0 a1) != 244) = true := bne_iff_ne.mpr c23
                                          obtain rfl := Option.some.inj H
                                          go_wp2
                                          go_ret
                                          exact ⟨by first | rfl | (simp; done) | (simp [*]; done), by repeat (first | exact Drawn0.refl _ | apply Drawn0.step)⟩
            case rest =>
              clear HC9
              try clear c1
              try clear c2
              try clear p2
              try clear c3
              try clear c3b0
              try clear c4
              try clear c4b0
              try clear p5
              try clear q5
              try clear hx5
              try clear c6
              try clear c6b0
              try clear c8
              try clear c8b0
              try clear c10
              try clear c11
              try clear c11b0
              try clear c11b1
              try clear c13
              try clear c13b0
              try clear c14
              try clear c15
              try clear c15b0
              try clear c15b1
              try clear c17
              try clear c17b0
              try clear c18
              try clear c19
              try clear c19b0
              try clear c19b1
              try clear c21
              try clear c21b0
              try clear c22
              try clear c23
              try clear c23b0
              try clear c23b1
              try clear p2
              try clear p5
              try clear q5
              obtain ⟨kq, x6_8, x7_8, x8_8, rfl, rfl, rfl, HA, HJ8, ⟨mc8, rfl⟩⟩ := hcut
              cases kq with
              | zero => exact absurd HA.out (by simp [n005_152_zzRuneLen.j4])
              | succ kj8 =>
                have H := HA.out
                clear HA
                simp only [n005_152_zzRuneLen.j4] at H
                by_cases c24 : (wrap64 ((a0.size : Int) - a1)) < (wrap64 (x6_8 + 1))
                · rw [if_pos c24] at H
                  have c24b0 : decide ((wrap64 ((a0.size : Int) - a1)) < (wrap64 (x6_8 + 1))) = true := decide_eq_true c24
                  clear c24
                  obtain rfl := Option.some.inj H
                  go_wp2
                  go_ret
                  exact ⟨by first | rfl | (simp; done) | (simp [*]; done), by repeat (first | exact Drawn0.refl _ | apply Drawn0.step)⟩
                · rw [if_neg c24] at H
                  have c24b0 : decide ((wrap64 ((a0.size : Int) - a1)) < (wrap64 (x6_8 + 1))) = false := decide_eq_false c24
                  clear c24
                  obtain ⟨ji25, hji25⟩ : ∃ j_ : Int, (wrap64 (a1 + 1)) = j_ := ⟨_, rfl⟩
                  replace H : (if 0 ≤ (ji25) then (if (ji25) < (a0.size : Int) then (if (bt a0 (ji25)) < x7_8 then (n005_152_zzRuneLen.j5 kj8 a0 a1 x6_8 true) else (n005_152_zzRuneLen.j5 kj8 a0 a1 x6_8 (decide ((bt a0 (ji25)) > x8_8)))) else (none)) else (none)) = some r := by first | (rw [hji25] at H; exact H) | (simp only [hji25] at H ⊢; exact H)
                  have hji25w : (IntKind.i64.wrap (a1 + 1)) = ji25 := (i64_w _).trans hji25
                  by_cases c26 : 0 ≤ (ji25)
                  · rw [if_pos c26] at H
                    have c26b0 : decide (0 ≤ (ji25)) = true := decide_eq_true c26
                    clear c26
                    by_cases c27 : (ji25) < (a0.size : Int)
                    · rw [if_pos c27] at H
                      have c27b0 : decide ((ji25) < (a0.size : Int)) = true := decide_eq_true c27
                      clear c27
                      have HC29 := Aside0.mk H
                      clear H
                      have p28 : 0 ≤ ((ji25) : Int) := of_decide_eq_true (by first | (with_reducible assumption) | assumption)
                      have q28 : (ji25) < (a0.size : Int) := of_decide_eq_true (by first | (with_reducible assumption) | assumption)
                      have hx28 := bt_at a0 (ji25)
                      replace p28 := eq_true p28
                      replace q28 := eq_true q28
                      go_upto_region 31 with (fail)
                      go_cut [66] (fun v66 wc => ∃ (kq : Nat) (x66_28 : Bool), v66 = .bool x66_28 ∧ Aside0 (n005_152_zzRuneLen.j5 kq a0 a1 x6_8 x66_28 = some r) ∧ Aside0 (kq ≤ kj8) ∧ Drawn0 w wc)
                      case first =>
                        have H := HC29.out
                        clear HC29
                        by_cases c30 : (bt a0 (ji25)) < x7_8
                        · rw [if_pos c30] at H
                          have c30b0 : decide ((bt a0 (ji25)) < x7_8) = true := decide_eq_true c30
                          clear c30
                          (first | rw [c30b0] | (simp only [i64_w, i32_w]; rw [c30b0]) | skip)
                          have H' := Aside0.mk H
                          clear H
                          go_wp2
                          go_meet
                          case rel => exact ⟨_, (true), (by first | rfl | (simp; done) | (simp [*]; done)), H', ⟨by have := HJ6.out; have := HJ8.out; first | omega | exact Nat.le_refl _⟩, by repeat (first | exact Drawn0.refl _ | apply Drawn0.step)⟩
                        · rw [if_neg c30] at H
                          have c30b0 : decide ((bt a0 (ji25)) < x7_8) = false := decide_eq_false c30
                          clear c30
                          (first | rw [c30b0] | (simp only [i64_w, i32_w]; rw [c30b0]) | skip)
                          have H' := Aside0.mk H
                          clear H
                          go_wp2
                          go_meet
                          case rel => exact ⟨_, (decide ((bt a0 (ji25)) > x8_8)), (by first | rfl | (simp; done) | (simp only [← hji25] <;> (first | rfl | simp)) | (simp [*]; done)), H', ⟨by have := HJ6.out; have := HJ8.out; first | omega | exact Nat.le_refl _⟩, by repeat (first | exact Drawn0.refl _ | apply Drawn0.step)⟩
                      case rest =>
                        clear HC29
                        try clear c1
                        try clear c2
                        try clear p2
                        try clear q2
                        try clear hx2
                        try clear c3
                        try clear c3b0
                        try clear c4
                        try clear c4b0
                        try clear p5
                        try clear q5
                        try clear hx5
                        try clear c6
                        try clear c6b0
                        try clear p6
                        try clear c8
                        try clear c8b0
                        try clear c10
                        try clear c11
                        try clear c11b0
                        try clear c11b1
                        try clear c13
                        try clear c13b0
                        try clear c14
                        try clear c15
                        try clear c15b0
                        try clear c15b1
                        try clear c17
                        try clear c17b0
                        try clear c18
                        try clear c19
                        try clear c19b0
                        try clear c19b1
                        try clear c21
                        try clear c21b0
                        try clear c22
                        try clear c23
                        try clear c23b0
                        try clear c23b1
                        try clear c24
                        try clear c24b0
                        try clear c26
                        try clear c26b0
                        try clear c27
                        try clear c27b0
                        try clear p28
                        try clear q28
                        try clear hx28
                        try clear c30
                        try clear c30b0
                        try clear p2
                        try clear p28
                        try clear p5
                        try clear q28
                        try clear q5
                        obtain ⟨kq, x66_28, rfl, HA, HJ28, ⟨mc28, rfl⟩⟩ := hcut
                        cases kq with
                        | zero => exact absurd HA.out (by simp [n005_152_zzRuneLen.j5])
                        | succ kj28 =>
                          have H := HA.out
                          clear HA
                          simp only [n005_152_zzRuneLen.j5] at H
                          by_cases c31 : x66_28 = true
                          · subst c31
                            have H1 : (some 1) = some r := by rw [if_pos rfl] at H; exact H
                            clear H
                            have H := H1
                            clear H1
                            obtain rfl := Option.some.inj H
                            go_wp2
                            go_ret
                            exact ⟨by first | rfl | (simp; done) | (simp only [← hji25] <;> (first | rfl | simp)) | (simp [*]; done), by repeat (first | exact Drawn0.refl _ | apply Drawn0.step)⟩
                          · replace c31 := Bool.eq_false_iff.mpr c31
                            subst c31
                            have H1 : (n005_152_zzRuneLen.l0 kj28 a0 a1 x6_8 2) = some r := by rw [if_neg (show ¬ (false = true) by decide)] at H; exact H
                            clear H
                            have H := H1
                            clear H1
                            have H' := Aside0.mk H
                            clear H
                            go_wp2
                            go_loopg [10] kj28 (fun kq v10 w' => ∃ (x10_4 : Int), v10 = .int .i64 x10_4 ∧ Aside0 (n005_152_zzRuneLen.l0 kq a0 a1 x6_8 x10_4 = some r) ∧ Aside0 (kq ≤ kj28) ∧ Drawn0 w w')
                            case atStart => exact ⟨(2), (by first | rfl | (simp; done) | (simp [*]; done)), H', ⟨Nat.le_refl _⟩, by repeat (first | exact Drawn0.refl _ | apply Drawn0.step)⟩
                            case round =>
                              clear H'
                              try clear c1
                              try clear c2
                              try clear p2
                              try clear q2
                              try clear hx2
                              try clear c3
                              try clear c3b0
                              try clear c4
                              try clear c4b0
                              try clear p5
                              try clear q5
                              try clear hx5
                              try clear c6
                              try clear c6b0
                              try clear p6
                              try clear c8
                              try clear c8b0
                              try clear c10
                              try clear c11
                              try clear c11b0
                              try clear c11b1
                              try clear c13
                              try clear c13b0
                              try clear c14
                              try clear c15
                              try clear c15b0
                              try clear c15b1
                              try clear c17
                              try clear c17b0
                              try clear c18
                              try clear c19
                              try clear c19b0
                              try clear c19b1
                              try clear c21
                              try clear c21b0
                              try clear c22
                              try clear c23
                              try clear c23b0
                              try clear c23b1
                              try clear c24
                              try clear c24b0
                              try clear c26
                              try clear c26b0
                              try clear c27
                              try clear c27b0
                              try clear c28
                              try clear p28
                              try clear q28
                              try clear hx28
                              try clear c30
                              try clear c30b0
                              try clear c31
                              try clear p2
                              try clear p28
                              try clear p5
                              try clear p6
                              try clear q2
                              try clear q28
                              try clear q5
                              obtain ⟨x10_4, rfl, HA, HK4, ⟨m4, rfl⟩⟩ := hrel
                              cases gk with
                              | zero => exact absurd HA.out (by simp [n005_152_zzRuneLen.l0])
                              | succ k4 =>
                                have H := HA.out
                                clear HA
                                simp only [n005_152_zzRuneLen.l0] at H
                                by_cases c32 : x10_4 ≤ x6_8
                                · rw [if_pos c32] at H
                                  have c32b0 : decide (x10_4 ≤ x6_8) = true := decide_eq_true c32
                                  clear c32
                                  obtain ⟨ji33, hji33⟩ : ∃ j_ : Int, (wrap64 (a1 + x10_4)) = j_ := ⟨_, rfl⟩
                                  replace H : (if 0 ≤ (ji33) then (if (ji33) < (a0.size : Int) then (if (bt a0 (ji33)) < 128 then (some 1) else (if (bt a0 (ji33)) > 191 then (some 1) else (n005_152_zzRuneLen.l0 k4 a0 a1 x6_8 (wrap64 (x10_4 + 1))))) else (none)) else (none)) = some r := by first | (rw [hji33] at H; exact H) | (simp only [hji33] at H ⊢; exact H)
                                  have hji33w : (IntKind.i64.wrap (a1 + x10_4)) = ji33 := (i64_w _).trans hji33
                                  by_cases c34 : 0 ≤ (ji33)
                                  · rw [if_pos c34] at H
                                    have c34b0 : decide (0 ≤ (ji33)) = true := decide_eq_true c34
                                    clear c34
                                    by_cases c35 : (ji33) < (a0.size : Int)
                                    · rw [if_pos c35] at H
                                      have c35b0 : decide ((ji33) < (a0.size : Int)) = true := decide_eq_true c35
                                      clear c35
                                      by_cases c37 : (bt a0 (ji33)) < 128
                                      · rw [if_pos c37] at H
                                        have c37b0 : decide ((bt a0 (ji33)) < 128) = true := decide_eq_true c37
                                        clear c37
                                        obtain rfl := Option.some.inj H
                                        have p36 : 0 ≤ ((ji33) : Int) := of_decide_eq_true (by first | (with_reducible assumption) | assumption)
                                        have q36 : (ji33) < (a0.size : Int) := of_decide_eq_true (by first | (with_reducible assumption) | assumption)
                                        have hx36 := bt_at a0 (ji33)
                                        replace p36 := eq_true p36
                                        replace q36 := eq_true q36
                                        go_wp2
                                        go_ret
                                        exact ⟨by first | rfl | (simp; done) | (simp only [← hji25, ← hji33] <;> (first | rfl | simp)) | (simp [*]; done), by repeat (first | exact Drawn0.refl _ | apply Drawn0.step)⟩
                                      · rw [if_neg c37] at H
                                        have c37b0 : decide ((bt a0 (ji33)) < 128) = false := decide_eq_false c37
                                        clear c37
                                        by_cases c39 : (bt a0 (ji33)) > 191
                                        · rw [if_pos c39] at H
                                          have c39b0 : decide (191 < (bt a0 (ji33))) = true := decide_eq_true c39
                                          clear c39
                                          obtain rfl := Option.some.inj H
                                          have p36 : 0 ≤ ((ji33) : Int) := of_decide_eq_true (by first | (with_reducible assumption) | assumption)
                                          have q36 : (ji33) < (a0.size : Int) := of_decide_eq_true (by first | (with_reducible assumption) | assumption)
                                          have hx36 := bt_at a0 (ji33)
                                          replace p36 := eq_true p36
                                          replace q36 := eq_true q36
                                          have p38 : 0 ≤ ((ji33) : Int) := of_decide_eq_true (by first | (with_reducible assumption) | assumption)
                                          have q38 : (ji33) < (a0.size : Int) := of_decide_eq_true (by first | (with_reducible assumption) | assumption)
                                          have hx38 := bt_at a0 (ji33)
                                          replace p38 := eq_true p38
                                          replace q38 := eq_true q38
                                          go_wp2
                                          go_ret
                                          exact ⟨by first | rfl | (simp; done) | (simp only [← hji25, ← hji33] <;> (first | rfl | simp)) | (simp [*]; done), by repeat (first | exact Drawn0.refl _ | apply Drawn0.step)⟩
                                        · rw [if_neg c39] at H
                                          have c39b0 : decide (191 < (bt a0 (ji33))) = false := decide_eq_false c39
                                          clear c39
                                          have H' := Aside0.mk H
                                          clear H
                                          have p36 : 0 ≤ ((ji33) : Int) := of_decide_eq_true (by first | (with_reducible assumption) | assumption)
                                          have q36 : (ji33) < (a0.size : Int) := of_decide_eq_true (by first | (with_reducible assumption) | assumption)
                                          have hx36 := bt_at a0 (ji33)
                                          replace p36 := eq_true p36
                                          replace q36 := eq_true q36
                                          have p38 : 0 ≤ ((ji33) : Int) := of_decide_eq_true (by first | (with_reducible assumption) | assumption)
                                          have q38 : (ji33) < (a0.size : Int) := of_decide_eq_true (by first | (with_reducible assumption) | assumption)
                                          have hx38 := bt_at a0 (ji33)
                                          replace p38 := eq_true p38
                                          replace q38 := eq_true q38
                                          go_wp2
                                          go_roundg k4
                                          case measure => have := HJ6.out; have := HJ8.out; have := HJ28.out; have := HK4.out; omega
                                          case rel => exact ⟨(wrap64 (x10_4 + 1)), (by first | rfl | (simp; done) | (simp [*]; done)), H', ⟨by have := HJ6.out; have := HJ8.out; have := HJ28.out; have := HK4.out; omega⟩, by repeat (first | exact Drawn0.refl _ | apply Drawn0.step)⟩
                                    · rw [if_neg c35] at H
                                      exact absurd H (by simp)
                                  · rw [if_neg c34] at H
                                    exact absurd H (by simp)
                                · rw [if_neg c32] at H
                                  have c32b0 : decide (x10_4 ≤ x6_8) = false := decide_eq_false c32
                                  clear c32
                                  obtain rfl := Option.some.inj H
                                  go_wp2
                                  go_ret
                                  exact ⟨by first | rfl | (simp; done) | (simp only [← hji25] <;> (first | rfl | simp)) | (simp [*]; done), by repeat (first | exact Drawn0.refl _ | apply Drawn0.step)⟩
                    · rw [if_neg c27] at H
                      exact absurd H (by simp)
                  · rw [if_neg c26] at H
                    exact absurd H (by simp)
    · rw [if_neg c4] at H
      exact absurd H (by simp)
  · rw [if_neg c3] at H
    exact absurd H (by simp)

/-! ### n005_152_zzRuneCount: function 11 -/
def n005_152_zzRuneCount.l0 : Nat → ByteArray → Int → Int → Option (Int)
  | 0, _, _, _ => none
  | k + 1, x0, x3, x4 => if x4 < (x0.size : Int) then ((n005_152_zzRuneLen.f k x0 x4).bind fun t169 => (n005_152_zzRuneCount.l0 k x0 (wrap64 (x3 + 1)) (wrap64 (x4 + t169)))) else (some x3)
def n005_152_zzRuneCount.f (k : Nat) (a0 : ByteArray) : Option (Int) := n005_152_zzRuneCount.l0 k a0 0 0
set_option maxHeartbeats 8000000 in
set_option maxRecDepth 100000 in
theorem n005_152_zzRuneCount.calls (k : Nat) (a0 : ByteArray) (r : Int) (w : World) (h : n005_152_zzRuneCount.f k a0 = some r) :
    Calls Tryz.prog 11 #[.string a0] w fun e w' => e = .returned (.int .i64 r) ∧ Drawn0 w w' := by
  have H : (n005_152_zzRuneCount.l0 k a0 0 0) = some r := h
  clear h
  have H' := Aside0.mk H
  clear H
  go_enter Tryz.func11, Tryz.ntmps11
  go_wp2
  go_loopg [3, 4] k (fun kq v3 v4 w' => ∃ (x3_1 : Int) (x4_1 : Int), v3 = .int .i64 x3_1 ∧ v4 = .int .i64 x4_1 ∧ Aside0 (n005_152_zzRuneCount.l0 kq a0 x3_1 x4_1 = some r) ∧ Aside0 (kq ≤ k) ∧ Drawn0 w w')
  case atStart => exact ⟨(0), (0), (by first | rfl | (simp; done) | (simp [*]; done)), (by first | rfl | (simp; done) | (simp [*]; done)), H', ⟨Nat.le_refl _⟩, by repeat (first | exact Drawn0.refl _ | apply Drawn0.step)⟩
  case round =>
    clear H'
    try clear c1
    obtain ⟨x3_1, x4_1, rfl, rfl, HA, HK1, ⟨m1, rfl⟩⟩ := hrel
    cases gk with
    | zero => exact absurd HA.out (by simp [n005_152_zzRuneCount.l0])
    | succ k1 =>
      have H := HA.out
      clear HA
      simp only [n005_152_zzRuneCount.l0] at H
      by_cases c2 : x4_1 < (a0.size : Int)
      · rw [if_pos c2] at H
        have c2b0 : decide (x4_1 < (a0.size : Int)) = true := decide_eq_true c2
        clear c2
        replace H := Option.bind_eq_some_iff.mp H
        obtain ⟨t169, A30, H⟩ := H
        replace H : (n005_152_zzRuneCount.l0 k1 a0 (wrap64 (x3_1 + 1)) (wrap64 (x4_1 + t169))) = some r := H
        have A3 := Aside0.mk A30
        clear A30
        have H' := Aside0.mk H
        clear H
        go_wp2_with (first | ((with_reducible refine gate_callee (f := 21) rfl ?_); refine goesL_ (some 12) rfl rfl Tryz.func21 (by kernel_rfl) rfl #[.string a0, .int .i64 x4_1] rfl (by (try simp only [List.map_toArray, List.map_cons, List.map_nil]); first | done | rfl | (simp only [List.length_drop, List.length_take]; rfl)) ?_; (with_reducible refine (n005_152_zzRuneLen.calls k1 a0 x4_1 t169 _ A3.out).mono ?_); rintro e w' ⟨rfl, ⟨nd, rfl⟩⟩; refine ⟨_, rfl, ?_⟩))
        go_roundg k1
        case measure => have := HK1.out; omega
        case rel => exact ⟨(wrap64 (x3_1 + 1)), (wrap64 (x4_1 + t169)), (by first | rfl | (simp; done) | (simp [*]; done)), (by first | rfl | (simp; done) | (simp [*]; done)), H', ⟨by have := HK1.out; omega⟩, by repeat (first | exact Drawn0.refl _ | apply Drawn0.step)⟩
      · rw [if_neg c2] at H
        have c2b0 : decide (x4_1 < (a0.size : Int)) = false := decide_eq_false c2
        clear c2
        obtain rfl := Option.some.inj H
        go_wp2
        go_ret
        exact ⟨by first | rfl | (simp; done) | (simp [*]; done), by repeat (first | exact Drawn0.refl _ | apply Drawn0.step)⟩

/-! ### n005_152_zzSpaces: function 12 -/
def n005_152_zzSpaces.l0 : Nat → Int → List Int → Int → Option (ByteArray)
  | 0, _, _, _ => none
  | k + 1, x0, x3, x4 => if x4 < x0 then (if 0 ≤ x4 then (if x4 < (x3.length : Int) then (n005_152_zzSpaces.l0 k x0 (x3.set (x4 : Int).toNat 32) (wrap64 (x4 + 1))) else (none)) else (none)) else (some (strOfNums x3))
def n005_152_zzSpaces.f (k : Nat) (a0 : Int) : Option (ByteArray) := if 0 ≤ a0 then (if (a0 : Int).toNat ≤ 281474976710656 then (n005_152_zzSpaces.l0 k a0 (List.replicate (a0 : Int).toNat 0) 0) else (none)) else (none)
set_option maxHeartbeats 8000000 in
set_option maxRecDepth 100000 in
theorem n005_152_zzSpaces.calls (k : Nat) (a0 : Int) (r : ByteArray) (w : World) (h : n005_152_zzSpaces.f k a0 = some r) :
    Calls Tryz.prog 12 #[.int .i64 a0] w fun e w' => e = .returned (.string r) ∧ Below w.heap.size w w' := by
  have HB := Aside0.mk (Below.refl w.heap.size w)
  have H : (if 0 ≤ a0 then (if (a0 : Int).toNat ≤ 281474976710656 then (n005_152_zzSpaces.l0 k a0 (List.replicate (a0 : Int).toNat 0) 0) else (none)) else (none)) = some r := h
  clear h
  by_cases c2 : 0 ≤ a0
  · rw [if_pos c2] at H
    have c2b0 := eq_true c2
    have c2b1 : decide (0 ≤ a0) = true := decide_eq_true c2
    clear c2
    by_cases c3 : (a0 : Int).toNat ≤ 281474976710656
    · rw [if_pos c3] at H
      have c3b0 := eq_true c3
      have c3b1 : decide ((a0 : Int).toNat ≤ 281474976710656) = true := decide_eq_true c3
      clear c3
      obtain ⟨y170, hy170⟩ : ∃ y_ : List Int, y_ = (List.replicate (a0 : Int).toNat 0) := ⟨_, rfl⟩
      replace H : (n005_152_zzSpaces.l0 k a0 y170 0) = some r := by first | (rw [hy170]; with_reducible exact H) | (have H2_ := (Option.bind_some _ _).symm.trans H; rw [hy170]; with_reducible exact H2_) | (have H2_ := (Option.bind_some _ _).symm.trans H; with_reducible exact H2_) | with_reducible exact H | (rw [hy170]; exact H) | exact H
      have Ny170 := Aside0.mk hy170
      clear hy170
      have H' := Aside0.mk H
      clear H
      go_enter Tryz.func12, Tryz.ntmps12
      go_wp2_with (first | ((with_reducible refine gate_dst (N := 6) rfl ?_); refine Kd.R_make (Kd.int .u8) _ 5 rfl (N := 6) rfl 37 _ _ rfl a0 rfl rfl Tryz.underlying37 (.int .u8 0) 1 info5 rfl (by decide) (by omega) 0 (ok := fun _ => True) (okp := fun _ => True) rfl (fun _ hk => hk) trivial (of_decide_eq_true (by first | (with_reducible assumption) | assumption)) (Nat.le_trans (Nat.mul_le_mul_right _ (of_decide_eq_true (by first | (with_reducible assumption) | assumption) : a0.toNat ≤ 281474976710656)) (by omega)) (Below.refl _ _) (Nat.le_refl _) ?_; intro v171 w4 ho5 hb hg_ hnew_; clear hg_ hnew_; (first | rw [← Ny170.out] at ho5 | (simp only [Int.reduceToNat] at ho5; rw [← Ny170.out] at ho5)); have n0_ := Aside0.mk (Kd.R_lower ho5 (below_size (by repeat (first | (with_reducible first | exact HB.out | apply below_alloc | apply pw_below_drewN | apply below_drew1) | exact HB.out)))); have n1_ := Aside0.mk (below_step (by repeat (first | (with_reducible first | exact HB.out | apply below_alloc | apply pw_below_drewN | apply below_drew1) | exact HB.out)) hb); clear HB; have HO172 := n0_; have HB := n1_; clear n0_ n1_; clear hb ho5))
      go_loopg [4] k (fun kq v4 w' => ∃ (x3_1 : List Int) (x4_1 : Int), v4 = .int .i64 x4_1 ∧ Aside0 (n005_152_zzSpaces.l0 kq a0 x3_1 x4_1 = some r) ∧ Aside0 (kq ≤ k) ∧ Aside0 (Kd.R (Kd.int .u8) 5 w' w.heap.size (fun _ => True) v171 x3_1) ∧ Aside0 (Below w.heap.size w w'))
      case atStart => exact ⟨(y170), (0), (by first | rfl | (simp; done) | (simp [*]; done)), H', ⟨Nat.le_refl _⟩, ⟨by (with_reducible repeat (first | apply Kd.R_alloc | apply Kd.R_drewN | apply Kd.R_drew)); exact HO172.out⟩, ⟨by repeat (first | (with_reducible first | exact HB.out | apply below_alloc | apply pw_below_drewN | apply below_drew1) | exact HB.out)⟩⟩
      case round =>
        clear H'
        try clear c1
        try clear c2
        try clear c2b0
        try clear c2b1
        try clear p2
        try clear c3
        try clear c3b0
        try clear c3b1
        obtain ⟨x3_1, x4_1, rfl, HA, HK1, HO_3, HB⟩ := hrel
        cases gk with
        | zero => exact absurd HA.out (by simp [n005_152_zzSpaces.l0])
        | succ k1 =>
          have H := HA.out
          clear HA
          simp only [n005_152_zzSpaces.l0] at H
          by_cases c6 : x4_1 < a0
          · rw [if_pos c6] at H
            have c6b0 : decide (x4_1 < a0) = true := decide_eq_true c6
            clear c6
            by_cases c7 : 0 ≤ x4_1
            · rw [if_pos c7] at H
              have c7b0 : decide (0 ≤ x4_1) = true := decide_eq_true c7
              clear c7
              by_cases c8 : x4_1 < (x3_1.length : Int)
              · rw [if_pos c8] at H
                have c8b0 : decide (x4_1 < (x3_1.length : Int)) = true := decide_eq_true c8
                clear c8
                obtain ⟨y173, hy173⟩ : ∃ y_ : List Int, y_ = (x3_1.set (x4_1 : Int).toNat 32) := ⟨_, rfl⟩
                replace H : (n005_152_zzSpaces.l0 k1 a0 y173 (wrap64 (x4_1 + 1))) = some r := by first | (rw [hy173]; with_reducible exact H) | (have H2_ := (Option.bind_some _ _).symm.trans H; rw [hy173]; with_reducible exact H2_) | (have H2_ := (Option.bind_some _ _).symm.trans H; with_reducible exact H2_) | with_reducible exact H | (rw [hy173]; exact H) | exact H
                have Ny173 := Aside0.mk hy173
                clear hy173
                have H' := Aside0.mk H
                clear H
                have p9 : 0 ≤ (x4_1 : Int) := of_decide_eq_true (by first | (with_reducible assumption) | assumption)
                have q9 : (x4_1 : Int) < ((x3_1.length : Int) : Int) := of_decide_eq_true (by first | (with_reducible assumption) | assumption)
                obtain ⟨go9, co9, eo9, gb9, gl9, cl9, HG9⟩ := Kd.R_form HO_3.out (by omega)
                (first | cases eo9 | (injection eo9 with ea_ en_ ec_; (first | subst ea_ | (injection ea_ with ea_; subst ea_)); subst ec_; clear en_))
                have GB9 := Aside0.mk gb9
                have GG9 := Aside0.mk HG9
                clear gb9 gl9 HG9
                obtain ⟨hx9_0, hf9_0⟩ := Kd.R_celln 0 HO_3.out (x4_1 : Int) p9 q9
                replace p9 := eq_true p9
                replace q9 := eq_true q9
                have HP10 := Kd.R_putg HO_3.out (x4_1 : Int) 32
                go_wp2_with (first | ((with_reducible refine gate_store (t := 5) (p := 14) rfl ?_); refine store_event (t := 5) (p := 14) (v := ?vo_w11) (w1 := (wr.setCell ⟨go9, (x4_1 : Int).toNat, none⟩ (.int .u8 32))) ?hg ?ho ?hn ?hr ?_; (case ho => rfl); (case hg => rfl); (case hn => rfl); (case hr => first | (go_simp; done) | (go_simp; rfl)); intro w11 hw; have hg : wr.grownBy w11 (some go9) := (by rw [hw]; exact HP10.2); have hp_ : Kd.R (Kd.int .u8) 5 w11 w.heap.size (fun _ => True) (.slice (some ⟨go9, 0, none⟩) x3_1.length co9) y173 := (by rw [hw, Ny173.out]; exact HP10.1); clear HP10; have n0_ := Aside0.mk (hp_); have n1_ := Aside0.mk ((by rw [hw]; exact below_set (HB.out) GB9.out : Below w.heap.size w w11)); clear HO_3; clear HB; have HO_3 := n0_; have HB := n1_; clear n0_ n1_; clear hg hw hp_))
                go_roundg k1
                case measure => have := HK1.out; omega
                case rel => exact ⟨(y173), (wrap64 (x4_1 + 1)), (by first | rfl | (simp; done) | (simp [*]; done)), H', ⟨by have := HK1.out; omega⟩, ⟨by (with_reducible repeat (first | apply Kd.R_alloc | apply Kd.R_drewN | apply Kd.R_drew)); exact HO_3.out⟩, ⟨by repeat (first | (with_reducible first | exact HB.out | apply below_alloc | apply pw_below_drewN | apply below_drew1) | exact HB.out)⟩⟩
              · rw [if_neg c8] at H
                exact absurd H (by simp)
            · rw [if_neg c7] at H
              exact absurd H (by simp)
          · rw [if_neg c6] at H
            have c6b0 : decide (x4_1 < a0) = false := decide_eq_false c6
            clear c6
            obtain rfl := Option.some.inj H
            have hcv12 := own_string (P := Tryz.prog) Tryz.underlying37 Tryz.underlying5 Tryz.underlying9 (Kd.own_of_R HO_3.out)
            go_wp2
            go_ret
            exact ⟨by first | rfl | (simp [errW_none, errW_some] <;> rfl) | (simp [*, errW_none, errW_some] <;> rfl), by repeat (first | (with_reducible first | exact HB.out | apply below_alloc | apply pw_below_drewN | apply below_drew1) | exact HB.out)⟩
    · rw [if_neg c3] at H
      exact absurd H (by simp)
  · rw [if_neg c2] at H
    exact absurd H (by simp)

/-! ### n005_152_zzPadLeft: function 7 -/
def n005_152_zzPadLeft.f (k : Nat) (a0 : ByteArray) (a1 : Int) : Option (ByteArray) := (n005_152_zzRuneCount.f k a0).bind fun t174 => (if t174 ≥ a1 then (some a0) else ((n005_152_zzSpaces.f k (wrap64 (a1 - t174))).bind fun t175 => (if t175.size + a0.size ≤ 9223372036854775807 then (some (t175 ++ a0)) else (none))))
set_option maxHeartbeats 8000000 in
set_option maxRecDepth 100000 in
theorem n005_152_zzPadLeft.calls (k : Nat) (a0 : ByteArray) (a1 : Int) (r : ByteArray) (w : World) (h : n005_152_zzPadLeft.f k a0 a1 = some r) :
    Calls Tryz.prog 7 #[.string a0, .int .i64 a1] w fun e w' => e = .returned (.string r) ∧ Below w.heap.size w w' := by
  have HB := Aside0.mk (Below.refl w.heap.size w)
  have H : ((n005_152_zzRuneCount.f k a0).bind fun t174 => (if t174 ≥ a1 then (some a0) else ((n005_152_zzSpaces.f k (wrap64 (a1 - t174))).bind fun t175 => (if t175.size + a0.size ≤ 9223372036854775807 then (some (t175 ++ a0)) else (none))))) = some r := h
  clear h
  replace H := Option.bind_eq_some_iff.mp H
  obtain ⟨t174, A30, H⟩ := H
  replace H : (if t174 ≥ a1 then (some a0) else ((n005_152_zzSpaces.f k (wrap64 (a1 - t174))).bind fun t175 => (if t175.size + a0.size ≤ 9223372036854775807 then (some (t175 ++ a0)) else (none)))) = some r := H
  have A3 := Aside0.mk A30
  clear A30
  by_cases c4 : t174 ≥ a1
  · rw [if_pos c4] at H
    have c4b0 : decide (a1 ≤ t174) = true := decide_eq_true c4
    clear c4
    obtain rfl := Option.some.inj H
    go_enter Tryz.func7, Tryz.ntmps7
    go_wp2_with (first | ((with_reducible refine gate_callee (f := 11) rfl ?_); refine goesL_ (some 7) rfl rfl Tryz.func11 (by kernel_rfl) rfl #[.string a0] rfl (by (try simp only [List.map_toArray, List.map_cons, List.map_nil]); first | done | rfl | (simp only [List.length_drop, List.length_take]; rfl)) ?_; (with_reducible refine (n005_152_zzRuneCount.calls k a0 t174 _ A3.out).mono ?_); rintro e w' ⟨rfl, ⟨nd, rfl⟩⟩; refine ⟨_, rfl, ?_⟩))
    go_ret
    exact ⟨by first | rfl | (simp [errW_none, errW_some] <;> rfl) | (simp [*, errW_none, errW_some] <;> rfl), by repeat (first | (with_reducible first | exact HB.out | apply below_alloc | apply pw_below_drewN | apply below_drew1) | exact HB.out)⟩
  · rw [if_neg c4] at H
    have c4b0 : decide (a1 ≤ t174) = false := decide_eq_false c4
    clear c4
    replace H := Option.bind_eq_some_iff.mp H
    obtain ⟨t175, A50, H⟩ := H
    replace H : (if t175.size + a0.size ≤ 9223372036854775807 then (some (t175 ++ a0)) else (none)) = some r := H
    have A5 := Aside0.mk A50
    clear A50
    by_cases c6 : t175.size + a0.size ≤ 9223372036854775807
    · rw [if_pos c6] at H
      have c6b0 := eq_true c6
      have c6b1 : decide (t175.size + a0.size ≤ 9223372036854775807) = true := decide_eq_true c6
      try have c6b2 : (9223372036854775807 < t175.size + a0.size) = False := eq_false (Nat.not_lt.2 c6)
      obtain rfl := Option.some.inj H
      go_enter Tryz.func7, Tryz.ntmps7
      go_wp2_with (first | ((with_reducible refine gate_callee (f := 11) rfl ?_); refine goesL_ (some 7) rfl rfl Tryz.func11 (by kernel_rfl) rfl #[.string a0] rfl (by (try simp only [List.map_toArray, List.map_cons, List.map_nil]); first | done | rfl | (simp only [List.length_drop, List.length_take]; rfl)) ?_; (with_reducible refine (n005_152_zzRuneCount.calls k a0 t174 _ A3.out).mono ?_); rintro e w' ⟨rfl, ⟨nd, rfl⟩⟩; refine ⟨_, rfl, ?_⟩) | ((with_reducible refine gate_callee (f := 12) rfl ?_); refine goesL_ (some 15) rfl rfl Tryz.func12 (by kernel_rfl) rfl #[.int .i64 (wrap64 (a1 - t174))] rfl (by (try simp only [List.map_toArray, List.map_cons, List.map_nil]); first | done | rfl | (simp only [List.length_drop, List.length_take]; rfl)) ?_; (with_reducible refine (n005_152_zzSpaces.calls k (wrap64 (a1 - t174)) t175 _ A5.out).mono ?_); rintro e w7 ⟨rfl, hb⟩; refine ⟨_, rfl, ?_⟩; have n0_ := Aside0.mk (below_step (by repeat (first | (with_reducible first | exact HB.out | apply below_alloc | apply pw_below_drewN | apply below_drew1) | exact HB.out)) hb); clear HB; have HB := n0_; clear n0_; (try clear hb); (try clear hb2); (try clear hk); (try clear hi)))
      go_ret
      exact ⟨by first | rfl | (simp [errW_none, errW_some] <;> rfl) | (simp [*, errW_none, errW_some] <;> rfl), by repeat (first | (with_reducible first | exact HB.out | apply below_alloc | apply pw_below_drewN | apply below_drew1) | exact HB.out)⟩
    · rw [if_neg c6] at H
      exact absurd H (by simp)

/-! ### n005_152_zzPadRight: function 8 -/
def n005_152_zzPadRight.f (k : Nat) (a0 : ByteArray) (a1 : Int) : Option (ByteArray) := (n005_152_zzRuneCount.f k a0).bind fun t176 => (if t176 ≥ a1 then (some a0) else ((n005_152_zzSpaces.f k (wrap64 (a1 - t176))).bind fun t177 => (if a0.size + t177.size ≤ 9223372036854775807 then (some (a0 ++ t177)) else (none))))
set_option maxHeartbeats 8000000 in
set_option maxRecDepth 100000 in
theorem n005_152_zzPadRight.calls (k : Nat) (a0 : ByteArray) (a1 : Int) (r : ByteArray) (w : World) (h : n005_152_zzPadRight.f k a0 a1 = some r) :
    Calls Tryz.prog 8 #[.string a0, .int .i64 a1] w fun e w' => e = .returned (.string r) ∧ Below w.heap.size w w' := by
  have HB := Aside0.mk (Below.refl w.heap.size w)
  have H : ((n005_152_zzRuneCount.f k a0).bind fun t176 => (if t176 ≥ a1 then (some a0) else ((n005_152_zzSpaces.f k (wrap64 (a1 - t176))).bind fun t177 => (if a0.size + t177.size ≤ 9223372036854775807 then (some (a0 ++ t177)) else (none))))) = some r := h
  clear h
  replace H := Option.bind_eq_some_iff.mp H
  obtain ⟨t176, A30, H⟩ := H
  replace H : (if t176 ≥ a1 then (some a0) else ((n005_152_zzSpaces.f k (wrap64 (a1 - t176))).bind fun t177 => (if a0.size + t177.size ≤ 9223372036854775807 then (some (a0 ++ t177)) else (none)))) = some r := H
  have A3 := Aside0.mk A30
  clear A30
  by_cases c4 : t176 ≥ a1
  · rw [if_pos c4] at H
    have c4b0 : decide (a1 ≤ t176) = true := decide_eq_true c4
    clear c4
    obtain rfl := Option.some.inj H
    go_enter Tryz.func8, Tryz.ntmps8
    go_wp2_with (first | ((with_reducible refine gate_callee (f := 11) rfl ?_); refine goesL_ (some 7) rfl rfl Tryz.func11 (by kernel_rfl) rfl #[.string a0] rfl (by (try simp only [List.map_toArray, List.map_cons, List.map_nil]); first | done | rfl | (simp only [List.length_drop, List.length_take]; rfl)) ?_; (with_reducible refine (n005_152_zzRuneCount.calls k a0 t176 _ A3.out).mono ?_); rintro e w' ⟨rfl, ⟨nd, rfl⟩⟩; refine ⟨_, rfl, ?_⟩))
    go_ret
    exact ⟨by first | rfl | (simp [errW_none, errW_some] <;> rfl) | (simp [*, errW_none, errW_some] <;> rfl), by repeat (first | (with_reducible first | exact HB.out | apply below_alloc | apply pw_below_drewN | apply below_drew1) | exact HB.out)⟩
  · rw [if_neg c4] at H
    have c4b0 : decide (a1 ≤ t176) = false := decide_eq_false c4
    clear c4
    replace H := Option.bind_eq_some_iff.mp H
    obtain ⟨t177, A50, H⟩ := H
    replace H : (if a0.size + t177.size ≤ 9223372036854775807 then (some (a0 ++ t177)) else (none)) = some r := H
    have A5 := Aside0.mk A50
    clear A50
    by_cases c6 : a0.size + t177.size ≤ 9223372036854775807
    · rw [if_pos c6] at H
      have c6b0 := eq_true c6
      have c6b1 : decide (a0.size + t177.size ≤ 9223372036854775807) = true := decide_eq_true c6
      try have c6b2 : (9223372036854775807 < a0.size + t177.size) = False := eq_false (Nat.not_lt.2 c6)
      obtain rfl := Option.some.inj H
      go_enter Tryz.func8, Tryz.ntmps8
      go_wp2_with (first | ((with_reducible refine gate_callee (f := 11) rfl ?_); refine goesL_ (some 7) rfl rfl Tryz.func11 (by kernel_rfl) rfl #[.string a0] rfl (by (try simp only [List.map_toArray, List.map_cons, List.map_nil]); first | done | rfl | (simp only [List.length_drop, List.length_take]; rfl)) ?_; (with_reducible refine (n005_152_zzRuneCount.calls k a0 t176 _ A3.out).mono ?_); rintro e w' ⟨rfl, ⟨nd, rfl⟩⟩; refine ⟨_, rfl, ?_⟩) | ((with_reducible refine gate_callee (f := 12) rfl ?_); refine goesL_ (some 16) rfl rfl Tryz.func12 (by kernel_rfl) rfl #[.int .i64 (wrap64 (a1 - t176))] rfl (by (try simp only [List.map_toArray, List.map_cons, List.map_nil]); first | done | rfl | (simp only [List.length_drop, List.length_take]; rfl)) ?_; (with_reducible refine (n005_152_zzSpaces.calls k (wrap64 (a1 - t176)) t177 _ A5.out).mono ?_); rintro e w7 ⟨rfl, hb⟩; refine ⟨_, rfl, ?_⟩; have n0_ := Aside0.mk (below_step (by repeat (first | (with_reducible first | exact HB.out | apply below_alloc | apply pw_below_drewN | apply below_drew1) | exact HB.out)) hb); clear HB; have HB := n0_; clear n0_; (try clear hb); (try clear hb2); (try clear hk); (try clear hi)))
      go_ret
      exact ⟨by first | rfl | (simp [errW_none, errW_some] <;> rfl) | (simp [*, errW_none, errW_some] <;> rfl), by repeat (first | (with_reducible first | exact HB.out | apply below_alloc | apply pw_below_drewN | apply below_drew1) | exact HB.out)⟩
    · rw [if_neg c6] at H
      exact absurd H (by simp)

-- NOT PRINTED: function 3 (n005_152_FnLStringFormatDCaseTable)

end Go.Proofs.YtfkpbkjokapijaaGreatFmt.PQ
