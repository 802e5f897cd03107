/- The contract of readFloat: its answer is that of a plain function of the text, whatever the memory. -/
import Derived.Test.YtfkpbkjokapijaaGreatFmtPQ1
namespace Go.Proofs.YtfkpbkjokapijaaGreatFmt.PQ
open Go.RowKit Go.Proofs.YtfkpbkjokapijaaGreatFmtW.PrintWords Go.Proofs.YtfkpbkjokapijaaGreatFmtW.PrintLast Go.Proofs.YtfkpbkjokapijaaGreatFmtW.PrintMore
attribute [local go_sem] max2_int min2_int max_two min_two max_three min_three max_four min_four
set_option linter.unusedVariables false
set_option linter.unusedSimpArgs false

theorem empty_true {a : ByteArray} (h : a.size ≤ 0) : (a = ByteArray.empty) = True := eq_true (ByteArray.size_eq_zero_iff.mp (by omega))
theorem empty_false {a : ByteArray} (h : ¬ a.size ≤ 0) : (a = ByteArray.empty) = False := eq_false (fun e => h (by subst e; exact Nat.le_refl 0))
/-! ### strconv_readFloat: function 61 -/
mutual
def strconv_readFloat.j0 : Nat → ByteArray → Int → Int → Bool → Bool → Bool → Int → Bool → Bool → Option (Int × Int × Bool × Bool × Bool × Int × Bool)
  | 0, _, _, _, _, _, _, _, _, _ => none
  | k + 1, x0, x2, x3, x4, x5, x6, x7, x8, x9 => if (wrap64 (x7 + 2)) < (x0.size : Int) then (if 0 ≤ x7 then (if x7 < (x0.size : Int) then (if (bt x0 x7) = 48 then (if 0 ≤ (wrap64 (x7 + 1)) then (if (wrap64 (x7 + 1)) < (x0.size : Int) then (strconv_readFloat.j1 k x0 x2 x3 x4 x5 x6 x7 x8 x9 10 19 101 ((Go.bits .or .u8 (bt x0 (wrap64 (x7 + 1))) 32) == 120)) else (none)) else (none)) else (strconv_readFloat.j1 k x0 x2 x3 x4 x5 x6 x7 x8 x9 10 19 101 false)) else (none)) else (none)) else (strconv_readFloat.j1 k x0 x2 x3 x4 x5 x6 x7 x8 x9 10 19 101 false)
def strconv_readFloat.j1 : Nat → ByteArray → Int → Int → Bool → Bool → Bool → Int → Bool → Bool → Int → Int → Int → Bool → Option (Int × Int × Bool × Bool × Bool × Int × Bool)
  | 0, _, _, _, _, _, _, _, _, _, _, _, _, _ => none
  | k + 1, x0, x2, x3, x4, x5, x6, x7, x8, x9, x10, x11, x12, x54 => if x54 = true then (strconv_readFloat.j2 k x0 x2 x3 x4 x5 true (wrap64 (x7 + 2)) x8 x9 16 16 112) else (strconv_readFloat.j2 k x0 x2 x3 x4 x5 x6 x7 x8 x9 x10 x11 x12)
def strconv_readFloat.j2 : Nat → ByteArray → Int → Int → Bool → Bool → Bool → Int → Bool → Bool → Int → Int → Int → Option (Int × Int × Bool × Bool × Bool × Int × Bool)
  | 0, _, _, _, _, _, _, _, _, _, _, _, _ => none
  | k + 1, x0, x2, x3, x4, x5, x6, x7, x8, x9, x10, x11, x12 => strconv_readFloat.l0 k x0 x2 x3 x4 x5 x6 x7 x8 x9 x10 x11 x12 false false 0 0 0
def strconv_readFloat.j7 : Nat → ByteArray → Int → Int → Bool → Bool → Bool → Int → Bool → Bool → Int → Int → Bool → Bool → Int → Int → Int → Option (Int × Int × Bool × Bool × Bool × Int × Bool)
  | 0, _, _, _, _, _, _, _, _, _, _, _, _, _, _, _, _ => none
  | k + 1, x0, x2, x3, x4, x5, x6, x7, x8, x9, x10, x12, x13, x14, x15, x16, x17 => if x14 = true then (if x13 = true then (strconv_readFloat.j8 k x0 x2 x3 x4 x5 x6 x7 x8 x9 x10 x12 x16 x17) else (strconv_readFloat.j8 k x0 x2 x3 x4 x5 x6 x7 x8 x9 x10 x12 x16 x15)) else (some (x2, x3, x4, x5, x6, x7, x8))
def strconv_readFloat.j8 : Nat → ByteArray → Int → Int → Bool → Bool → Bool → Int → Bool → Bool → Int → Int → Int → Int → Option (Int × Int × Bool × Bool × Bool × Int × Bool)
  | 0, _, _, _, _, _, _, _, _, _, _, _, _, _ => none
  | k + 1, x0, x2, x3, x4, x5, x6, x7, x8, x9, x10, x12, x16, x17 => if x10 = 16 then (strconv_readFloat.j9 k x0 x2 x3 x4 x5 x6 x7 x8 x9 x10 x12 (wrap64 (x16 * 4)) (wrap64 (x17 * 4))) else (strconv_readFloat.j9 k x0 x2 x3 x4 x5 x6 x7 x8 x9 x10 x12 x16 x17)
def strconv_readFloat.j9 : Nat → ByteArray → Int → Int → Bool → Bool → Bool → Int → Bool → Bool → Int → Int → Int → Int → Option (Int × Int × Bool × Bool × Bool × Int × Bool)
  | 0, _, _, _, _, _, _, _, _, _, _, _, _, _ => none
  | k + 1, x0, x2, x3, x4, x5, x6, x7, x8, x9, x10, x12, x16, x17 => if x7 < (x0.size : Int) then (if 0 ≤ x7 then (strconv_readFloat.j10 k x0 x2 x3 x4 x5 x6 x7 x8 x9 x10 x16 x17 ((Go.bits .or .u8 (bt x0 x7) 32) == x12)) else (none)) else (strconv_readFloat.j10 k x0 x2 x3 x4 x5 x6 x7 x8 x9 x10 x16 x17 false)
def strconv_readFloat.j10 : Nat → ByteArray → Int → Int → Bool → Bool → Bool → Int → Bool → Bool → Int → Int → Int → Bool → Option (Int × Int × Bool × Bool × Bool × Int × Bool)
  | 0, _, _, _, _, _, _, _, _, _, _, _, _, _ => none
  | k + 1, x0, x2, x3, x4, x5, x6, x7, x8, x9, x10, x16, x17, x161 => if x161 = true then (if (wrap64 (x7 + 1)) ≥ (x0.size : Int) then (some (x2, x3, x4, x5, x6, wrap64 (x7 + 1), x8)) else (if 0 ≤ (wrap64 (x7 + 1)) then (if (wrap64 (x7 + 1)) < (x0.size : Int) then (if (bt x0 (wrap64 (x7 + 1))) = 43 then (strconv_readFloat.j11 k x0 x2 x3 x4 x5 x6 (wrap64 ((wrap64 (x7 + 1)) + 1)) x8 x9 x16 x17 1) else (if (bt x0 (wrap64 (x7 + 1))) = 45 then (strconv_readFloat.j11 k x0 x2 x3 x4 x5 x6 (wrap64 ((wrap64 (x7 + 1)) + 1)) x8 x9 x16 x17 (-1)) else (strconv_readFloat.j11 k x0 x2 x3 x4 x5 x6 (wrap64 (x7 + 1)) x8 x9 x16 x17 1))) else (none)) else (none))) else (if x10 = 16 then (some (x2, x3, x4, x5, x6, x7, x8)) else (strconv_readFloat.j15 k x0 x2 x3 x4 x5 x6 x7 x8 x9 x16 x17))
def strconv_readFloat.j15 : Nat → ByteArray → Int → Int → Bool → Bool → Bool → Int → Bool → Bool → Int → Int → Option (Int × Int × Bool × Bool × Bool × Int × Bool)
  | 0, _, _, _, _, _, _, _, _, _, _, _ => none
  | k + 1, x0, x2, x3, x4, x5, x6, x7, x8, x9, x16, x17 => if x2 = 0 then (if x9 = true then (if 0 ≤ x7 then (if x7 ≤ (x0.size : Int) then ((strconv_underscoreOK.f k (x0.extract 0 (x7 : Int).toNat)).bind fun t131 => (if t131 = true then (some (x2, x3, x4, x5, x6, x7, true)) else (some (x2, x3, x4, x5, x6, x7, x8)))) else (none)) else (none)) else (some (x2, x3, x4, x5, x6, x7, true))) else (if x9 = true then (if 0 ≤ x7 then (if x7 ≤ (x0.size : Int) then ((strconv_underscoreOK.f k (x0.extract 0 (x7 : Int).toNat)).bind fun t132 => (if t132 = true then (some (x2, wrap64 (x17 - x16), x4, x5, x6, x7, true)) else (some (x2, wrap64 (x17 - x16), x4, x5, x6, x7, x8)))) else (none)) else (none)) else (some (x2, wrap64 (x17 - x16), x4, x5, x6, x7, true)))
def strconv_readFloat.j11 : Nat → ByteArray → Int → Int → Bool → Bool → Bool → Int → Bool → Bool → Int → Int → Int → Option (Int × Int × Bool × Bool × Bool × Int × Bool)
  | 0, _, _, _, _, _, _, _, _, _, _, _, _ => none
  | k + 1, x0, x2, x3, x4, x5, x6, x7, x8, x9, x16, x17, x19 => if x7 ≥ (x0.size : Int) then (strconv_readFloat.j12 k x0 x2 x3 x4 x5 x6 x7 x8 x9 x16 x17 x19 true) else (if 0 ≤ x7 then (if x7 < (x0.size : Int) then (if (bt x0 x7) < 48 then (strconv_readFloat.j12 k x0 x2 x3 x4 x5 x6 x7 x8 x9 x16 x17 x19 true) else (strconv_readFloat.j12 k x0 x2 x3 x4 x5 x6 x7 x8 x9 x16 x17 x19 (decide ((bt x0 x7) > 57)))) else (none)) else (none))
def strconv_readFloat.j12 : Nat → ByteArray → Int → Int → Bool → Bool → Bool → Int → Bool → Bool → Int → Int → Int → Bool → Option (Int × Int × Bool × Bool × Bool × Int × Bool)
  | 0, _, _, _, _, _, _, _, _, _, _, _, _, _ => none
  | k + 1, x0, x2, x3, x4, x5, x6, x7, x8, x9, x16, x17, x19, x194 => if x194 = true then (some (x2, x3, x4, x5, x6, x7, x8)) else (strconv_readFloat.l1 k x0 x2 x3 x4 x5 x6 x7 x8 x9 x16 x17 x19 0)
def strconv_readFloat.l1 : Nat → ByteArray → Int → Int → Bool → Bool → Bool → Int → Bool → Bool → Int → Int → Int → Int → Option (Int × Int × Bool × Bool × Bool × Int × Bool)
  | 0, _, _, _, _, _, _, _, _, _, _, _, _, _ => none
  | k + 1, x0, x2, x3, x4, x5, x6, x7, x8, x9, x16, x17, x19, x20 => if x7 < (x0.size : Int) then (if 0 ≤ x7 then (if 48 ≤ (bt x0 x7) then (if (bt x0 x7) ≤ 57 then (strconv_readFloat.j14 k x0 x2 x3 x4 x5 x6 x7 x8 x9 x16 x17 x19 x20 true) else (strconv_readFloat.j14 k x0 x2 x3 x4 x5 x6 x7 x8 x9 x16 x17 x19 x20 ((bt x0 x7) == 95))) else (strconv_readFloat.j14 k x0 x2 x3 x4 x5 x6 x7 x8 x9 x16 x17 x19 x20 ((bt x0 x7) == 95))) else (none)) else (strconv_readFloat.j14 k x0 x2 x3 x4 x5 x6 x7 x8 x9 x16 x17 x19 x20 false)
def strconv_readFloat.j14 : Nat → ByteArray → Int → Int → Bool → Bool → Bool → Int → Bool → Bool → Int → Int → Int → Int → Bool → Option (Int × Int × Bool × Bool × Bool × Int × Bool)
  | 0, _, _, _, _, _, _, _, _, _, _, _, _, _, _ => none
  | k + 1, x0, x2, x3, x4, x5, x6, x7, x8, x9, x16, x17, x19, x20, x216 => if x216 = true then (if 0 ≤ x7 then (if x7 < (x0.size : Int) then (if (bt x0 x7) = 95 then (strconv_readFloat.l1 k x0 x2 x3 x4 x5 x6 (wrap64 (x7 + 1)) x8 true x16 x17 x19 x20) else (if x20 < 10000 then (strconv_readFloat.l1 k x0 x2 x3 x4 x5 x6 (wrap64 (x7 + 1)) x8 x9 x16 x17 x19 (wrap64 ((wrap64 ((wrap64 (x20 * 10)) + (wrap64 (bt x0 x7)))) - 48))) else (strconv_readFloat.l1 k x0 x2 x3 x4 x5 x6 (wrap64 (x7 + 1)) x8 x9 x16 x17 x19 x20))) else (none)) else (none)) else (strconv_readFloat.j15 k x0 x2 x3 x4 x5 x6 x7 x8 x9 x16 (wrap64 (x17 + (wrap64 (x20 * x19)))))
def strconv_readFloat.l0 : Nat → ByteArray → Int → Int → Bool → Bool → Bool → Int → Bool → Bool → Int → Int → Int → Bool → Bool → Int → Int → Int → Option (Int × Int × Bool × Bool × Bool × Int × Bool)
  | 0, _, _, _, _, _, _, _, _, _, _, _, _, _, _, _, _, _ => none
  | k + 1, x0, x2, x3, x4, x5, x6, x7, x8, x9, x10, x11, x12, x13, x14, x15, x16, x17 => if x7 < (x0.size : Int) then (if 0 ≤ x7 then (if (true == ((bt x0 x7) == 95)) = true then (strconv_readFloat.l0 k x0 x2 x3 x4 x5 x6 (wrap64 (x7 + 1)) x8 true x10 x11 x12 x13 x14 x15 x16 x17) else (if (true == ((bt x0 x7) == 46)) = true then (if x13 = true then (strconv_readFloat.j7 k x0 x2 x3 x4 x5 x6 x7 x8 x9 x10 x12 x13 x14 x15 x16 x17) else (strconv_readFloat.l0 k x0 x2 x3 x4 x5 x6 (wrap64 (x7 + 1)) x8 x9 x10 x11 x12 true x14 x15 x16 x15)) else (if 48 ≤ (bt x0 x7) then (strconv_readFloat.j4 k x0 x2 x3 x4 x5 x6 x7 x8 x9 x10 x11 x12 x13 x14 x15 x16 x17 (bt x0 x7) (true == (decide ((bt x0 x7) ≤ 57)))) else (strconv_readFloat.j4 k x0 x2 x3 x4 x5 x6 x7 x8 x9 x10 x11 x12 x13 x14 x15 x16 x17 (bt x0 x7) (true == false))))) else (none)) else (strconv_readFloat.j7 k x0 x2 x3 x4 x5 x6 x7 x8 x9 x10 x12 x13 x14 x15 x16 x17)
def strconv_readFloat.j4 : Nat → ByteArray → Int → Int → Bool → Bool → Bool → Int → Bool → Bool → Int → Int → Int → Bool → Bool → Int → Int → Int → Int → Bool → Option (Int × Int × Bool × Bool × Bool × Int × Bool)
  | 0, _, _, _, _, _, _, _, _, _, _, _, _, _, _, _, _, _, _, _ => none
  | k + 1, x0, x2, x3, x4, x5, x6, x7, x8, x9, x10, x11, x12, x13, x14, x15, x16, x17, x18, x76 => if x76 = true then (if x18 = 48 then (strconv_readFloat.j5 k x0 x2 x3 x4 x5 x6 x7 x8 x9 x10 x11 x12 x13 true x15 x16 x17 x18 (x15 == 0)) else (strconv_readFloat.j5 k x0 x2 x3 x4 x5 x6 x7 x8 x9 x10 x11 x12 x13 true x15 x16 x17 x18 false)) else (if x10 = 16 then (if 97 ≤ (Go.bits .or .u8 x18 32) then (strconv_readFloat.j6 k x0 x2 x3 x4 x5 x6 x7 x8 x9 x10 x11 x12 x13 x14 x15 x16 x17 x18 (true == (decide ((Go.bits .or .u8 x18 32) ≤ 102)))) else (strconv_readFloat.j6 k x0 x2 x3 x4 x5 x6 x7 x8 x9 x10 x11 x12 x13 x14 x15 x16 x17 x18 (true == false))) else (strconv_readFloat.j6 k x0 x2 x3 x4 x5 x6 x7 x8 x9 x10 x11 x12 x13 x14 x15 x16 x17 x18 (true == false)))
def strconv_readFloat.j5 : Nat → ByteArray → Int → Int → Bool → Bool → Bool → Int → Bool → Bool → Int → Int → Int → Bool → Bool → Int → Int → Int → Int → Bool → Option (Int × Int × Bool × Bool × Bool × Int × Bool)
  | 0, _, _, _, _, _, _, _, _, _, _, _, _, _, _, _, _, _, _, _ => none
  | k + 1, x0, x2, x3, x4, x5, x6, x7, x8, x9, x10, x11, x12, x13, x14, x15, x16, x17, x18, x89 => if x89 = true then (strconv_readFloat.l0 k x0 x2 x3 x4 x5 x6 (wrap64 (x7 + 1)) x8 x9 x10 x11 x12 x13 x14 x15 x16 (wrap64 (x17 - 1))) else (if x16 < x11 then (strconv_readFloat.l0 k x0 (IntKind.u64.wrap ((IntKind.u64.wrap (x2 * x10)) + ((x18 - 48) % 256))) x3 x4 x5 x6 (wrap64 (x7 + 1)) x8 x9 x10 x11 x12 x13 x14 (wrap64 (x15 + 1)) (wrap64 (x16 + 1)) x17) else (if x18 = 48 then (strconv_readFloat.l0 k x0 x2 x3 x4 x5 x6 (wrap64 (x7 + 1)) x8 x9 x10 x11 x12 x13 x14 (wrap64 (x15 + 1)) x16 x17) else (strconv_readFloat.l0 k x0 x2 x3 x4 true x6 (wrap64 (x7 + 1)) x8 x9 x10 x11 x12 x13 x14 (wrap64 (x15 + 1)) x16 x17)))
def strconv_readFloat.j6 : Nat → ByteArray → Int → Int → Bool → Bool → Bool → Int → Bool → Bool → Int → Int → Int → Bool → Bool → Int → Int → Int → Int → Bool → Option (Int × Int × Bool × Bool × Bool × Int × Bool)
  | 0, _, _, _, _, _, _, _, _, _, _, _, _, _, _, _, _, _, _, _ => none
  | k + 1, x0, x2, x3, x4, x5, x6, x7, x8, x9, x10, x11, x12, x13, x14, x15, x16, x17, x18, x109 => if x109 = true then (if x16 < x11 then (strconv_readFloat.l0 k x0 (IntKind.u64.wrap ((IntKind.u64.wrap (x2 * 16)) + (((((Go.bits .or .u8 x18 32) - 97) % 256) + 10) % 256))) x3 x4 x5 x6 (wrap64 (x7 + 1)) x8 x9 x10 x11 x12 x13 true (wrap64 (x15 + 1)) (wrap64 (x16 + 1)) x17) else (strconv_readFloat.l0 k x0 x2 x3 x4 true x6 (wrap64 (x7 + 1)) x8 x9 x10 x11 x12 x13 true (wrap64 (x15 + 1)) x16 x17)) else (strconv_readFloat.j7 k x0 x2 x3 x4 x5 x6 x7 x8 x9 x10 x12 x13 x14 x15 x16 x17)
end
def strconv_readFloat.f (k : Nat) (a0 : ByteArray) : Option (Int × Int × Bool × Bool × Bool × Int × Bool) := if 0 ≥ (a0.size : Int) then (some (0, 0, false, false, false, 0, false)) else (if 0 < (a0.size : Int) then (if (bt a0 0) = 43 then (strconv_readFloat.j0 k a0 0 0 false false false (0 + 1) false false) else (if (bt a0 0) = 45 then (strconv_readFloat.j0 k a0 0 0 true false false (0 + 1) false false) else (strconv_readFloat.j0 k a0 0 0 false false false 0 false false))) else (none))
set_option maxHeartbeats 8000000 in
set_option maxRecDepth 100000 in
theorem strconv_readFloat.calls (k : Nat) (a0 : ByteArray) (r1 : Int) (r2 : Int) (r3 : Bool) (r4 : Bool) (r5 : Bool) (r6 : Int) (r7 : Bool) (w : World) (h : strconv_readFloat.f k a0 = some (r1, r2, r3, r4, r5, r6, r7)) :
    Calls Tryz.prog 61 #[.string a0] w fun e w' => e = .returned (.tuple #[.int .u64 r1, .int .i64 r2, .bool r3, .bool r4, .bool r5, .int .i64 r6, .bool r7]) ∧ Drawn0 w w' := by
  have H : (if 0 ≥ (a0.size : Int) then (some (0, 0, false, false, false, 0, false)) else (if 0 < (a0.size : Int) then (if (bt a0 0) = 43 then (strconv_readFloat.j0 k a0 0 0 false false false (0 + 1) false false) else (if (bt a0 0) = 45 then (strconv_readFloat.j0 k a0 0 0 true false false (0 + 1) false false) else (strconv_readFloat.j0 k a0 0 0 false false false 0 false false))) else (none))) = some (r1, r2, r3, r4, r5, r6, r7) := h
  clear h
  by_cases c2 : 0 ≥ (a0.size : Int)
  · rw [if_pos c2] at H
    have c2b0 : decide ((a0.size : Int) ≤ 0) = true := decide_eq_true c2
    have c2b1 : decide (a0.size ≤ 0) = true := decide_eq_true (by omega)
    have c2e := empty_true (a := a0) (by omega)
    clear c2
    simp only [Option.some.injEq, Prod.mk.injEq] at H
    obtain ⟨rfl, rfl, rfl, rfl, rfl, rfl, rfl⟩ := H
    go_enter Tryz.func61, Tryz.ntmps61
    go_wp2
    apply wp_scope_straight
    go_wp2
    (try rw [Exit.noGoto_ret])
    refine bodyPost_ret (results_list (rs := [.tmp 2, .tmp 3, .tmp 4, .tmp 5, .tmp 6, .tmp 7, .tmp 8]) rfl (by simp) (.tmp (.tmp (.tmp (.tmp (.tmp (.tmp (.tmp .nil)))))))) rfl ?_
    exact ⟨by first | rfl | (simp; done) | (simp [*]; done), by repeat (first | exact Drawn0.refl _ | apply Drawn0.step)⟩
  · rw [if_neg c2] at H
    have c2b0 : decide ((a0.size : Int) ≤ 0) = false := decide_eq_false c2
    have c2b1 : decide (a0.size ≤ 0) = false := decide_eq_false (by omega)
    have c2e := empty_false (a := a0) (by omega)
    clear c2
    by_cases c3 : 0 < (a0.size : Int)
    · rw [if_pos c3] at H
      have c3b0 : decide (0 < (a0.size : Int)) = true := decide_eq_true c3
      have c3b1 : decide (0 < a0.size) = true := decide_eq_true (by omega)
      clear c3
      have HC5 := Aside0.mk H
      clear H
      have p4 : 0 ≤ (0 : Int) := (by omega)
      have q4 : 0 < a0.size := (by have : (0 : Int) < (a0.size : Int) := of_decide_eq_true (by first | (with_reducible assumption) | assumption); omega)
      have hx4 : ∀ h : 0 < a0.size, ((a0[0]'h).toNat : Int) = bt a0 0 := bt_at a0 0
      clear p4
      have qi4 : (0 < (a0.size : Int)) = True := eq_true (of_decide_eq_true (by first | (with_reducible assumption) | assumption))
      replace q4 := eq_true q4
      go_enter Tryz.func61, Tryz.ntmps61
      go_wp2
      apply wp_scope_straight
      go_upto_block 0 with (fail)
      go_cut [4, 7] (fun v4 v7 wc => ∃ (kq : Nat) (x4_4 : Bool) (x7_4 : Int), v4 = .bool x4_4 ∧ v7 = .int .i64 x7_4 ∧ Aside0 (strconv_readFloat.j0 kq a0 0 0 x4_4 false false x7_4 false false = some (r1, r2, r3, r4, r5, r6, r7)) ∧ Aside0 (kq ≤ k) ∧ Drawn0 w wc)
      case first => as_aux_lemma =>
        have H := HC5.out
        clear HC5
        by_cases c6 : (bt a0 0) = 43
        · rw [if_pos c6] at H
          have c6b0 : ((bt a0 0) == 43) = true := beq_iff_eq.mpr c6
          have c6b1 : ((bt a0 0) != 43) = false := bne_eq_false_iff_eq.mpr c6
          clear c6
          (first | rw [c6b0] | (simp only [i64_w, i32_w]; rw [c6b0]) | skip)
          have H' := Aside0.mk H
          clear H
          go_wp2
          go_meet
          case rel => exact ⟨_, (false), (0 + 1), (by first | rfl | (simp; done) | (simp [*]; done)), (by first | rfl | (simp; done) | (simp [*]; done)), H', ⟨by first | omega | exact Nat.le_refl _⟩, by repeat (first | exact Drawn0.refl _ | apply Drawn0.step)⟩
        · rw [if_neg c6] at H
          have c6b0 : ((bt a0 0) == 43) = false := beq_eq_false_iff_ne.mpr c6
          have c6b1 : ((bt a0 0) != 43) = true := bne_iff_ne.mpr c6
          (first | rw [c6b0] | (simp only [i64_w, i32_w]; rw [c6b0]) | skip)
          by_cases c7 : (bt a0 0) = 45
          · rw [if_pos c7] at H
            have c7b0 : ((bt a0 0) == 45) = true := beq_iff_eq.mpr c7
            have c7b1 : ((bt a0 0) != 45) = false := bne_eq_false_iff_eq.mpr c7
            clear c7
            have H' := Aside0.mk H
            clear H
            go_wp2
            go_meet
            case rel => exact ⟨_, (true), (0 + 1), (by first | rfl | (simp; done) | (simp [*]; done)), (by first | rfl | (simp; done) | (simp [*]; done)), H', ⟨by first | omega | exact Nat.le_refl _⟩, by repeat (first | exact Drawn0.refl _ | apply Drawn0.step)⟩
          · rw [if_neg c7] at H
            have c7b0 : ((bt a0 0) == 45) = false := beq_eq_false_iff_ne.mpr c7
            have c7b1 : ((bt a0 0) != 45) = true := bne_iff_ne.mpr c7
            have H' := Aside0.mk H
            clear H
            go_wp2
            go_meet
            case rel => exact ⟨_, (false), (0), (by first | rfl | (simp; done) | (simp [*]; done)), (by first | rfl | (simp; done) | (simp [*]; done)), H', ⟨by first | omega | exact Nat.le_refl _⟩, by repeat (first | exact Drawn0.refl _ | apply Drawn0.step)⟩
      case rest => as_aux_lemma =>
        clear HC5
        try clear c2
        try clear c2b0
        try clear c2b1
        try clear p2
        try clear c3
        try clear c3b0
        try clear c3b1
        try clear p4
        try clear q4
        try clear hx4
        try clear qi4
        try clear c6
        try clear c6b0
        try clear c6b1
        try clear c7
        try clear c7b0
        try clear c7b1
        try clear p4
        try clear q4
        obtain ⟨kq, x4_4, x7_4, rfl, rfl, HA, HJ4, ⟨mc4, rfl⟩⟩ := hcut
        cases kq with
        | zero => exact absurd HA.out (by simp [strconv_readFloat.j0])
        | succ kj4 =>
          have H := HA.out
          clear HA
          simp only [strconv_readFloat.j0] at H
          have HC8 := Aside0.mk H
          clear H
          go_upto_region 12 with (fail)
          go_cut [54] (fun v54 wc => ∃ (kq : Nat) (x54_7 : Bool), v54 = .bool x54_7 ∧ Aside0 (strconv_readFloat.j1 kq a0 0 0 x4_4 false false x7_4 false false 10 19 101 x54_7 = some (r1, r2, r3, r4, r5, r6, r7)) ∧ Aside0 (kq ≤ kj4) ∧ Drawn0 w wc)
          case first => as_aux_lemma =>
            have H := HC8.out
            clear HC8
            by_cases c9 : (wrap64 (x7_4 + 2)) < (a0.size : Int)
            · rw [if_pos c9] at H
              have c9b0 : decide ((wrap64 (x7_4 + 2)) < (a0.size : Int)) = true := decide_eq_true c9
              clear c9
              (first | rw [c9b0] | (simp only [i64_w, i32_w]; rw [c9b0]) | skip)
              by_cases c10 : 0 ≤ x7_4
              · rw [if_pos c10] at H
                have c10b0 : decide (0 ≤ x7_4) = true := decide_eq_true c10
                clear c10
                by_cases c11 : x7_4 < (a0.size : Int)
                · rw [if_pos c11] at H
                  have c11b0 : decide (x7_4 < (a0.size : Int)) = true := decide_eq_true c11
                  clear c11
                  by_cases c13 : (bt a0 x7_4) = 48
                  · rw [if_pos c13] at H
                    have c13b0 : ((bt a0 x7_4) == 48) = true := beq_iff_eq.mpr c13
                    have c13b1 : ((bt a0 x7_4) != 48) = false := bne_eq_false_iff_eq.mpr c13
                    clear c13
                    obtain ⟨ji14, hji14⟩ : ∃ j_ : Int, (wrap64 (x7_4 + 1)) = j_ := ⟨_, rfl⟩
                    replace H : (if 0 ≤ (ji14) then (if (ji14) < (a0.size : Int) then (strconv_readFloat.j1 kj4 a0 0 0 x4_4 false false x7_4 false false 10 19 101 ((Go.bits .or .u8 (bt a0 (ji14)) 32) == 120)) else (none)) else (none)) = some (r1, r2, r3, r4, r5, r6, r7) := by first | (rw [hji14] at H; exact H) | (simp only [hji14] at H ⊢; exact H)
                    have hji14w : (IntKind.i64.wrap (x7_4 + 1)) = ji14 := (i64_w _).trans hji14
                    by_cases c15 : 0 ≤ (ji14)
                    · rw [if_pos c15] at H
                      have c15b0 : decide (0 ≤ (ji14)) = true := decide_eq_true c15
                      clear c15
                      by_cases c16 : (ji14) < (a0.size : Int)
                      · rw [if_pos c16] at H
                        have c16b0 : decide ((ji14) < (a0.size : Int)) = true := decide_eq_true c16
                        clear c16
                        have H' := Aside0.mk H
                        clear H
                        have p12 : 0 ≤ (x7_4 : Int) := of_decide_eq_true (by first | (with_reducible assumption) | assumption)
                        have q12 : x7_4 < (a0.size : Int) := of_decide_eq_true (by first | (with_reducible assumption) | assumption)
                        have hx12 := bt_at a0 x7_4
                        replace p12 := eq_true p12
                        replace q12 := eq_true q12
                        have p17 : 0 ≤ ((ji14) : Int) := of_decide_eq_true (by first | (with_reducible assumption) | assumption)
                        have q17 : (ji14) < (a0.size : Int) := of_decide_eq_true (by first | (with_reducible assumption) | assumption)
                        have hx17 := bt_at a0 (ji14)
                        replace p17 := eq_true p17
                        replace q17 := eq_true q17
                        go_wp2
                        go_meet
                        case rel => exact ⟨_, (((Go.bits .or .u8 (bt a0 (ji14)) 32) == 120)), (by first | rfl | (simp; done) | (simp only [← hji14] <;> (first | rfl | simp)) | (simp [*]; done)), H', ⟨by have := HJ4.out; first | omega | exact Nat.le_refl _⟩, by repeat (first | exact Drawn0.refl _ | apply Drawn0.step)⟩
                      · rw [if_neg c16] at H
                        exact absurd H (by simp)
                    · rw [if_neg c15] at H
                      exact absurd H (by simp)
                  · rw [if_neg c13] at H
                    have c13b0 : ((bt a0 x7_4) == 48) = false := beq_eq_false_iff_ne.mpr c13
                    have c13b1 : ((bt a0 x7_4) != 48) = true := bne_iff_ne.mpr c13
                    have H' := Aside0.mk H
                    clear H
                    have p12 : 0 ≤ (x7_4 : Int) := of_decide_eq_true (by first | (with_reducible assumption) | assumption)
                    have q12 : x7_4 < (a0.size : Int) := of_decide_eq_true (by first | (with_reducible assumption) | assumption)
                    have hx12 := bt_at a0 x7_4
                    replace p12 := eq_true p12
                    replace q12 := eq_true q12
                    go_wp2
                    go_meet
                    case rel => exact ⟨_, (false), (by first | rfl | (simp; done) | (simp [*]; done)), H', ⟨by have := HJ4.out; first | omega | exact Nat.le_refl _⟩, by repeat (first | exact Drawn0.refl _ | apply Drawn0.step)⟩
                · rw [if_neg c11] at H
                  exact absurd H (by simp)
              · rw [if_neg c10] at H
                exact absurd H (by simp)
            · rw [if_neg c9] at H
              have c9b0 : decide ((wrap64 (x7_4 + 2)) < (a0.size : Int)) = false := decide_eq_false c9
              clear c9
              (first | rw [c9b0] | (simp only [i64_w, i32_w]; rw [c9b0]) | skip)
              have H' := Aside0.mk H
              clear H
              go_wp2
              go_meet
              case rel => exact ⟨_, (false), (by first | rfl | (simp; done) | (simp [*]; done)), H', ⟨by have := HJ4.out; first | omega | exact Nat.le_refl _⟩, by repeat (first | exact Drawn0.refl _ | apply Drawn0.step)⟩
          case rest => as_aux_lemma =>
            clear HC8
            try clear c1
            try clear p1
            try clear q1
            try clear hx1
            try clear c2
            try clear c2b0
            try clear c2b1
            try clear p2
            try clear c3
            try clear c3b0
            try clear c3b1
            try clear c4
            try clear p4
            try clear q4
            try clear hx4
            try clear qi4
            try clear c6
            try clear c6b0
            try clear c6b1
            try clear p6
            try clear c7
            try clear c7b0
            try clear c7b1
            try clear c9
            try clear c9b0
            try clear c10
            try clear c10b0
            try clear c11
            try clear c11b0
            try clear p12
            try clear q12
            try clear hx12
            try clear c13
            try clear c13b0
            try clear c13b1
            try clear c15
            try clear c15b0
            try clear c16
            try clear c16b0
            try clear p17
            try clear q17
            try clear hx17
            try clear p12
            try clear p17
            try clear p2
            try clear p4
            try clear q12
            try clear q17
            try clear q4
            obtain ⟨kq, x54_7, rfl, HA, HJ7, ⟨mc7, rfl⟩⟩ := hcut
            cases kq with
            | zero => exact absurd HA.out (by simp [strconv_readFloat.j1])
            | succ kj7 =>
              have H := HA.out
              clear HA
              simp only [strconv_readFloat.j1] at H
              have HC18 := Aside0.mk H
              clear H
              go_upto_if 54 with (fail)
              go_cut [6, 7, 10, 11, 12] (fun v6 v7 v10 v11 v12 wc => ∃ (kq : Nat) (x6_17 : Bool) (x7_17 : Int) (x10_17 : Int) (x11_17 : Int) (x12_17 : Int), v6 = .bool x6_17 ∧ v7 = .int .i64 x7_17 ∧ v10 = .int .u64 x10_17 ∧ v11 = .int .i64 x11_17 ∧ v12 = .int .u8 x12_17 ∧ Aside0 (strconv_readFloat.j2 kq a0 0 0 x4_4 false x6_17 x7_17 false false x10_17 x11_17 x12_17 = some (r1, r2, r3, r4, r5, r6, r7)) ∧ Aside0 (kq ≤ kj7) ∧ Drawn0 w wc)
              case first => as_aux_lemma =>
                have H := HC18.out
                clear HC18
                by_cases c19 : x54_7 = true
                · subst c19
                  have H1 : (strconv_readFloat.j2 kj7 a0 0 0 x4_4 false true (wrap64 (x7_4 + 2)) false false 16 16 112) = some (r1, r2, r3, r4, r5, r6, r7) := by rw [if_pos rfl] at H; exact H
                  clear H
                  have H := H1
                  clear H1
                  have H' := Aside0.mk H
                  clear H
                  go_wp2
                  go_meet
                  case rel => exact ⟨_, (true), (wrap64 (x7_4 + 2)), (16), (16), (112), (by first | rfl | (simp; done) | (simp [*]; done)), (by first | rfl | (simp; done) | (simp [*]; done)), (by first | rfl | (simp; done) | (simp [*]; done)), (by first | rfl | (simp; done) | (simp [*]; done)), (by first | rfl | (simp; done) | (simp [*]; done)), H', ⟨by have := HJ4.out; have := HJ7.out; first | omega | exact Nat.le_refl _⟩, by repeat (first | exact Drawn0.refl _ | apply Drawn0.step)⟩
                · replace c19 := Bool.eq_false_iff.mpr c19
                  subst c19
                  have H1 : (strconv_readFloat.j2 kj7 a0 0 0 x4_4 false false x7_4 false false 10 19 101) = some (r1, r2, r3, r4, r5, r6, r7) := by rw [if_neg (show ¬ (false = true) by decide)] at H; exact H
                  clear H
                  have H := H1
                  clear H1
                  have H' := Aside0.mk H
                  clear H
                  go_wp2
                  go_meet
                  case rel => exact ⟨_, (false), (x7_4), (10), (19), (101), (by first | rfl | (simp; done) | (simp [*]; done)), (by first | rfl | (simp; done) | (simp [*]; done)), (by first | rfl | (simp; done) | (simp [*]; done)), (by first | rfl | (simp; done) | (simp [*]; done)), (by first | rfl | (simp; done) | (simp [*]; done)), H', ⟨by have := HJ4.out; have := HJ7.out; first | omega | exact Nat.le_refl _⟩, by repeat (first | exact Drawn0.refl _ | apply Drawn0.step)⟩
              case rest => as_aux_lemma =>
                clear HC18
                try clear c1
                try clear p1
                try clear q1
                try clear hx1
                try clear c2
                try clear c2b0
                try clear c2b1
                try clear p2
                try clear c3
                try clear c3b0
                try clear c3b1
                try clear c4
                try clear p4
                try clear q4
                try clear hx4
                try clear qi4
                try clear c6
                try clear c6b0
                try clear c6b1
                try clear p6
                try clear c7
                try clear c7b0
                try clear c7b1
                try clear c9
                try clear c9b0
                try clear c10
                try clear c10b0
                try clear c11
                try clear c11b0
                try clear p12
                try clear q12
                try clear hx12
                try clear c13
                try clear c13b0
                try clear c13b1
                try clear c15
                try clear c15b0
                try clear c16
                try clear c16b0
                try clear p17
                try clear q17
                try clear hx17
                try clear c19
                try clear p1
                try clear p12
                try clear p17
                try clear p2
                try clear p4
                try clear p6
                try clear q1
                try clear q12
                try clear q17
                try clear q4
                obtain ⟨kq, x6_17, x7_17, x10_17, x11_17, x12_17, rfl, rfl, rfl, rfl, rfl, HA, HJ17, ⟨mc17, rfl⟩⟩ := hcut
                cases kq with
                | zero => exact absurd HA.out (by simp [strconv_readFloat.j2])
                | succ kj17 =>
                  have H := HA.out
                  clear HA
                  simp only [strconv_readFloat.j2] at H
                  have HC20 := Aside0.mk H
                  clear H
                  go_wp2
                  go_step3
                  go_upto_block 1 with (fail)
                  go_cut [2, 5, 7, 9, 13, 14, 15, 16, 17] (fun v2 v5 v7 v9 v13 v14 v15 v16 v17 wc => ∃ (kq : Nat) (x2_19 : Int) (x5_19 : Bool) (x7_19 : Int) (x9_19 : Bool) (x13_19 : Bool) (x14_19 : Bool) (x15_19 : Int) (x16_19 : Int) (x17_19 : Int), v2 = .int .u64 x2_19 ∧ v5 = .bool x5_19 ∧ v7 = .int .i64 x7_19 ∧ v9 = .bool x9_19 ∧ v13 = .bool x13_19 ∧ v14 = .bool x14_19 ∧ v15 = .int .i64 x15_19 ∧ v16 = .int .i64 x16_19 ∧ v17 = .int .i64 x17_19 ∧ Aside0 (strconv_readFloat.j7 kq a0 x2_19 0 x4_4 x5_19 x6_17 x7_19 false x9_19 x10_17 x12_17 x13_19 x14_19 x15_19 x16_19 x17_19 = some (r1, r2, r3, r4, r5, r6, r7)) ∧ Aside0 (kq ≤ kj17) ∧ Drawn0 w wc)
                  case first => as_aux_lemma =>
                    have H := HC20.out
                    clear HC20
                    have H' := Aside0.mk H
                    clear H
                    go_wp2
                    go_loopg [2, 5, 7, 9, 13, 14, 15, 16, 17] kj17 (fun kq v2 v5 v7 v9 v13 v14 v15 v16 v17 w' => ∃ (x2_4 : Int) (x5_4 : Bool) (x7_4 : Int) (x9_4 : Bool) (x13_4 : Bool) (x14_4 : Bool) (x15_4 : Int) (x16_4 : Int) (x17_4 : Int), v2 = .int .u64 x2_4 ∧ v5 = .bool x5_4 ∧ v7 = .int .i64 x7_4 ∧ v9 = .bool x9_4 ∧ v13 = .bool x13_4 ∧ v14 = .bool x14_4 ∧ v15 = .int .i64 x15_4 ∧ v16 = .int .i64 x16_4 ∧ v17 = .int .i64 x17_4 ∧ Aside0 (strconv_readFloat.l0 kq a0 x2_4 0 x4_4 x5_4 x6_17 x7_4 false x9_4 x10_17 x11_17 x12_17 x13_4 x14_4 x15_4 x16_4 x17_4 = some (r1, r2, r3, r4, r5, r6, r7)) ∧ Aside0 (kq ≤ kj17) ∧ Drawn0 w w')
                    case atStart => exact ⟨(0), (false), (x7_17), (false), (false), (false), (0), (0), (0), (by first | rfl | (simp; done) | (simp [*]; done)), (by first | rfl | (simp; done) | (simp [*]; done)), (by first | rfl | (simp; done) | (simp [*]; done)), (by first | rfl | (simp; done) | (simp [*]; done)), (by first | rfl | (simp; done) | (simp [*]; done)), (by first | rfl | (simp; done) | (simp [*]; done)), (by first | rfl | (simp; done) | (simp [*]; done)), (by first | rfl | (simp; done) | (simp [*]; done)), (by first | rfl | (simp; done) | (simp [*]; done)), H', ⟨Nat.le_refl _⟩, by repeat (first | exact Drawn0.refl _ | apply Drawn0.step)⟩
                    case round => as_aux_lemma =>
                      clear H'
                      try clear c1
                      try clear p1
                      try clear q1
                      try clear hx1
                      try clear c2
                      try clear c2b0
                      try clear c2b1
                      try clear p2
                      try clear c3
                      try clear c3b0
                      try clear c3b1
                      try clear c4
                      try clear p4
                      try clear q4
                      try clear hx4
                      try clear qi4
                      try clear c6
                      try clear c6b0
                      try clear c6b1
                      try clear p6
                      try clear c7
                      try clear c7b0
                      try clear c7b1
                      try clear c9
                      try clear c9b0
                      try clear c10
                      try clear c10b0
                      try clear c11
                      try clear c11b0
                      try clear p12
                      try clear q12
                      try clear hx12
                      try clear c13
                      try clear c13b0
                      try clear c13b1
                      try clear c15
                      try clear c15b0
                      try clear c16
                      try clear c16b0
                      try clear c17
                      try clear p17
                      try clear q17
                      try clear hx17
                      try clear c19
                      try clear p1
                      try clear p12
                      try clear p17
                      try clear p2
                      try clear p4
                      try clear p6
                      try clear q1
                      try clear q12
                      try clear q17
                      try clear q4
                      obtain ⟨x2_4, x5_4, x7_4, x9_4, x13_4, x14_4, x15_4, x16_4, x17_4, rfl, rfl, rfl, rfl, rfl, rfl, rfl, rfl, rfl, HA, HK4, ⟨m4, rfl⟩⟩ := hrel
                      cases gk with
                      | zero => exact absurd HA.out (by simp [strconv_readFloat.l0])
                      | succ k4 =>
                        have H := HA.out
                        clear HA
                        simp only [strconv_readFloat.l0] at H
                        by_cases c21 : x7_4 < (a0.size : Int)
                        · rw [if_pos c21] at H
                          have c21b0 : decide (x7_4 < (a0.size : Int)) = true := decide_eq_true c21
                          clear c21
                          (first | rw [c21b0] | (simp only [i64_w, i32_w]; rw [c21b0]) | skip)
                          by_cases c22 : 0 ≤ x7_4
                          · rw [if_pos c22] at H
                            have c22b0 : decide (0 ≤ x7_4) = true := decide_eq_true c22
                            clear c22
                            by_cases c24 : (true == ((bt a0 x7_4) == 95)) = true
                            · rw [if_pos c24] at H
                              have c24b0 : (true == ((bt a0 x7_4) == 95)) = true := c24
                              (try (have c24b1 : decide (true = ((bt a0 x7_4) == 95)) = true := by simpa using c24))
                              (try (have c24b2 : (true == ((bt a0 x7_4) == 95)) = true := by simpa using c24))
                              clear c24
                              have H' := Aside0.mk H
                              clear H
                              have p23 : 0 ≤ (x7_4 : Int) := of_decide_eq_true (by first | (with_reducible assumption) | assumption)
                              have q23 : x7_4 < (a0.size : Int) := of_decide_eq_true (by first | (with_reducible assumption) | assumption)
                              have hx23 := bt_at a0 x7_4
                              replace p23 := eq_true p23
                              replace q23 := eq_true q23
                              go_wp2
                              go_roundg k4
                              case measure => have := HJ4.out; have := HJ7.out; have := HJ17.out; have := HK4.out; omega
                              case rel => exact ⟨(x2_4), (x5_4), (wrap64 (x7_4 + 1)), (true), (x13_4), (x14_4), (x15_4), (x16_4), (x17_4), (by first | rfl | (simp; done) | (simp [*]; done)), (by first | rfl | (simp; done) | (simp [*]; done)), (by first | rfl | (simp; done) | (simp [*]; done)), (by first | rfl | (simp; done) | (simp [*]; done)), (by first | rfl | (simp; done) | (simp [*]; done)), (by first | rfl | (simp; done) | (simp [*]; done)), (by first | rfl | (simp; done) | (simp [*]; done)), (by first | rfl | (simp; done) | (simp [*]; done)), (by first | rfl | (simp; done) | (simp [*]; done)), H', ⟨by have := HJ4.out; have := HJ7.out; have := HJ17.out; have := HK4.out; omega⟩, by repeat (first | exact Drawn0.refl _ | apply Drawn0.step)⟩
                            · rw [if_neg c24] at H
                              have c24b0 : (true == ((bt a0 x7_4) == 95)) = false := by simpa using c24
                              (try (have c24b1 : decide (true = ((bt a0 x7_4) == 95)) = false := by simpa using c24))
                              (try (have c24b2 : (true == ((bt a0 x7_4) == 95)) = false := by simpa using c24))
                              (try (have c24b3 : ¬ (true = ((bt a0 x7_4) == 95)) := by simpa using c24))
                              clear c24
                              by_cases c25 : (true == ((bt a0 x7_4) == 46)) = true
                              · rw [if_pos c25] at H
                                have c25b0 : (true == ((bt a0 x7_4) == 46)) = true := c25
                                (try (have c25b1 : decide (true = ((bt a0 x7_4) == 46)) = true := by simpa using c25))
                                (try (have c25b2 : (true == ((bt a0 x7_4) == 46)) = true := by simpa using c25))
                                clear c25
                                by_cases c26 : x13_4 = true
                                · subst c26
                                  have H1 : (strconv_readFloat.j7 k4 a0 x2_4 0 x4_4 x5_4 x6_17 x7_4 false x9_4 x10_17 x12_17 true x14_4 x15_4 x16_4 x17_4) = some (r1, r2, r3, r4, r5, r6, r7) := by rw [if_pos rfl] at H; exact H
                                  clear H
                                  have H := H1
                                  clear H1
                                  have H' := Aside0.mk H
                                  clear H
                                  have p23 : 0 ≤ (x7_4 : Int) := of_decide_eq_true (by first | (with_reducible assumption) | assumption)
                                  have q23 : x7_4 < (a0.size : Int) := of_decide_eq_true (by first | (with_reducible assumption) | assumption)
                                  have hx23 := bt_at a0 x7_4
                                  replace p23 := eq_true p23
                                  replace q23 := eq_true q23
                                  go_wp2
                                  go_meet
                                  case rel => exact ⟨_, (x2_4), (x5_4), (x7_4), (x9_4), (true), (x14_4), (x15_4), (x16_4), (x17_4), (by first | rfl | (simp; done) | (simp [*]; done)), (by first | rfl | (simp; done) | (simp [*]; done)), (by first | rfl | (simp; done) | (simp [*]; done)), (by first | rfl | (simp; done) | (simp [*]; done)), (by first | rfl | (simp; done) | (simp [*]; done)), (by first | rfl | (simp; done) | (simp [*]; done)), (by first | rfl | (simp; done) | (simp [*]; done)), (by first | rfl | (simp; done) | (simp [*]; done)), (by first | rfl | (simp; done) | (simp [*]; done)), H', ⟨by have := HJ4.out; have := HJ7.out; have := HJ17.out; have := HK4.out; first | omega | exact Nat.le_refl _⟩, by repeat (first | exact Drawn0.refl _ | apply Drawn0.step)⟩
                                · replace c26 := Bool.eq_false_iff.mpr c26
                                  subst c26
                                  have H1 : (strconv_readFloat.l0 k4 a0 x2_4 0 x4_4 x5_4 x6_17 (wrap64 (x7_4 + 1)) false x9_4 x10_17 x11_17 x12_17 true x14_4 x15_4 x16_4 x15_4) = some (r1, r2, r3, r4, r5, r6, r7) := by rw [if_neg (show ¬ (false = true) by decide)] at H; exact H
                                  clear H
                                  have H := H1
                                  clear H1
                                  have H' := Aside0.mk H
                                  clear H
                                  have p23 : 0 ≤ (x7_4 : Int) := of_decide_eq_true (by first | (with_reducible assumption) | assumption)
                                  have q23 : x7_4 < (a0.size : Int) := of_decide_eq_true (by first | (with_reducible assumption) | assumption)
                                  have hx23 := bt_at a0 x7_4
                                  replace p23 := eq_true p23
                                  replace q23 := eq_true q23
                                  go_wp2
                                  go_roundg k4
                                  case measure => have := HJ4.out; have := HJ7.out; have := HJ17.out; have := HK4.out; omega
                                  case rel => exact ⟨(x2_4), (x5_4), (wrap64 (x7_4 + 1)), (x9_4), (true), (x14_4), (x15_4), (x16_4), (x15_4), (by first | rfl | (simp; done) | (simp [*]; done)), (by first | rfl | (simp; done) | (simp [*]; done)), (by first | rfl | (simp; done) | (simp [*]; done)), (by first | rfl | (simp; done) | (simp [*]; done)), (by first | rfl | (simp; done) | (simp [*]; done)), (by first | rfl | (simp; done) | (simp [*]; done)), (by first | rfl | (simp; done) | (simp [*]; done)), (by first | rfl | (simp; done) | (simp [*]; done)), (by first | rfl | (simp; done) | (simp [*]; done)), H', ⟨by have := HJ4.out; have := HJ7.out; have := HJ17.out; have := HK4.out; omega⟩, by repeat (first | exact Drawn0.refl _ | apply Drawn0.step)⟩
                              · rw [if_neg c25] at H
                                have c25b0 : (true == ((bt a0 x7_4) == 46)) = false := by simpa using c25
                                (try (have c25b1 : decide (true = ((bt a0 x7_4) == 46)) = false := by simpa using c25))
                                (try (have c25b2 : (true == ((bt a0 x7_4) == 46)) = false := by simpa using c25))
                                (try (have c25b3 : ¬ (true = ((bt a0 x7_4) == 46)) := by simpa using c25))
                                clear c25
                                have HC27 := Aside0.mk H
                                clear H
                                have p23 : 0 ≤ (x7_4 : Int) := of_decide_eq_true (by first | (with_reducible assumption) | assumption)
                                have q23 : x7_4 < (a0.size : Int) := of_decide_eq_true (by first | (with_reducible assumption) | assumption)
                                have hx23 := bt_at a0 x7_4
                                replace p23 := eq_true p23
                                replace q23 := eq_true q23
                                go_upto_region 32 with (fail)
                                go_cut [76] (fun v76 wc => ∃ (kq : Nat) (x76_26 : Bool), v76 = .bool x76_26 ∧ Aside0 (strconv_readFloat.j4 kq a0 x2_4 0 x4_4 x5_4 x6_17 x7_4 false x9_4 x10_17 x11_17 x12_17 x13_4 x14_4 x15_4 x16_4 x17_4 (bt a0 x7_4) x76_26 = some (r1, r2, r3, r4, r5, r6, r7)) ∧ Aside0 (kq ≤ k4) ∧ Drawn0 w wc)
                                case first => as_aux_lemma =>
                                  have H := HC27.out
                                  clear HC27
                                  by_cases c28 : 48 ≤ (bt a0 x7_4)
                                  · rw [if_pos c28] at H
                                    have c28b0 : decide (48 ≤ (bt a0 x7_4)) = true := decide_eq_true c28
                                    clear c28
                                    (first | rw [c28b0] | (simp only [i64_w, i32_w]; rw [c28b0]) | skip)
                                    have H' := Aside0.mk H
                                    clear H
                                    go_wp2
                                    go_meet
                                    case rel => exact ⟨_, ((true == (decide ((bt a0 x7_4) ≤ 57)))), (by first | rfl | (simp; done) | (simp [*]; done)), H', ⟨by have := HJ4.out; have := HJ7.out; have := HJ17.out; have := HK4.out; first | omega | exact Nat.le_refl _⟩, by repeat (first | exact Drawn0.refl _ | apply Drawn0.step)⟩
                                  · rw [if_neg c28] at H
                                    have c28b0 : decide (48 ≤ (bt a0 x7_4)) = false := decide_eq_false c28
                                    clear c28
                                    (first | rw [c28b0] | (simp only [i64_w, i32_w]; rw [c28b0]) | skip)
                                    have H' := Aside0.mk H
                                    clear H
                                    go_wp2
                                    go_meet
                                    case rel => exact ⟨_, ((true == false)), (by first | rfl | (simp; done) | (simp [*]; done)), H', ⟨by have := HJ4.out; have := HJ7.out; have := HJ17.out; have := HK4.out; first | omega | exact Nat.le_refl _⟩, by repeat (first | exact Drawn0.refl _ | apply Drawn0.step)⟩
                                case rest => as_aux_lemma =>
                                  clear HC27
                                  try clear c1
                                  try clear p1
                                  try clear q1
                                  try clear hx1
                                  try clear c2
                                  try clear c2b0
                                  try clear c2b1
                                  try clear p2
                                  try clear q2
                                  try clear hx2
                                  try clear c3
                                  try clear c3b0
                                  try clear c3b1
                                  try clear c4
                                  try clear p4
                                  try clear q4
                                  try clear hx4
                                  try clear qi4
                                  try clear c6
                                  try clear c6b0
                                  try clear c6b1
                                  try clear p6
                                  try clear c7
                                  try clear c7b0
                                  try clear c7b1
                                  try clear c9
                                  try clear c9b0
                                  try clear c10
                                  try clear c10b0
                                  try clear c11
                                  try clear c11b0
                                  try clear p12
                                  try clear q12
                                  try clear hx12
                                  try clear c13
                                  try clear c13b0
                                  try clear c13b1
                                  try clear c15
                                  try clear c15b0
                                  try clear c16
                                  try clear c16b0
                                  try clear c17
                                  try clear p17
                                  try clear q17
                                  try clear hx17
                                  try clear c19
                                  try clear c21
                                  try clear c21b0
                                  try clear c22
                                  try clear c22b0
                                  try clear p23
                                  try clear q23
                                  try clear hx23
                                  try clear c24
                                  try clear c24b0
                                  try clear c24b1
                                  try clear c24b2
                                  try clear c25
                                  try clear c25b0
                                  try clear c25b1
                                  try clear c25b2
                                  try clear c26
                                  try clear c28
                                  try clear c28b0
                                  try clear p1
                                  try clear p12
                                  try clear p17
                                  try clear p2
                                  try clear p23
                                  try clear p4
                                  try clear p6
                                  try clear q1
                                  try clear q12
                                  try clear q17
                                  try clear q23
                                  try clear q4
                                  obtain ⟨kq, x76_26, rfl, HA, HJ26, ⟨mc26, rfl⟩⟩ := hcut
                                  cases kq with
                                  | zero => exact absurd HA.out (by simp [strconv_readFloat.j4])
                                  | succ kj26 =>
                                    have H := HA.out
                                    clear HA
                                    simp only [strconv_readFloat.j4] at H
                                    by_cases c29 : x76_26 = true
                                    · subst c29
                                      have H1 : (if (bt a0 x7_4) = 48 then (strconv_readFloat.j5 kj26 a0 x2_4 0 x4_4 x5_4 x6_17 x7_4 false x9_4 x10_17 x11_17 x12_17 x13_4 true x15_4 x16_4 x17_4 (bt a0 x7_4) (x15_4 == 0)) else (strconv_readFloat.j5 kj26 a0 x2_4 0 x4_4 x5_4 x6_17 x7_4 false x9_4 x10_17 x11_17 x12_17 x13_4 true x15_4 x16_4 x17_4 (bt a0 x7_4) false)) = some (r1, r2, r3, r4, r5, r6, r7) := by rw [if_pos rfl] at H; exact H
                                      clear H
                                      have H := H1
                                      clear H1
                                      have HC30 := Aside0.mk H
                                      clear H
                                      go_upto_region 34 with (fail)
                                      go_cut [89] (fun v89 wc => ∃ (kq : Nat) (x89_29 : Bool), v89 = .bool x89_29 ∧ Aside0 (strconv_readFloat.j5 kq a0 x2_4 0 x4_4 x5_4 x6_17 x7_4 false x9_4 x10_17 x11_17 x12_17 x13_4 true x15_4 x16_4 x17_4 (bt a0 x7_4) x89_29 = some (r1, r2, r3, r4, r5, r6, r7)) ∧ Aside0 (kq ≤ kj26) ∧ Drawn0 w wc)
                                      case first => as_aux_lemma =>
                                        have H := HC30.out
                                        clear HC30
                                        by_cases c31 : (bt a0 x7_4) = 48
                                        · rw [if_pos c31] at H
                                          have c31b0 : ((bt a0 x7_4) == 48) = true := beq_iff_eq.mpr c31
                                          have c31b1 : ((bt a0 x7_4) != 48) = false := bne_eq_false_iff_eq.mpr c31
                                          clear c31
                                          (first | rw [c31b0] | (simp only [i64_w, i32_w]; rw [c31b0]) | skip)
                                          have H' := Aside0.mk H
                                          clear H
                                          go_wp2
                                          go_meet
                                          case rel => exact ⟨_, ((x15_4 == 0)), (by first | rfl | (simp; done) | (simp [*]; done)), H', ⟨by have := HJ4.out; have := HJ7.out; have := HJ17.out; have := HK4.out; have := HJ26.out; first | omega | exact Nat.le_refl _⟩, by repeat (first | exact Drawn0.refl _ | apply Drawn0.step)⟩
                                        · rw [if_neg c31] at H
                                          have c31b0 : ((bt a0 x7_4) == 48) = false := beq_eq_false_iff_ne.mpr c31
                                          have c31b1 : ((bt a0 x7_4) != 48) = true := bne_iff_ne.mpr c31
                                          (first | rw [c31b0] | (simp only [i64_w, i32_w]; rw [c31b0]) | skip)
                                          have H' := Aside0.mk H
                                          clear H
                                          go_wp2
                                          go_meet
                                          case rel => exact ⟨_, (false), (by first | rfl | (simp; done) | (simp [*]; done)), H', ⟨by have := HJ4.out; have := HJ7.out; have := HJ17.out; have := HK4.out; have := HJ26.out; first | omega | exact Nat.le_refl _⟩, by repeat (first | exact Drawn0.refl _ | apply Drawn0.step)⟩
                                      case rest => as_aux_lemma =>
                                        clear HC30
                                        try clear c1
                                        try clear p1
                                        try clear q1
                                        try clear hx1
                                        try clear c2
                                        try clear c2b0
                                        try clear c2b1
                                        try clear p2
                                        try clear q2
                                        try clear hx2
                                        try clear c3
                                        try clear c3b0
                                        try clear c3b1
                                        try clear c4
                                        try clear p4
                                        try clear q4
                                        try clear hx4
                                        try clear qi4
                                        try clear c6
                                        try clear c6b0
                                        try clear c6b1
                                        try clear p6
                                        try clear c7
                                        try clear c7b0
                                        try clear c7b1
                                        try clear c9
                                        try clear c9b0
                                        try clear c10
                                        try clear c10b0
                                        try clear c11
                                        try clear c11b0
                                        try clear p12
                                        try clear q12
                                        try clear hx12
                                        try clear c13
                                        try clear c13b0
                                        try clear c13b1
                                        try clear c15
                                        try clear c15b0
                                        try clear c16
                                        try clear c16b0
                                        try clear c17
                                        try clear p17
                                        try clear q17
                                        try clear hx17
                                        try clear c19
                                        try clear c21
                                        try clear c21b0
                                        try clear c22
                                        try clear c22b0
                                        try clear p23
                                        try clear q23
                                        try clear hx23
                                        try clear c24
                                        try clear c24b0
                                        try clear c24b1
                                        try clear c24b2
                                        try clear c25
                                        try clear c25b0
                                        try clear c25b1
                                        try clear c25b2
                                        try clear c26
                                        try clear c28
                                        try clear c28b0
                                        try clear c29
                                        try clear c31
                                        try clear c31b0
                                        try clear c31b1
                                        try clear p1
                                        try clear p12
                                        try clear p17
                                        try clear p2
                                        try clear p23
                                        try clear p4
                                        try clear p6
                                        try clear q1
                                        try clear q12
                                        try clear q17
                                        try clear q2
                                        try clear q23
                                        try clear q4
                                        obtain ⟨kq, x89_29, rfl, HA, HJ29, ⟨mc29, rfl⟩⟩ := hcut
                                        cases kq with
                                        | zero => exact absurd HA.out (by simp [strconv_readFloat.j5])
                                        | succ kj29 =>
                                          have H := HA.out
                                          clear HA
                                          simp only [strconv_readFloat.j5] at H
                                          by_cases c32 : x89_29 = true
                                          · subst c32
                                            have H1 : (strconv_readFloat.l0 kj29 a0 x2_4 0 x4_4 x5_4 x6_17 (wrap64 (x7_4 + 1)) false x9_4 x10_17 x11_17 x12_17 x13_4 true x15_4 x16_4 (wrap64 (x17_4 - 1))) = some (r1, r2, r3, r4, r5, r6, r7) := by rw [if_pos rfl] at H; exact H
                                            clear H
                                            have H := H1
                                            clear H1
                                            have H' := Aside0.mk H
                                            clear H
                                            go_wp2
                                            go_roundg kj29
                                            case measure => have := HJ4.out; have := HJ7.out; have := HJ17.out; have := HK4.out; have := HJ26.out; have := HJ29.out; omega
                                            case rel => exact ⟨(x2_4), (x5_4), (wrap64 (x7_4 + 1)), (x9_4), (x13_4), (true), (x15_4), (x16_4), (wrap64 (x17_4 - 1)), (by first | rfl | (simp; done) | (simp [*]; done)), (by first | rfl | (simp; done) | (simp [*]; done)), (by first | rfl | (simp; done) | (simp [*]; done)), (by first | rfl | (simp; done) | (simp [*]; done)), (by first | rfl | (simp; done) | (simp [*]; done)), (by first | rfl | (simp; done) | (simp [*]; done)), (by first | rfl | (simp; done) | (simp [*]; done)), (by first | rfl | (simp; done) | (simp [*]; done)), (by first | rfl | (simp; done) | (simp [*]; done)), H', ⟨by have := HJ4.out; have := HJ7.out; have := HJ17.out; have := HK4.out; have := HJ26.out; have := HJ29.out; omega⟩, by repeat (first | exact Drawn0.refl _ | apply Drawn0.step)⟩
                                          · replace c32 := Bool.eq_false_iff.mpr c32
                                            subst c32
                                            have H1 : (if x16_4 < x11_17 then (strconv_readFloat.l0 kj29 a0 (IntKind.u64.wrap ((IntKind.u64.wrap (x2_4 * x10_17)) + (((bt a0 x7_4) - 48) % 256))) 0 x4_4 x5_4 x6_17 (wrap64 (x7_4 + 1)) false x9_4 x10_17 x11_17 x12_17 x13_4 true (wrap64 (x15_4 + 1)) (wrap64 (x16_4 + 1)) x17_4) else (if (bt a0 x7_4) = 48 then (strconv_readFloat.l0 kj29 a0 x2_4 0 x4_4 x5_4 x6_17 (wrap64 (x7_4 + 1)) false x9_4 x10_17 x11_17 x12_17 x13_4 true (wrap64 (x15_4 + 1)) x16_4 x17_4) else (strconv_readFloat.l0 kj29 a0 x2_4 0 x4_4 true x6_17 (wrap64 (x7_4 + 1)) false x9_4 x10_17 x11_17 x12_17 x13_4 true (wrap64 (x15_4 + 1)) x16_4 x17_4))) = some (r1, r2, r3, r4, r5, r6, r7) := by rw [if_neg (show ¬ (false = true) by decide)] at H; exact H
                                            clear H
                                            have H := H1
                                            clear H1
                                            by_cases c33 : x16_4 < x11_17
                                            · rw [if_pos c33] at H
                                              have c33b0 : decide (x16_4 < x11_17) = true := decide_eq_true c33
                                              clear c33
                                              have H' := Aside0.mk H
                                              clear H
                                              go_wp2
                                              go_roundg kj29
                                              case measure => have := HJ4.out; have := HJ7.out; have := HJ17.out; have := HK4.out; have := HJ26.out; have := HJ29.out; omega
                                              case rel => exact ⟨(IntKind.u64.wrap ((IntKind.u64.wrap (x2_4 * x10_17)) + (((bt a0 x7_4) - 48) % 256))), (x5_4), (wrap64 (x7_4 + 1)), (x9_4), (x13_4), (true), (wrap64 (x15_4 + 1)), (wrap64 (x16_4 + 1)), (x17_4), (by first | rfl | (simp; done) | (simp [*]; done)), (by first | rfl | (simp; done) | (simp [*]; done)), (by first | rfl | (simp; done) | (simp [*]; done)), (by first | rfl | (simp; done) | (simp [*]; done)), (by first | rfl | (simp; done) | (simp [*]; done)), (by first | rfl | (simp; done) | (simp [*]; done)), (by first | rfl | (simp; done) | (simp [*]; done)), (by first | rfl | (simp; done) | (simp [*]; done)), (by first | rfl | (simp; done) | (simp [*]; done)), H', ⟨by have := HJ4.out; have := HJ7.out; have := HJ17.out; have := HK4.out; have := HJ26.out; have := HJ29.out; omega⟩, by repeat (first | exact Drawn0.refl _ | apply Drawn0.step)⟩
                                            · rw [if_neg c33] at H
                                              have c33b0 : decide (x16_4 < x11_17) = false := decide_eq_false c33
                                              clear c33
                                              by_cases c34 : (bt a0 x7_4) = 48
                                              · rw [if_pos c34] at H
                                                have c34b0 : ((bt a0 x7_4) == 48) = true := beq_iff_eq.mpr c34
                                                have c34b1 : ((bt a0 x7_4) != 48) = false := bne_eq_false_iff_eq.mpr c34
                                                clear c34
                                                have H' := Aside0.mk H
                                                clear H
                                                go_wp2
                                                go_roundg kj29
                                                case measure => have := HJ4.out; have := HJ7.out; have := HJ17.out; have := HK4.out; have := HJ26.out; have := HJ29.out; omega
                                                case rel => exact ⟨(x2_4), (x5_4), (wrap64 (x7_4 + 1)), (x9_4), (x13_4), (true), (wrap64 (x15_4 + 1)), (x16_4), (x17_4), (by first | rfl | (simp; done) | (simp [*]; done)), (by first | rfl | (simp; done) | (simp [*]; done)), (by first | rfl | (simp; done) | (simp [*]; done)), (by first | rfl | (simp; done) | (simp [*]; done)), (by first | rfl | (simp; done) | (simp [*]; done)), (by first | rfl | (simp; done) | (simp [*]; done)), (by first | rfl | (simp; done) | (simp [*]; done)), (by first | rfl | (simp; done) | (simp [*]; done)), (by first | rfl | (simp; done) | (simp [*]; done)), H', ⟨by have := HJ4.out; have := HJ7.out; have := HJ17.out; have := HK4.out; have := HJ26.out; have := HJ29.out; omega⟩, by repeat (first | exact Drawn0.refl _ | apply Drawn0.step)⟩
                                              · rw [if_neg c34] at H
                                                have c34b0 : ((bt a0 x7_4) == 48) = false := beq_eq_false_iff_ne.mpr c34
                                                have c34b1 : ((bt a0 x7_4) != 48) = true := bne_iff_ne.mpr c34
                                                have H' := Aside0.mk H
                                                clear H
                                                go_wp2
                                                go_roundg kj29
                                                case measure => have := HJ4.out; have := HJ7.out; have := HJ17.out; have := HK4.out; have := HJ26.out; have := HJ29.out; omega
                                                case rel => exact ⟨(x2_4), (true), (wrap64 (x7_4 + 1)), (x9_4), (x13_4), (true), (wrap64 (x15_4 + 1)), (x16_4), (x17_4), (by first | rfl | (simp; done) | (simp [*]; done)), (by first | rfl | (simp; done) | (simp [*]; done)), (by first | rfl | (simp; done) | (simp [*]; done)), (by first | rfl | (simp; done) | (simp [*]; done)), (by first | rfl | (simp; done) | (simp [*]; done)), (by first | rfl | (simp; done) | (simp [*]; done)), (by first | rfl | (simp; done) | (simp [*]; done)), (by first | rfl | (simp; done) | (simp [*]; done)), (by first | rfl | (simp; done) | (simp [*]; done)), H', ⟨by have := HJ4.out; have := HJ7.out; have := HJ17.out; have := HK4.out; have := HJ26.out; have := HJ29.out; omega⟩, by repeat (first | exact Drawn0.refl _ | apply Drawn0.step)⟩
                                    · replace c29 := Bool.eq_false_iff.mpr c29
                                      subst c29
                                      have H1 : (if x10_17 = 16 then (if 97 ≤ (Go.bits .or .u8 (bt a0 x7_4) 32) then (strconv_readFloat.j6 kj26 a0 x2_4 0 x4_4 x5_4 x6_17 x7_4 false x9_4 x10_17 x11_17 x12_17 x13_4 x14_4 x15_4 x16_4 x17_4 (bt a0 x7_4) (true == (decide ((Go.bits .or .u8 (bt a0 x7_4) 32) ≤ 102)))) else (strconv_readFloat.j6 kj26 a0 x2_4 0 x4_4 x5_4 x6_17 x7_4 false x9_4 x10_17 x11_17 x12_17 x13_4 x14_4 x15_4 x16_4 x17_4 (bt a0 x7_4) (true == false))) else (strconv_readFloat.j6 kj26 a0 x2_4 0 x4_4 x5_4 x6_17 x7_4 false x9_4 x10_17 x11_17 x12_17 x13_4 x14_4 x15_4 x16_4 x17_4 (bt a0 x7_4) (true == false))) = some (r1, r2, r3, r4, r5, r6, r7) := by rw [if_neg (show ¬ (false = true) by decide)] at H; exact H
                                      clear H
                                      have H := H1
                                      clear H1
                                      have HC35 := Aside0.mk H
                                      clear H
                                      go_upto_region 43 with (fail)
                                      go_cut [109] (fun v109 wc => ∃ (kq : Nat) (x109_34 : Bool), v109 = .bool x109_34 ∧ Aside0 (strconv_readFloat.j6 kq a0 x2_4 0 x4_4 x5_4 x6_17 x7_4 false x9_4 x10_17 x11_17 x12_17 x13_4 x14_4 x15_4 x16_4 x17_4 (bt a0 x7_4) x109_34 = some (r1, r2, r3, r4, r5, r6, r7)) ∧ Aside0 (kq ≤ kj26) ∧ Drawn0 w wc)
                                      case first => as_aux_lemma =>
                                        have H := HC35.out
                                        clear HC35
                                        by_cases c36 : x10_17 = 16
                                        · rw [if_pos c36] at H
                                          have c36b0 : (x10_17 == 16) = true := beq_iff_eq.mpr c36
                                          have c36b1 : (x10_17 != 16) = false := bne_eq_false_iff_eq.mpr c36
                                          clear c36
                                          (first | rw [c36b0] | (simp only [i64_w, i32_w]; rw [c36b0]) | skip)
                                          by_cases c37 : 97 ≤ (Go.bits .or .u8 (bt a0 x7_4) 32)
                                          · rw [if_pos c37] at H
                                            have c37b0 : decide (97 ≤ (Go.bits .or .u8 (bt a0 x7_4) 32)) = true := decide_eq_true c37
                                            clear c37
                                            have H' := Aside0.mk H
                                            clear H
                                            go_wp2
                                            go_meet
                                            case rel => exact ⟨_, ((true == (decide ((Go.bits .or .u8 (bt a0 x7_4) 32) ≤ 102)))), (by first | rfl | (simp; done) | (simp [*]; done)), H', ⟨by have := HJ4.out; have := HJ7.out; have := HJ17.out; have := HK4.out; have := HJ26.out; first | omega | exact Nat.le_refl _⟩, by repeat (first | exact Drawn0.refl _ | apply Drawn0.step)⟩
                                          · rw [if_neg c37] at H
                                            have c37b0 : decide (97 ≤ (Go.bits .or .u8 (bt a0 x7_4) 32)) = false := decide_eq_false c37
                                            clear c37
                                            have H' := Aside0.mk H
                                            clear H
                                            go_wp2
                                            go_meet
                                            case rel => exact ⟨_, ((true == false)), (by first | rfl | (simp; done) | (simp [*]; done)), H', ⟨by have := HJ4.out; have := HJ7.out; have := HJ17.out; have := HK4.out; have := HJ26.out; first | omega | exact Nat.le_refl _⟩, by repeat (first | exact Drawn0.refl _ | apply Drawn0.step)⟩
                                        · rw [if_neg c36] at H
                                          have c36b0 : (x10_17 == 16) = false := beq_eq_false_iff_ne.mpr c36
                                          have c36b1 : (x10_17 != 16) = true := bne_iff_ne.mpr c36
                                          (first | rw [c36b0] | (simp only [i64_w, i32_w]; rw [c36b0]) | skip)
                                          have H' := Aside0.mk H
                                          clear H
                                          go_wp2
                                          go_meet
                                          case rel => exact ⟨_, ((true == false)), (by first | rfl | (simp; done) | (simp [*]; done)), H', ⟨by have := HJ4.out; have := HJ7.out; have := HJ17.out; have := HK4.out; have := HJ26.out; first | omega | exact Nat.le_refl _⟩, by repeat (first | exact Drawn0.refl _ | apply Drawn0.step)⟩
                                      case rest => as_aux_lemma =>
                                        clear HC35
                                        try clear c1
                                        try clear p1
                                        try clear q1
                                        try clear hx1
                                        try clear c2
                                        try clear c2b0
                                        try clear c2b1
                                        try clear p2
                                        try clear q2
                                        try clear hx2
                                        try clear c3
                                        try clear c3b0
                                        try clear c3b1
                                        try clear c4
                                        try clear p4
                                        try clear q4
                                        try clear hx4
                                        try clear qi4
                                        try clear c6
                                        try clear c6b0
                                        try clear c6b1
                                        try clear p6
                                        try clear c7
                                        try clear c7b0
                                        try clear c7b1
                                        try clear c9
                                        try clear c9b0
                                        try clear c10
                                        try clear c10b0
                                        try clear c11
                                        try clear c11b0
                                        try clear p12
                                        try clear q12
                                        try clear hx12
                                        try clear c13
                                        try clear c13b0
                                        try clear c13b1
                                        try clear c15
                                        try clear c15b0
                                        try clear c16
                                        try clear c16b0
                                        try clear c17
                                        try clear p17
                                        try clear q17
                                        try clear hx17
                                        try clear c19
                                        try clear c21
                                        try clear c21b0
                                        try clear c22
                                        try clear c22b0
                                        try clear p23
                                        try clear q23
                                        try clear hx23
                                        try clear c24
                                        try clear c24b0
                                        try clear c24b1
                                        try clear c24b2
                                        try clear c25
                                        try clear c25b0
                                        try clear c25b1
                                        try clear c25b2
                                        try clear c26
                                        try clear c28
                                        try clear c28b0
                                        try clear c29
                                        try clear c31
                                        try clear c31b0
                                        try clear c31b1
                                        try clear c32
                                        try clear c33
                                        try clear c33b0
                                        try clear c34
                                        try clear c34b0
                                        try clear c34b1
                                        try clear c36
                                        try clear c36b0
                                        try clear c36b1
                                        try clear c37
                                        try clear c37b0
                                        try clear p1
                                        try clear p12
                                        try clear p17
                                        try clear p2
                                        try clear p23
                                        try clear p4
                                        try clear p6
                                        try clear q1
                                        try clear q12
                                        try clear q17
                                        try clear q2
                                        try clear q23
                                        try clear q4
                                        obtain ⟨kq, x109_34, rfl, HA, HJ34, ⟨mc34, rfl⟩⟩ := hcut
                                        cases kq with
                                        | zero => exact absurd HA.out (by simp [strconv_readFloat.j6])
                                        | succ kj34 =>
                                          have H := HA.out
                                          clear HA
                                          simp only [strconv_readFloat.j6] at H
                                          by_cases c38 : x109_34 = true
                                          · subst c38
                                            have H1 : (if x16_4 < x11_17 then (strconv_readFloat.l0 kj34 a0 (IntKind.u64.wrap ((IntKind.u64.wrap (x2_4 * 16)) + (((((Go.bits .or .u8 (bt a0 x7_4) 32) - 97) % 256) + 10) % 256))) 0 x4_4 x5_4 x6_17 (wrap64 (x7_4 + 1)) false x9_4 x10_17 x11_17 x12_17 x13_4 true (wrap64 (x15_4 + 1)) (wrap64 (x16_4 + 1)) x17_4) else (strconv_readFloat.l0 kj34 a0 x2_4 0 x4_4 true x6_17 (wrap64 (x7_4 + 1)) false x9_4 x10_17 x11_17 x12_17 x13_4 true (wrap64 (x15_4 + 1)) x16_4 x17_4)) = some (r1, r2, r3, r4, r5, r6, r7) := by rw [if_pos rfl] at H; exact H
                                            clear H
                                            have H := H1
                                            clear H1
                                            by_cases c39 : x16_4 < x11_17
                                            · rw [if_pos c39] at H
                                              have c39b0 : decide (x16_4 < x11_17) = true := decide_eq_true c39
                                              clear c39
                                              have H' := Aside0.mk H
                                              clear H
                                              go_wp2
                                              go_roundg kj34
                                              case measure => have := HJ4.out; have := HJ7.out; have := HJ17.out; have := HK4.out; have := HJ26.out; have := HJ34.out; omega
                                              case rel => exact ⟨(IntKind.u64.wrap ((IntKind.u64.wrap (x2_4 * 16)) + (((((Go.bits .or .u8 (bt a0 x7_4) 32) - 97) % 256) + 10) % 256))), (x5_4), (wrap64 (x7_4 + 1)), (x9_4), (x13_4), (true), (wrap64 (x15_4 + 1)), (wrap64 (x16_4 + 1)), (x17_4), (by first | rfl | (simp; done) | (simp [*]; done)), (by first | rfl | (simp; done) | (simp [*]; done)), (by first | rfl | (simp; done) | (simp [*]; done)), (by first | rfl | (simp; done) | (simp [*]; done)), (by first | rfl | (simp; done) | (simp [*]; done)), (by first | rfl | (simp; done) | (simp [*]; done)), (by first | rfl | (simp; done) | (simp [*]; done)), (by first | rfl | (simp; done) | (simp [*]; done)), (by first | rfl | (simp; done) | (simp [*]; done)), H', ⟨by have := HJ4.out; have := HJ7.out; have := HJ17.out; have := HK4.out; have := HJ26.out; have := HJ34.out; omega⟩, by repeat (first | exact Drawn0.refl _ | apply Drawn0.step)⟩
                                            · rw [if_neg c39] at H
                                              have c39b0 : decide (x16_4 < x11_17) = false := decide_eq_false c39
                                              clear c39
                                              have H' := Aside0.mk H
                                              clear H
                                              go_wp2
                                              go_roundg kj34
                                              case measure => have := HJ4.out; have := HJ7.out; have := HJ17.out; have := HK4.out; have := HJ26.out; have := HJ34.out; omega
                                              case rel => exact ⟨(x2_4), (true), (wrap64 (x7_4 + 1)), (x9_4), (x13_4), (true), (wrap64 (x15_4 + 1)), (x16_4), (x17_4), (by first | rfl | (simp; done) | (simp [*]; done)), (by first | rfl | (simp; done) | (simp [*]; done)), (by first | rfl | (simp; done) | (simp [*]; done)), (by first | rfl | (simp; done) | (simp [*]; done)), (by first | rfl | (simp; done) | (simp [*]; done)), (by first | rfl | (simp; done) | (simp [*]; done)), (by first | rfl | (simp; done) | (simp [*]; done)), (by first | rfl | (simp; done) | (simp [*]; done)), (by first | rfl | (simp; done) | (simp [*]; done)), H', ⟨by have := HJ4.out; have := HJ7.out; have := HJ17.out; have := HK4.out; have := HJ26.out; have := HJ34.out; omega⟩, by repeat (first | exact Drawn0.refl _ | apply Drawn0.step)⟩
                                          · replace c38 := Bool.eq_false_iff.mpr c38
                                            subst c38
                                            have H1 : (strconv_readFloat.j7 kj34 a0 x2_4 0 x4_4 x5_4 x6_17 x7_4 false x9_4 x10_17 x12_17 x13_4 x14_4 x15_4 x16_4 x17_4) = some (r1, r2, r3, r4, r5, r6, r7) := by rw [if_neg (show ¬ (false = true) by decide)] at H; exact H
                                            clear H
                                            have H := H1
                                            clear H1
                                            have H' := Aside0.mk H
                                            clear H
                                            go_wp2
                                            go_meet
                                            case rel => exact ⟨_, (x2_4), (x5_4), (x7_4), (x9_4), (x13_4), (x14_4), (x15_4), (x16_4), (x17_4), (by first | rfl | (simp; done) | (simp [*]; done)), (by first | rfl | (simp; done) | (simp [*]; done)), (by first | rfl | (simp; done) | (simp [*]; done)), (by first | rfl | (simp; done) | (simp [*]; done)), (by first | rfl | (simp; done) | (simp [*]; done)), (by first | rfl | (simp; done) | (simp [*]; done)), (by first | rfl | (simp; done) | (simp [*]; done)), (by first | rfl | (simp; done) | (simp [*]; done)), (by first | rfl | (simp; done) | (simp [*]; done)), H', ⟨by have := HJ4.out; have := HJ7.out; have := HJ17.out; have := HK4.out; have := HJ26.out; have := HJ34.out; first | omega | exact Nat.le_refl _⟩, by repeat (first | exact Drawn0.refl _ | apply Drawn0.step)⟩
                          · rw [if_neg c22] at H
                            exact absurd H (by simp)
                        · rw [if_neg c21] at H
                          have c21b0 : decide (x7_4 < (a0.size : Int)) = false := decide_eq_false c21
                          clear c21
                          (first | rw [c21b0] | (simp only [i64_w, i32_w]; rw [c21b0]) | skip)
                          have H' := Aside0.mk H
                          clear H
                          go_wp2
                          go_meet
                          case rel => exact ⟨_, (x2_4), (x5_4), (x7_4), (x9_4), (x13_4), (x14_4), (x15_4), (x16_4), (x17_4), (by first | rfl | (simp; done) | (simp [*]; done)), (by first | rfl | (simp; done) | (simp [*]; done)), (by first | rfl | (simp; done) | (simp [*]; done)), (by first | rfl | (simp; done) | (simp [*]; done)), (by first | rfl | (simp; done) | (simp [*]; done)), (by first | rfl | (simp; done) | (simp [*]; done)), (by first | rfl | (simp; done) | (simp [*]; done)), (by first | rfl | (simp; done) | (simp [*]; done)), (by first | rfl | (simp; done) | (simp [*]; done)), H', ⟨by have := HJ4.out; have := HJ7.out; have := HJ17.out; have := HK4.out; first | omega | exact Nat.le_refl _⟩, by repeat (first | exact Drawn0.refl _ | apply Drawn0.step)⟩
                  case rest => as_aux_lemma =>
                    clear HC20
                    try clear c1
                    try clear p1
                    try clear q1
                    try clear hx1
                    try clear c2
                    try clear c2b0
                    try clear c2b1
                    try clear p2
                    try clear q2
                    try clear hx2
                    try clear c3
                    try clear c3b0
                    try clear c3b1
                    try clear c4
                    try clear p4
                    try clear q4
                    try clear hx4
                    try clear qi4
                    try clear c6
                    try clear c6b0
                    try clear c6b1
                    try clear p6
                    try clear c7
                    try clear c7b0
                    try clear c7b1
                    try clear c9
                    try clear c9b0
                    try clear c10
                    try clear c10b0
                    try clear c11
                    try clear c11b0
                    try clear p12
                    try clear q12
                    try clear hx12
                    try clear c13
                    try clear c13b0
                    try clear c13b1
                    try clear c15
                    try clear c15b0
                    try clear c16
                    try clear c16b0
                    try clear c17
                    try clear p17
                    try clear q17
                    try clear hx17
                    try clear c19
                    try clear c21
                    try clear c21b0
                    try clear c22
                    try clear c22b0
                    try clear p23
                    try clear q23
                    try clear hx23
                    try clear c24
                    try clear c24b0
                    try clear c24b1
                    try clear c24b2
                    try clear c25
                    try clear c25b0
                    try clear c25b1
                    try clear c25b2
                    try clear c26
                    try clear c28
                    try clear c28b0
                    try clear c29
                    try clear c31
                    try clear c31b0
                    try clear c31b1
                    try clear c32
                    try clear c33
                    try clear c33b0
                    try clear c34
                    try clear c34b0
                    try clear c34b1
                    try clear c36
                    try clear c36b0
                    try clear c36b1
                    try clear c37
                    try clear c37b0
                    try clear c38
                    try clear c39
                    try clear c39b0
                    try clear p1
                    try clear p12
                    try clear p17
                    try clear p2
                    try clear p23
                    try clear p4
                    try clear p6
                    try clear q1
                    try clear q12
                    try clear q17
                    try clear q2
                    try clear q23
                    try clear q4
                    obtain ⟨kq, x2_19, x5_19, x7_19, x9_19, x13_19, x14_19, x15_19, x16_19, x17_19, rfl, rfl, rfl, rfl, rfl, rfl, rfl, rfl, rfl, HA, HJ19, ⟨mc19, rfl⟩⟩ := hcut
                    cases kq with
                    | zero => exact absurd HA.out (by simp [strconv_readFloat.j7])
                    | succ kj19 =>
                      have H := HA.out
                      clear HA
                      simp only [strconv_readFloat.j7] at H
                      by_cases c40 : x14_19 = true
                      · subst c40
                        have H1 : (if x13_19 = true then (strconv_readFloat.j8 kj19 a0 x2_19 0 x4_4 x5_19 x6_17 x7_19 false x9_19 x10_17 x12_17 x16_19 x17_19) else (strconv_readFloat.j8 kj19 a0 x2_19 0 x4_4 x5_19 x6_17 x7_19 false x9_19 x10_17 x12_17 x16_19 x15_19)) = some (r1, r2, r3, r4, r5, r6, r7) := by rw [if_pos rfl] at H; exact H
                        clear H
                        have H := H1
                        clear H1
                        have HC41 := Aside0.mk H
                        clear H
                        go_upto_if 142 with (fail)
                        go_cut [17] (fun v17 wc => ∃ (kq : Nat) (x17_40 : Int), v17 = .int .i64 x17_40 ∧ Aside0 (strconv_readFloat.j8 kq a0 x2_19 0 x4_4 x5_19 x6_17 x7_19 false x9_19 x10_17 x12_17 x16_19 x17_40 = some (r1, r2, r3, r4, r5, r6, r7)) ∧ Aside0 (kq ≤ kj19) ∧ Drawn0 w wc)
                        case first => as_aux_lemma =>
                          have H := HC41.out
                          clear HC41
                          by_cases c42 : x13_19 = true
                          · subst c42
                            have H1 : (strconv_readFloat.j8 kj19 a0 x2_19 0 x4_4 x5_19 x6_17 x7_19 false x9_19 x10_17 x12_17 x16_19 x17_19) = some (r1, r2, r3, r4, r5, r6, r7) := by rw [if_pos rfl] at H; exact H
                            clear H
                            have H := H1
                            clear H1
                            have H' := Aside0.mk H
                            clear H
                            go_wp2
                            go_meet
                            case rel => exact ⟨_, (x17_19), (by first | rfl | (simp; done) | (simp [*]; done)), H', ⟨by have := HJ4.out; have := HJ7.out; have := HJ17.out; have := HJ19.out; first | omega | exact Nat.le_refl _⟩, by repeat (first | exact Drawn0.refl _ | apply Drawn0.step)⟩
                          · replace c42 := Bool.eq_false_iff.mpr c42
                            subst c42
                            have H1 : (strconv_readFloat.j8 kj19 a0 x2_19 0 x4_4 x5_19 x6_17 x7_19 false x9_19 x10_17 x12_17 x16_19 x15_19) = some (r1, r2, r3, r4, r5, r6, r7) := by rw [if_neg (show ¬ (false = true) by decide)] at H; exact H
                            clear H
                            have H := H1
                            clear H1
                            have H' := Aside0.mk H
                            clear H
                            go_wp2
                            go_meet
                            case rel => exact ⟨_, (x15_19), (by first | rfl | (simp; done) | (simp [*]; done)), H', ⟨by have := HJ4.out; have := HJ7.out; have := HJ17.out; have := HJ19.out; first | omega | exact Nat.le_refl _⟩, by repeat (first | exact Drawn0.refl _ | apply Drawn0.step)⟩
                        case rest => as_aux_lemma =>
                          clear HC41
                          try clear c1
                          try clear p1
                          try clear q1
                          try clear hx1
                          try clear c2
                          try clear c2b0
                          try clear c2b1
                          try clear p2
                          try clear q2
                          try clear hx2
                          try clear c3
                          try clear c3b0
                          try clear c3b1
                          try clear c4
                          try clear p4
                          try clear q4
                          try clear hx4
                          try clear qi4
                          try clear c6
                          try clear c6b0
                          try clear c6b1
                          try clear p6
                          try clear c7
                          try clear c7b0
                          try clear c7b1
                          try clear c9
                          try clear c9b0
                          try clear c10
                          try clear c10b0
                          try clear c11
                          try clear c11b0
                          try clear p12
                          try clear q12
                          try clear hx12
                          try clear c13
                          try clear c13b0
                          try clear c13b1
                          try clear c15
                          try clear c15b0
                          try clear c16
                          try clear c16b0
                          try clear c17
                          try clear p17
                          try clear q17
                          try clear hx17
                          try clear c19
                          try clear c21
                          try clear c21b0
                          try clear c22
                          try clear c22b0
                          try clear p23
                          try clear q23
                          try clear hx23
                          try clear c24
                          try clear c24b0
                          try clear c24b1
                          try clear c24b2
                          try clear c25
                          try clear c25b0
                          try clear c25b1
                          try clear c25b2
                          try clear c26
                          try clear c28
                          try clear c28b0
                          try clear c29
                          try clear c31
                          try clear c31b0
                          try clear c31b1
                          try clear c32
                          try clear c33
                          try clear c33b0
                          try clear c34
                          try clear c34b0
                          try clear c34b1
                          try clear c36
                          try clear c36b0
                          try clear c36b1
                          try clear c37
                          try clear c37b0
                          try clear c38
                          try clear c39
                          try clear c39b0
                          try clear c40
                          try clear c42
                          try clear p1
                          try clear p12
                          try clear p17
                          try clear p2
                          try clear p23
                          try clear p4
                          try clear p6
                          try clear q1
                          try clear q12
                          try clear q17
                          try clear q2
                          try clear q23
                          try clear q4
                          obtain ⟨kq, x17_40, rfl, HA, HJ40, ⟨mc40, rfl⟩⟩ := hcut
                          cases kq with
                          | zero => exact absurd HA.out (by simp [strconv_readFloat.j8])
                          | succ kj40 =>
                            have H := HA.out
                            clear HA
                            simp only [strconv_readFloat.j8] at H
                            have HC43 := Aside0.mk H
                            clear H
                            go_upto_if 145 with (fail)
                            go_cut [16, 17] (fun v16 v17 wc => ∃ (kq : Nat) (x16_42 : Int) (x17_42 : Int), v16 = .int .i64 x16_42 ∧ v17 = .int .i64 x17_42 ∧ Aside0 (strconv_readFloat.j9 kq a0 x2_19 0 x4_4 x5_19 x6_17 x7_19 false x9_19 x10_17 x12_17 x16_42 x17_42 = some (r1, r2, r3, r4, r5, r6, r7)) ∧ Aside0 (kq ≤ kj40) ∧ Drawn0 w wc)
                            case first => as_aux_lemma =>
                              have H := HC43.out
                              clear HC43
                              by_cases c44 : x10_17 = 16
                              · rw [if_pos c44] at H
                                have c44b0 : (x10_17 == 16) = true := beq_iff_eq.mpr c44
                                have c44b1 : (x10_17 != 16) = false := bne_eq_false_iff_eq.mpr c44
                                clear c44
                                (first | rw [c44b0] | (simp only [i64_w, i32_w]; rw [c44b0]) | skip)
                                have H' := Aside0.mk H
                                clear H
                                go_wp2
                                go_meet
                                case rel => exact ⟨_, (wrap64 (x16_19 * 4)), (wrap64 (x17_40 * 4)), (by first | rfl | (simp; done) | (simp [*]; done)), (by first | rfl | (simp; done) | (simp [*]; done)), H', ⟨by have := HJ4.out; have := HJ7.out; have := HJ17.out; have := HJ19.out; have := HJ40.out; first | omega | exact Nat.le_refl _⟩, by repeat (first | exact Drawn0.refl _ | apply Drawn0.step)⟩
                              · rw [if_neg c44] at H
                                have c44b0 : (x10_17 == 16) = false := beq_eq_false_iff_ne.mpr c44
                                have c44b1 : (x10_17 != 16) = true := bne_iff_ne.mpr c44
                                (first | rw [c44b0] | (simp only [i64_w, i32_w]; rw [c44b0]) | skip)
                                have H' := Aside0.mk H
                                clear H
                                go_wp2
                                go_meet
                                case rel => exact ⟨_, (x16_19), (x17_40), (by first | rfl | (simp; done) | (simp [*]; done)), (by first | rfl | (simp; done) | (simp [*]; done)), H', ⟨by have := HJ4.out; have := HJ7.out; have := HJ17.out; have := HJ19.out; have := HJ40.out; first | omega | exact Nat.le_refl _⟩, by repeat (first | exact Drawn0.refl _ | apply Drawn0.step)⟩
                            case rest => as_aux_lemma =>
                              clear HC43
                              try clear c1
                              try clear p1
                              try clear q1
                              try clear hx1
                              try clear c2
                              try clear c2b0
                              try clear c2b1
                              try clear p2
                              try clear q2
                              try clear hx2
                              try clear c3
                              try clear c3b0
                              try clear c3b1
                              try clear c4
                              try clear p4
                              try clear q4
                              try clear hx4
                              try clear qi4
                              try clear c6
                              try clear c6b0
                              try clear c6b1
                              try clear p6
                              try clear c7
                              try clear c7b0
                              try clear c7b1
                              try clear c9
                              try clear c9b0
                              try clear c10
                              try clear c10b0
                              try clear c11
                              try clear c11b0
                              try clear p12
                              try clear q12
                              try clear hx12
                              try clear c13
                              try clear c13b0
                              try clear c13b1
                              try clear c15
                              try clear c15b0
                              try clear c16
                              try clear c16b0
                              try clear c17
                              try clear p17
                              try clear q17
                              try clear hx17
                              try clear c19
                              try clear c21
                              try clear c21b0
                              try clear c22
                              try clear c22b0
                              try clear p23
                              try clear q23
                              try clear hx23
                              try clear c24
                              try clear c24b0
                              try clear c24b1
                              try clear c24b2
                              try clear c25
                              try clear c25b0
                              try clear c25b1
                              try clear c25b2
                              try clear c26
                              try clear c28
                              try clear c28b0
                              try clear c29
                              try clear c31
                              try clear c31b0
                              try clear c31b1
                              try clear c32
                              try clear c33
                              try clear c33b0
                              try clear c34
                              try clear c34b0
                              try clear c34b1
                              try clear c36
                              try clear c36b0
                              try clear c36b1
                              try clear c37
                              try clear c37b0
                              try clear c38
                              try clear c39
                              try clear c39b0
                              try clear c40
                              try clear c42
                              try clear c44
                              try clear c44b0
                              try clear c44b1
                              try clear p1
                              try clear p12
                              try clear p17
                              try clear p2
                              try clear p23
                              try clear p4
                              try clear p6
                              try clear q1
                              try clear q12
                              try clear q17
                              try clear q2
                              try clear q23
                              try clear q4
                              obtain ⟨kq, x16_42, x17_42, rfl, rfl, HA, HJ42, ⟨mc42, rfl⟩⟩ := hcut
                              cases kq with
                              | zero => exact absurd HA.out (by simp [strconv_readFloat.j9])
                              | succ kj42 =>
                                have H := HA.out
                                clear HA
                                simp only [strconv_readFloat.j9] at H
                                have HC45 := Aside0.mk H
                                clear H
                                go_upto_region 57 with (fail)
                                go_cut [161] (fun v161 wc => ∃ (kq : Nat) (x161_44 : Bool), v161 = .bool x161_44 ∧ Aside0 (strconv_readFloat.j10 kq a0 x2_19 0 x4_4 x5_19 x6_17 x7_19 false x9_19 x10_17 x16_42 x17_42 x161_44 = some (r1, r2, r3, r4, r5, r6, r7)) ∧ Aside0 (kq ≤ kj42) ∧ Drawn0 w wc)
                                case first => as_aux_lemma =>
                                  have H := HC45.out
                                  clear HC45
                                  by_cases c46 : x7_19 < (a0.size : Int)
                                  · rw [if_pos c46] at H
                                    have c46b0 : decide (x7_19 < (a0.size : Int)) = true := decide_eq_true c46
                                    clear c46
                                    (first | rw [c46b0] | (simp only [i64_w, i32_w]; rw [c46b0]) | skip)
                                    by_cases c47 : 0 ≤ x7_19
                                    · rw [if_pos c47] at H
                                      have c47b0 : decide (0 ≤ x7_19) = true := decide_eq_true c47
                                      clear c47
                                      have H' := Aside0.mk H
                                      clear H
                                      have p48 : 0 ≤ (x7_19 : Int) := of_decide_eq_true (by first | (with_reducible assumption) | assumption)
                                      have q48 : x7_19 < (a0.size : Int) := of_decide_eq_true (by first | (with_reducible assumption) | assumption)
                                      have hx48 := bt_at a0 x7_19
                                      replace p48 := eq_true p48
                                      replace q48 := eq_true q48
                                      go_wp2
                                      go_meet
                                      case rel => exact ⟨_, (((Go.bits .or .u8 (bt a0 x7_19) 32) == x12_17)), (by first | rfl | (simp; done) | (simp [*]; done)), H', ⟨by have := HJ4.out; have := HJ7.out; have := HJ17.out; have := HJ19.out; have := HJ40.out; have := HJ42.out; first | omega | exact Nat.le_refl _⟩, by repeat (first | exact Drawn0.refl _ | apply Drawn0.step)⟩
                                    · rw [if_neg c47] at H
                                      exact absurd H (by simp)
                                  · rw [if_neg c46] at H
                                    have c46b0 : decide (x7_19 < (a0.size : Int)) = false := decide_eq_false c46
                                    clear c46
                                    (first | rw [c46b0] | (simp only [i64_w, i32_w]; rw [c46b0]) | skip)
                                    have H' := Aside0.mk H
                                    clear H
                                    go_wp2
                                    go_meet
                                    case rel => exact ⟨_, (false), (by first | rfl | (simp; done) | (simp [*]; done)), H', ⟨by have := HJ4.out; have := HJ7.out; have := HJ17.out; have := HJ19.out; have := HJ40.out; have := HJ42.out; first | omega | exact Nat.le_refl _⟩, by repeat (first | exact Drawn0.refl _ | apply Drawn0.step)⟩
                                case rest => as_aux_lemma =>
                                  clear HC45
                                  try clear c1
                                  try clear p1
                                  try clear q1
                                  try clear hx1
                                  try clear c2
                                  try clear c2b0
                                  try clear c2b1
                                  try clear p2
                                  try clear q2
                                  try clear hx2
                                  try clear c3
                                  try clear c3b0
                                  try clear c3b1
                                  try clear c4
                                  try clear p4
                                  try clear q4
                                  try clear hx4
                                  try clear qi4
                                  try clear c6
                                  try clear c6b0
                                  try clear c6b1
                                  try clear p6
                                  try clear c7
                                  try clear c7b0
                                  try clear c7b1
                                  try clear c9
                                  try clear c9b0
                                  try clear c10
                                  try clear c10b0
                                  try clear c11
                                  try clear c11b0
                                  try clear p12
                                  try clear q12
                                  try clear hx12
                                  try clear c13
                                  try clear c13b0
                                  try clear c13b1
                                  try clear c15
                                  try clear c15b0
                                  try clear c16
                                  try clear c16b0
                                  try clear c17
                                  try clear p17
                                  try clear q17
                                  try clear hx17
                                  try clear c19
                                  try clear c21
                                  try clear c21b0
                                  try clear c22
                                  try clear c22b0
                                  try clear p23
                                  try clear q23
                                  try clear hx23
                                  try clear c24
                                  try clear c24b0
                                  try clear c24b1
                                  try clear c24b2
                                  try clear c25
                                  try clear c25b0
                                  try clear c25b1
                                  try clear c25b2
                                  try clear c26
                                  try clear c28
                                  try clear c28b0
                                  try clear c29
                                  try clear c31
                                  try clear c31b0
                                  try clear c31b1
                                  try clear c32
                                  try clear c33
                                  try clear c33b0
                                  try clear c34
                                  try clear c34b0
                                  try clear c34b1
                                  try clear c36
                                  try clear c36b0
                                  try clear c36b1
                                  try clear c37
                                  try clear c37b0
                                  try clear c38
                                  try clear c39
                                  try clear c39b0
                                  try clear c40
                                  try clear c42
                                  try clear c44
                                  try clear c44b0
                                  try clear c44b1
                                  try clear c46
                                  try clear c46b0
                                  try clear c47
                                  try clear c47b0
                                  try clear p48
                                  try clear q48
                                  try clear hx48
                                  try clear p1
                                  try clear p12
                                  try clear p17
                                  try clear p2
                                  try clear p23
                                  try clear p4
                                  try clear p48
                                  try clear p6
                                  try clear q1
                                  try clear q12
                                  try clear q17
                                  try clear q2
                                  try clear q23
                                  try clear q4
                                  try clear q48
                                  obtain ⟨kq, x161_44, rfl, HA, HJ44, ⟨mc44, rfl⟩⟩ := hcut
                                  cases kq with
                                  | zero => exact absurd HA.out (by simp [strconv_readFloat.j10])
                                  | succ kj44 =>
                                    have H := HA.out
                                    clear HA
                                    simp only [strconv_readFloat.j10] at H
                                    have HC49 := Aside0.mk H
                                    clear H
                                    go_upto_if 161 with (fail)
                                    go_cut [7, 9, 17] (fun v7 v9 v17 wc => ∃ (kq : Nat) (x7_48 : Int) (x9_48 : Bool) (x17_48 : Int), v7 = .int .i64 x7_48 ∧ v9 = .bool x9_48 ∧ v17 = .int .i64 x17_48 ∧ Aside0 (strconv_readFloat.j15 kq a0 x2_19 0 x4_4 x5_19 x6_17 x7_48 false x9_48 x16_42 x17_48 = some (r1, r2, r3, r4, r5, r6, r7)) ∧ Aside0 (kq ≤ kj44) ∧ Drawn0 w wc)
                                    case first => as_aux_lemma =>
                                      have H := HC49.out
                                      clear HC49
                                      by_cases c50 : x161_44 = true
                                      · subst c50
                                        have H1 : (if (wrap64 (x7_19 + 1)) ≥ (a0.size : Int) then (some (x2_19, 0, x4_4, x5_19, x6_17, wrap64 (x7_19 + 1), false)) else (if 0 ≤ (wrap64 (x7_19 + 1)) then (if (wrap64 (x7_19 + 1)) < (a0.size : Int) then (if (bt a0 (wrap64 (x7_19 + 1))) = 43 then (strconv_readFloat.j11 kj44 a0 x2_19 0 x4_4 x5_19 x6_17 (wrap64 ((wrap64 (x7_19 + 1)) + 1)) false x9_19 x16_42 x17_42 1) else (if (bt a0 (wrap64 (x7_19 + 1))) = 45 then (strconv_readFloat.j11 kj44 a0 x2_19 0 x4_4 x5_19 x6_17 (wrap64 ((wrap64 (x7_19 + 1)) + 1)) false x9_19 x16_42 x17_42 (-1)) else (strconv_readFloat.j11 kj44 a0 x2_19 0 x4_4 x5_19 x6_17 (wrap64 (x7_19 + 1)) false x9_19 x16_42 x17_42 1))) else (none)) else (none))) = some (r1, r2, r3, r4, r5, r6, r7) := by rw [if_pos rfl] at H; exact H
                                        clear H
                                        have H := H1
                                        clear H1
                                        by_cases c51 : (wrap64 (x7_19 + 1)) ≥ (a0.size : Int)
                                        · rw [if_pos c51] at H
                                          have c51b0 : decide ((a0.size : Int) ≤ (wrap64 (x7_19 + 1))) = true := decide_eq_true c51
                                          clear c51
                                          (first | rw [c51b0] | (simp only [i64_w, i32_w]; rw [c51b0]) | skip)
                                          simp only [Option.some.injEq, Prod.mk.injEq] at H
                                          obtain ⟨rfl, rfl, rfl, rfl, rfl, rfl, rfl⟩ := H
                                          go_wp2
                                          (try rw [Exit.noGoto_ret])
                                          refine bodyPost_ret (results_list (rs := [.tmp 2, .tmp 3, .tmp 4, .tmp 5, .tmp 6, .tmp 7, .tmp 8]) rfl (by simp) (.tmp (.tmp (.tmp (.tmp (.tmp (.tmp (.tmp .nil)))))))) rfl ?_
                                          exact ⟨by first | rfl | (simp; done) | (simp [*]; done), by repeat (first | exact Drawn0.refl _ | apply Drawn0.step)⟩
                                        · rw [if_neg c51] at H
                                          have c51b0 : decide ((a0.size : Int) ≤ (wrap64 (x7_19 + 1))) = false := decide_eq_false c51
                                          clear c51
                                          (first | rw [c51b0] | (simp only [i64_w, i32_w]; rw [c51b0]) | skip)
                                          obtain ⟨ji52, hji52⟩ : ∃ j_ : Int, (wrap64 (x7_19 + 1)) = j_ := ⟨_, rfl⟩
                                          replace H : (if 0 ≤ (ji52) then (if (ji52) < (a0.size : Int) then (if (bt a0 (ji52)) = 43 then (strconv_readFloat.j11 kj44 a0 x2_19 0 x4_4 x5_19 x6_17 (wrap64 ((ji52) + 1)) false x9_19 x16_42 x17_42 1) else (if (bt a0 (ji52)) = 45 then (strconv_readFloat.j11 kj44 a0 x2_19 0 x4_4 x5_19 x6_17 (wrap64 ((ji52) + 1)) false x9_19 x16_42 x17_42 (-1)) else (strconv_readFloat.j11 kj44 a0 x2_19 0 x4_4 x5_19 x6_17 ji52 false x9_19 x16_42 x17_42 1))) else (none)) else (none)) = some (r1, r2, r3, r4, r5, r6, r7) := by first | (rw [hji52] at H; exact H) | (simp only [hji52] at H ⊢; exact H)
                                          (try rw [hji52] at c51b0)
                                          have hji52w : (IntKind.i64.wrap (x7_19 + 1)) = ji52 := (i64_w _).trans hji52
                                          by_cases c53 : 0 ≤ (ji52)
                                          · rw [if_pos c53] at H
                                            have c53b0 : decide (0 ≤ (ji52)) = true := decide_eq_true c53
                                            clear c53
                                            by_cases c54 : (ji52) < (a0.size : Int)
                                            · rw [if_pos c54] at H
                                              have c54b0 : decide ((ji52) < (a0.size : Int)) = true := decide_eq_true c54
                                              clear c54
                                              have HC56 := Aside0.mk H
                                              clear H
                                              have p55 : 0 ≤ ((ji52) : Int) := of_decide_eq_true (by first | (with_reducible assumption) | assumption)
                                              have q55 : (ji52) < (a0.size : Int) := of_decide_eq_true (by first | (with_reducible assumption) | assumption)
                                              have hx55 := bt_at a0 (ji52)
                                              replace p55 := eq_true p55
                                              replace q55 := eq_true q55
                                              go_upto_block 4 with (fail)
                                              go_cut [7, 19] (fun v7 v19 wc => ∃ (kq : Nat) (x7_55 : Int) (x19_55 : Int), v7 = .int .i64 x7_55 ∧ v19 = .int .i64 x19_55 ∧ Aside0 (strconv_readFloat.j11 kq a0 x2_19 0 x4_4 x5_19 x6_17 x7_55 false x9_19 x16_42 x17_42 x19_55 = some (r1, r2, r3, r4, r5, r6, r7)) ∧ Aside0 (kq ≤ kj44) ∧ Drawn0 w wc)
                                              case first => as_aux_lemma =>
                                                have H := HC56.out
                                                clear HC56
                                                by_cases c57 : (bt a0 (ji52)) = 43
                                                · rw [if_pos c57] at H
                                                  have c57b0 : ((bt a0 (ji52)) == 43) = true := beq_iff_eq.mpr c57
                                                  have c57b1 : ((bt a0 (ji52)) != 43) = false := bne_eq_false_iff_eq.mpr c57
                                                  clear c57
                                                  (first | rw [c57b0] | (simp only [i64_w, i32_w]; rw [c57b0]) | skip)
                                                  have H' := Aside0.mk H
                                                  clear H
                                                  go_wp2
                                                  go_meet
                                                  case rel => exact ⟨_, (wrap64 ((ji52) + 1)), (1), (by first | rfl | (simp; done) | (simp only [← hji52] <;> (first | rfl | simp)) | (simp [*]; done)), (by first | rfl | (simp; done) | (simp [*]; done)), H', ⟨by have := HJ4.out; have := HJ7.out; have := HJ17.out; have := HJ19.out; have := HJ40.out; have := HJ42.out; have := HJ44.out; first | omega | exact Nat.le_refl _⟩, by repeat (first | exact Drawn0.refl _ | apply Drawn0.step)⟩
                                                · rw [if_neg c57] at H
                                                  have c57b0 : ((bt a0 (ji52)) == 43) = false := beq_eq_false_iff_ne.mpr c57
                                                  have c57b1 : ((bt a0 (ji52)) != 43) = true := bne_iff_ne.mpr c57
                                                  (first | rw [c57b0] | (simp only [i64_w, i32_w]; rw [c57b0]) | skip)
                                                  by_cases c58 : (bt a0 (ji52)) = 45
                                                  · rw [if_pos c58] at H
                                                    have c58b0 : ((bt a0 (ji52)) == 45) = true := beq_iff_eq.mpr c58
                                                    have c58b1 : ((bt a0 (ji52)) != 45) = false := bne_eq_false_iff_eq.mpr c58
                                                    clear c58
                                                    have H' := Aside0.mk H
                                                    clear H
                                                    go_wp2
                                                    go_meet
                                                    case rel => exact ⟨_, (wrap64 ((ji52) + 1)), ((-1)), (by first | rfl | (simp; done) | (simp only [← hji52] <;> (first | rfl | simp)) | (simp [*]; done)), (by first | rfl | (simp; done) | (simp [*]; done)), H', ⟨by have := HJ4.out; have := HJ7.out; have := HJ17.out; have := HJ19.out; have := HJ40.out; have := HJ42.out; have := HJ44.out; first | omega | exact Nat.le_refl _⟩, by repeat (first | exact Drawn0.refl _ | apply Drawn0.step)⟩
                                                  · rw [if_neg c58] at H
                                                    have c58b0 : ((bt a0 (ji52)) == 45) = false := beq_eq_false_iff_ne.mpr c58
                                                    have c58b1 : ((bt a0 (ji52)) != 45) = true := bne_iff_ne.mpr c58
                                                    have H' := Aside0.mk H
                                                    clear H
                                                    go_wp2
                                                    go_meet
                                                    case rel => exact ⟨_, (ji52), (1), (by first | rfl | (simp; done) | (simp only [← hji52] <;> (first | rfl | simp)) | (simp [*]; done)), (by first | rfl | (simp; done) | (simp [*]; done)), H', ⟨by have := HJ4.out; have := HJ7.out; have := HJ17.out; have := HJ19.out; have := HJ40.out; have := HJ42.out; have := HJ44.out; first | omega | exact Nat.le_refl _⟩, by repeat (first | exact Drawn0.refl _ | apply Drawn0.step)⟩
                                              case rest => as_aux_lemma =>
                                                clear HC56
                                                try clear c1
                                                try clear p1
                                                try clear q1
                                                try clear hx1
                                                try clear c2
                                                try clear c2b0
                                                try clear c2b1
                                                try clear p2
                                                try clear q2
                                                try clear hx2
                                                try clear c3
                                                try clear c3b0
                                                try clear c3b1
                                                try clear c4
                                                try clear p4
                                                try clear q4
                                                try clear hx4
                                                try clear qi4
                                                try clear c5
                                                try clear p5
                                                try clear q5
                                                try clear hx5
                                                try clear c6
                                                try clear c6b0
                                                try clear c6b1
                                                try clear p6
                                                try clear c7
                                                try clear c7b0
                                                try clear c7b1
                                                try clear c9
                                                try clear c9b0
                                                try clear c10
                                                try clear c10b0
                                                try clear c11
                                                try clear c11b0
                                                try clear p12
                                                try clear q12
                                                try clear hx12
                                                try clear c13
                                                try clear c13b0
                                                try clear c13b1
                                                try clear c15
                                                try clear c15b0
                                                try clear c16
                                                try clear c16b0
                                                try clear c17
                                                try clear p17
                                                try clear q17
                                                try clear hx17
                                                try clear c19
                                                try clear c21
                                                try clear c21b0
                                                try clear c22
                                                try clear c22b0
                                                try clear p23
                                                try clear q23
                                                try clear hx23
                                                try clear c24
                                                try clear c24b0
                                                try clear c24b1
                                                try clear c24b2
                                                try clear c25
                                                try clear c25b0
                                                try clear c25b1
                                                try clear c25b2
                                                try clear c26
                                                try clear c28
                                                try clear c28b0
                                                try clear c29
                                                try clear c31
                                                try clear c31b0
                                                try clear c31b1
                                                try clear c32
                                                try clear c33
                                                try clear c33b0
                                                try clear c34
                                                try clear c34b0
                                                try clear c34b1
                                                try clear c36
                                                try clear c36b0
                                                try clear c36b1
                                                try clear c37
                                                try clear c37b0
                                                try clear c38
                                                try clear c39
                                                try clear c39b0
                                                try clear c40
                                                try clear c42
                                                try clear c44
                                                try clear c44b0
                                                try clear c44b1
                                                try clear c46
                                                try clear c46b0
                                                try clear c47
                                                try clear c47b0
                                                try clear p48
                                                try clear q48
                                                try clear hx48
                                                try clear c50
                                                try clear c51
                                                try clear c51b0
                                                try clear c53
                                                try clear c53b0
                                                try clear c54
                                                try clear c54b0
                                                try clear p55
                                                try clear q55
                                                try clear hx55
                                                try clear c57
                                                try clear c57b0
                                                try clear c57b1
                                                try clear c58
                                                try clear c58b0
                                                try clear c58b1
                                                try clear p1
                                                try clear p12
                                                try clear p17
                                                try clear p2
                                                try clear p23
                                                try clear p4
                                                try clear p48
                                                try clear p55
                                                try clear p6
                                                try clear q1
                                                try clear q12
                                                try clear q17
                                                try clear q2
                                                try clear q23
                                                try clear q4
                                                try clear q48
                                                try clear q55
                                                obtain ⟨kq, x7_55, x19_55, rfl, rfl, HA, HJ55, ⟨mc55, rfl⟩⟩ := hcut
                                                cases kq with
                                                | zero => exact absurd HA.out (by simp [strconv_readFloat.j11])
                                                | succ kj55 =>
                                                  have H := HA.out
                                                  clear HA
                                                  simp only [strconv_readFloat.j11] at H
                                                  have HC59 := Aside0.mk H
                                                  clear H
                                                  go_upto_region 67 with (fail)
                                                  go_cut [194] (fun v194 wc => ∃ (kq : Nat) (x194_58 : Bool), v194 = .bool x194_58 ∧ Aside0 (strconv_readFloat.j12 kq a0 x2_19 0 x4_4 x5_19 x6_17 x7_55 false x9_19 x16_42 x17_42 x19_55 x194_58 = some (r1, r2, r3, r4, r5, r6, r7)) ∧ Aside0 (kq ≤ kj55) ∧ Drawn0 w wc)
                                                  case first => as_aux_lemma =>
                                                    have H := HC59.out
                                                    clear HC59
                                                    by_cases c60 : x7_55 ≥ (a0.size : Int)
                                                    · rw [if_pos c60] at H
                                                      have c60b0 : decide ((a0.size : Int) ≤ x7_55) = true := decide_eq_true c60
                                                      clear c60
                                                      (first | rw [c60b0] | (simp only [i64_w, i32_w]; rw [c60b0]) | skip)
                                                      have H' := Aside0.mk H
                                                      clear H
                                                      go_wp2
                                                      go_meet
                                                      case rel => exact ⟨_, (true), (by first | rfl | (simp; done) | (simp [*]; done)), H', ⟨by have := HJ4.out; have := HJ7.out; have := HJ17.out; have := HJ19.out; have := HJ40.out; have := HJ42.out; have := HJ44.out; have := HJ55.out; first | omega | exact Nat.le_refl _⟩, by repeat (first | exact Drawn0.refl _ | apply Drawn0.step)⟩
                                                    · rw [if_neg c60] at H
                                                      have c60b0 : decide ((a0.size : Int) ≤ x7_55) = false := decide_eq_false c60
                                                      clear c60
                                                      (first | rw [c60b0] | (simp only [i64_w, i32_w]; rw [c60b0]) | skip)
                                                      by_cases c61 : 0 ≤ x7_55
                                                      · rw [if_pos c61] at H
                                                        have c61b0 : decide (0 ≤ x7_55) = true := decide_eq_true c61
                                                        clear c61
                                                        by_cases c62 : x7_55 < (a0.size : Int)
                                                        · rw [if_pos c62] at H
                                                          have c62b0 : decide (x7_55 < (a0.size : Int)) = true := decide_eq_true c62
                                                          clear c62
                                                          by_cases c64 : (bt a0 x7_55) < 48
                                                          · rw [if_pos c64] at H
                                                            have c64b0 : decide ((bt a0 x7_55) < 48) = true := decide_eq_true c64
                                                            clear c64
                                                            have H' := Aside0.mk H
                                                            clear H
                                                            have p63 : 0 ≤ (x7_55 : Int) := of_decide_eq_true (by first | (with_reducible assumption) | assumption)
                                                            have q63 : x7_55 < (a0.size : Int) := of_decide_eq_true (by first | (with_reducible assumption) | assumption)
                                                            have hx63 := bt_at a0 x7_55
                                                            replace p63 := eq_true p63
                                                            replace q63 := eq_true q63
                                                            go_wp2
                                                            go_meet
                                                            case rel => exact ⟨_, (true), (by first | rfl | (simp; done) | (simp [*]; done)), H', ⟨by have := HJ4.out; have := HJ7.out; have := HJ17.out; have := HJ19.out; have := HJ40.out; have := HJ42.out; have := HJ44.out; have := HJ55.out; first | omega | exact Nat.le_refl _⟩, by repeat (first | exact Drawn0.refl _ | apply Drawn0.step)⟩
                                                          · rw [if_neg c64] at H
                                                            have c64b0 : decide ((bt a0 x7_55) < 48) = false := decide_eq_false c64
                                                            clear c64
                                                            have H' := Aside0.mk H
                                                            clear H
                                                            have p63 : 0 ≤ (x7_55 : Int) := of_decide_eq_true (by first | (with_reducible assumption) | assumption)
                                                            have q63 : x7_55 < (a0.size : Int) := of_decide_eq_true (by first | (with_reducible assumption) | assumption)
                                                            have hx63 := bt_at a0 x7_55
                                                            replace p63 := eq_true p63
                                                            replace q63 := eq_true q63
                                                            have p65 : 0 ≤ (x7_55 : Int) := of_decide_eq_true (by first | (with_reducible assumption) | assumption)
                                                            have q65 : x7_55 < (a0.size : Int) := of_decide_eq_true (by first | (with_reducible assumption) | assumption)
                                                            have hx65 := bt_at a0 x7_55
                                                            replace p65 := eq_true p65
                                                            replace q65 := eq_true q65
                                                            go_wp2
                                                            go_meet
                                                            case rel => exact ⟨_, (decide ((bt a0 x7_55) > 57)), (by first | rfl | (simp; done) | (simp [*]; done)), H', ⟨by have := HJ4.out; have := HJ7.out; have := HJ17.out; have := HJ19.out; have := HJ40.out; have := HJ42.out; have := HJ44.out; have := HJ55.out; first | omega | exact Nat.le_refl _⟩, by repeat (first | exact Drawn0.refl _ | apply Drawn0.step)⟩
                                                        · rw [if_neg c62] at H
                                                          exact absurd H (by simp)
                                                      · rw [if_neg c61] at H
                                                        exact absurd H (by simp)
                                                  case rest => as_aux_lemma =>
                                                    clear HC59
                                                    try clear c1
                                                    try clear p1
                                                    try clear q1
                                                    try clear hx1
                                                    try clear c2
                                                    try clear c2b0
                                                    try clear c2b1
                                                    try clear p2
                                                    try clear q2
                                                    try clear hx2
                                                    try clear c3
                                                    try clear c3b0
                                                    try clear c3b1
                                                    try clear c4
                                                    try clear p4
                                                    try clear q4
                                                    try clear hx4
                                                    try clear qi4
                                                    try clear c5
                                                    try clear p5
                                                    try clear q5
                                                    try clear hx5
                                                    try clear c6
                                                    try clear c6b0
                                                    try clear c6b1
                                                    try clear p6
                                                    try clear q6
                                                    try clear hx6
                                                    try clear c7
                                                    try clear c7b0
                                                    try clear c7b1
                                                    try clear c9
                                                    try clear c9b0
                                                    try clear c10
                                                    try clear c10b0
                                                    try clear c11
                                                    try clear c11b0
                                                    try clear p12
                                                    try clear q12
                                                    try clear hx12
                                                    try clear c13
                                                    try clear c13b0
                                                    try clear c13b1
                                                    try clear c15
                                                    try clear c15b0
                                                    try clear c16
                                                    try clear c16b0
                                                    try clear c17
                                                    try clear p17
                                                    try clear q17
                                                    try clear hx17
                                                    try clear c19
                                                    try clear c21
                                                    try clear c21b0
                                                    try clear c22
                                                    try clear c22b0
                                                    try clear p23
                                                    try clear q23
                                                    try clear hx23
                                                    try clear c24
                                                    try clear c24b0
                                                    try clear c24b1
                                                    try clear c24b2
                                                    try clear c25
                                                    try clear c25b0
                                                    try clear c25b1
                                                    try clear c25b2
                                                    try clear c26
                                                    try clear c28
                                                    try clear c28b0
                                                    try clear c29
                                                    try clear c31
                                                    try clear c31b0
                                                    try clear c31b1
                                                    try clear c32
                                                    try clear c33
                                                    try clear c33b0
                                                    try clear c34
                                                    try clear c34b0
                                                    try clear c34b1
                                                    try clear c36
                                                    try clear c36b0
                                                    try clear c36b1
                                                    try clear c37
                                                    try clear c37b0
                                                    try clear c38
                                                    try clear c39
                                                    try clear c39b0
                                                    try clear c40
                                                    try clear c42
                                                    try clear c44
                                                    try clear c44b0
                                                    try clear c44b1
                                                    try clear c46
                                                    try clear c46b0
                                                    try clear c47
                                                    try clear c47b0
                                                    try clear p48
                                                    try clear q48
                                                    try clear hx48
                                                    try clear c50
                                                    try clear c51
                                                    try clear c51b0
                                                    try clear c53
                                                    try clear c53b0
                                                    try clear c54
                                                    try clear c54b0
                                                    try clear c55
                                                    try clear p55
                                                    try clear q55
                                                    try clear hx55
                                                    try clear c57
                                                    try clear c57b0
                                                    try clear c57b1
                                                    try clear c58
                                                    try clear c58b0
                                                    try clear c58b1
                                                    try clear c60
                                                    try clear c60b0
                                                    try clear c61
                                                    try clear c61b0
                                                    try clear c62
                                                    try clear c62b0
                                                    try clear p63
                                                    try clear q63
                                                    try clear hx63
                                                    try clear c64
                                                    try clear c64b0
                                                    try clear p64
                                                    try clear p65
                                                    try clear q65
                                                    try clear hx65
                                                    try clear p1
                                                    try clear p12
                                                    try clear p17
                                                    try clear p2
                                                    try clear p23
                                                    try clear p4
                                                    try clear p48
                                                    try clear p5
                                                    try clear p55
                                                    try clear p6
                                                    try clear p63
                                                    try clear p65
                                                    try clear q1
                                                    try clear q12
                                                    try clear q17
                                                    try clear q2
                                                    try clear q23
                                                    try clear q4
                                                    try clear q48
                                                    try clear q5
                                                    try clear q55
                                                    try clear q63
                                                    try clear q65
                                                    obtain ⟨kq, x194_58, rfl, HA, HJ58, ⟨mc58, rfl⟩⟩ := hcut
                                                    cases kq with
                                                    | zero => exact absurd HA.out (by simp [strconv_readFloat.j12])
                                                    | succ kj58 =>
                                                      have H := HA.out
                                                      clear HA
                                                      simp only [strconv_readFloat.j12] at H
                                                      by_cases c66 : x194_58 = true
                                                      · subst c66
                                                        have H1 : (some (x2_19, 0, x4_4, x5_19, x6_17, x7_55, false)) = some (r1, r2, r3, r4, r5, r6, r7) := by rw [if_pos rfl] at H; exact H
                                                        clear H
                                                        have H := H1
                                                        clear H1
                                                        simp only [Option.some.injEq, Prod.mk.injEq] at H
                                                        obtain ⟨rfl, rfl, rfl, rfl, rfl, rfl, rfl⟩ := H
                                                        go_wp2
                                                        (try rw [Exit.noGoto_ret])
                                                        refine bodyPost_ret (results_list (rs := [.tmp 2, .tmp 3, .tmp 4, .tmp 5, .tmp 6, .tmp 7, .tmp 8]) rfl (by simp) (.tmp (.tmp (.tmp (.tmp (.tmp (.tmp (.tmp .nil)))))))) rfl ?_
                                                        exact ⟨by first | rfl | (simp; done) | (simp only [← hji52] <;> (first | rfl | simp)) | (simp [*]; done), by repeat (first | exact Drawn0.refl _ | apply Drawn0.step)⟩
                                                      · replace c66 := Bool.eq_false_iff.mpr c66
                                                        subst c66
                                                        have H1 : (strconv_readFloat.l1 kj58 a0 x2_19 0 x4_4 x5_19 x6_17 x7_55 false x9_19 x16_42 x17_42 x19_55 0) = some (r1, r2, r3, r4, r5, r6, r7) := by rw [if_neg (show ¬ (false = true) by decide)] at H; exact H
                                                        clear H
                                                        have H := H1
                                                        clear H1
                                                        have H' := Aside0.mk H
                                                        clear H
                                                        go_wp2
                                                        go_loopg [7, 9, 20] kj58 (fun kq v7 v9 v20 w' => ∃ (x7_10 : Int) (x9_10 : Bool) (x20_10 : Int), v7 = .int .i64 x7_10 ∧ v9 = .bool x9_10 ∧ v20 = .int .i64 x20_10 ∧ Aside0 (strconv_readFloat.l1 kq a0 x2_19 0 x4_4 x5_19 x6_17 x7_10 false x9_10 x16_42 x17_42 x19_55 x20_10 = some (r1, r2, r3, r4, r5, r6, r7)) ∧ Aside0 (kq ≤ kj58) ∧ Drawn0 w w')
                                                        case atStart => exact ⟨(x7_55), (x9_19), (0), (by first | rfl | (simp; done) | (simp [*]; done)), (by first | rfl | (simp; done) | (simp [*]; done)), (by first | rfl | (simp; done) | (simp [*]; done)), H', ⟨Nat.le_refl _⟩, by repeat (first | exact Drawn0.refl _ | apply Drawn0.step)⟩
                                                        case round => as_aux_lemma =>
                                                          clear H'
                                                          try clear c1
                                                          try clear p1
                                                          try clear q1
                                                          try clear hx1
                                                          try clear c2
                                                          try clear c2b0
                                                          try clear c2b1
                                                          try clear p2
                                                          try clear q2
                                                          try clear hx2
                                                          try clear c3
                                                          try clear c3b0
                                                          try clear c3b1
                                                          try clear c4
                                                          try clear p4
                                                          try clear q4
                                                          try clear hx4
                                                          try clear qi4
                                                          try clear c5
                                                          try clear p5
                                                          try clear q5
                                                          try clear hx5
                                                          try clear c6
                                                          try clear c6b0
                                                          try clear c6b1
                                                          try clear p6
                                                          try clear q6
                                                          try clear hx6
                                                          try clear c7
                                                          try clear c7b0
                                                          try clear c7b1
                                                          try clear c9
                                                          try clear c9b0
                                                          try clear c10
                                                          try clear c10b0
                                                          try clear c11
                                                          try clear c11b0
                                                          try clear p12
                                                          try clear q12
                                                          try clear hx12
                                                          try clear c13
                                                          try clear c13b0
                                                          try clear c13b1
                                                          try clear c15
                                                          try clear c15b0
                                                          try clear c16
                                                          try clear c16b0
                                                          try clear c17
                                                          try clear p17
                                                          try clear q17
                                                          try clear hx17
                                                          try clear c19
                                                          try clear c21
                                                          try clear c21b0
                                                          try clear c22
                                                          try clear c22b0
                                                          try clear p23
                                                          try clear q23
                                                          try clear hx23
                                                          try clear c24
                                                          try clear c24b0
                                                          try clear c24b1
                                                          try clear c24b2
                                                          try clear c25
                                                          try clear c25b0
                                                          try clear c25b1
                                                          try clear c25b2
                                                          try clear c26
                                                          try clear c28
                                                          try clear c28b0
                                                          try clear c29
                                                          try clear c31
                                                          try clear c31b0
                                                          try clear c31b1
                                                          try clear c32
                                                          try clear c33
                                                          try clear c33b0
                                                          try clear c34
                                                          try clear c34b0
                                                          try clear c34b1
                                                          try clear c36
                                                          try clear c36b0
                                                          try clear c36b1
                                                          try clear c37
                                                          try clear c37b0
                                                          try clear c38
                                                          try clear c39
                                                          try clear c39b0
                                                          try clear c40
                                                          try clear c42
                                                          try clear c44
                                                          try clear c44b0
                                                          try clear c44b1
                                                          try clear c46
                                                          try clear c46b0
                                                          try clear c47
                                                          try clear c47b0
                                                          try clear p48
                                                          try clear q48
                                                          try clear hx48
                                                          try clear c50
                                                          try clear c51
                                                          try clear c51b0
                                                          try clear c53
                                                          try clear c53b0
                                                          try clear c54
                                                          try clear c54b0
                                                          try clear c55
                                                          try clear p55
                                                          try clear q55
                                                          try clear hx55
                                                          try clear c57
                                                          try clear c57b0
                                                          try clear c57b1
                                                          try clear c58
                                                          try clear c58b0
                                                          try clear c58b1
                                                          try clear c60
                                                          try clear c60b0
                                                          try clear c61
                                                          try clear c61b0
                                                          try clear c62
                                                          try clear c62b0
                                                          try clear p63
                                                          try clear q63
                                                          try clear hx63
                                                          try clear c64
                                                          try clear c64b0
                                                          try clear p64
                                                          try clear p65
                                                          try clear q65
                                                          try clear hx65
                                                          try clear c66
                                                          try clear p1
                                                          try clear p12
                                                          try clear p17
                                                          try clear p2
                                                          try clear p23
                                                          try clear p4
                                                          try clear p48
                                                          try clear p5
                                                          try clear p55
                                                          try clear p6
                                                          try clear p63
                                                          try clear p64
                                                          try clear p65
                                                          try clear q1
                                                          try clear q12
                                                          try clear q17
                                                          try clear q2
                                                          try clear q23
                                                          try clear q4
                                                          try clear q48
                                                          try clear q5
                                                          try clear q55
                                                          try clear q6
                                                          try clear q63
                                                          try clear q65
                                                          obtain ⟨x7_10, x9_10, x20_10, rfl, rfl, rfl, HA, HK10, ⟨m10, rfl⟩⟩ := hrel
                                                          cases gk with
                                                          | zero => exact absurd HA.out (by simp [strconv_readFloat.l1])
                                                          | succ k10 =>
                                                            have H := HA.out
                                                            clear HA
                                                            simp only [strconv_readFloat.l1] at H
                                                            have HC67 := Aside0.mk H
                                                            clear H
                                                            go_upto_region 69 with (fail)
                                                            go_cut [216] (fun v216 wc => ∃ (kq : Nat) (x216_66 : Bool), v216 = .bool x216_66 ∧ Aside0 (strconv_readFloat.j14 kq a0 x2_19 0 x4_4 x5_19 x6_17 x7_10 false x9_10 x16_42 x17_42 x19_55 x20_10 x216_66 = some (r1, r2, r3, r4, r5, r6, r7)) ∧ Aside0 (kq ≤ k10) ∧ Drawn0 w wc)
                                                            case first => as_aux_lemma =>
                                                              have H := HC67.out
                                                              clear HC67
                                                              by_cases c68 : x7_10 < (a0.size : Int)
                                                              · rw [if_pos c68] at H
                                                                have c68b0 : decide (x7_10 < (a0.size : Int)) = true := decide_eq_true c68
                                                                clear c68
                                                                (first | rw [c68b0] | (simp only [i64_w, i32_w]; rw [c68b0]) | skip)
                                                                by_cases c69 : 0 ≤ x7_10
                                                                · rw [if_pos c69] at H
                                                                  have c69b0 : decide (0 ≤ x7_10) = true := decide_eq_true c69
                                                                  clear c69
                                                                  by_cases c71 : 48 ≤ (bt a0 x7_10)
                                                                  · rw [if_pos c71] at H
                                                                    have c71b0 : decide (48 ≤ (bt a0 x7_10)) = true := decide_eq_true c71
                                                                    clear c71
                                                                    by_cases c73 : (bt a0 x7_10) ≤ 57
                                                                    · rw [if_pos c73] at H
                                                                      have c73b0 : decide ((bt a0 x7_10) ≤ 57) = true := decide_eq_true c73
                                                                      clear c73
                                                                      have H' := Aside0.mk H
                                                                      clear H
                                                                      have p70 : 0 ≤ (x7_10 : Int) := of_decide_eq_true (by first | (with_reducible assumption) | assumption)
                                                                      have q70 : x7_10 < (a0.size : Int) := of_decide_eq_true (by first | (with_reducible assumption) | assumption)
                                                                      have hx70 := bt_at a0 x7_10
                                                                      replace p70 := eq_true p70
                                                                      replace q70 := eq_true q70
                                                                      have p72 : 0 ≤ (x7_10 : Int) := of_decide_eq_true (by first | (with_reducible assumption) | assumption)
                                                                      have q72 : x7_10 < (a0.size : Int) := of_decide_eq_true (by first | (with_reducible assumption) | assumption)
                                                                      have hx72 := bt_at a0 x7_10
                                                                      replace p72 := eq_true p72
                                                                      replace q72 := eq_true q72
                                                                      go_wp2
                                                                      go_meet
                                                                      case rel => exact ⟨_, (true), (by first | rfl | (simp; done) | (simp [*]; done)), H', ⟨by have := HJ4.out; have := HJ7.out; have := HJ17.out; have := HJ19.out; have := HJ40.out; have := HJ42.out; have := HJ44.out; have := HJ55.out; have := HJ58.out; have := HK10.out; first | omega | exact Nat.le_refl _⟩, by repeat (first | exact Drawn0.refl _ | apply Drawn0.step)⟩
                                                                    · rw [if_neg c73] at H
                                                                      have c73b0 : decide ((bt a0 x7_10) ≤ 57) = false := decide_eq_false c73
                                                                      clear c73
                                                                      have H' := Aside0.mk H
                                                                      clear H
                                                                      have p70 : 0 ≤ (x7_10 : Int) := of_decide_eq_true (by first | (with_reducible assumption) | assumption)
                                                                      have q70 : x7_10 < (a0.size : Int) := of_decide_eq_true (by first | (with_reducible assumption) | assumption)
                                                                      have hx70 := bt_at a0 x7_10
                                                                      replace p70 := eq_true p70
                                                                      replace q70 := eq_true q70
                                                                      have p72 : 0 ≤ (x7_10 : Int) := of_decide_eq_true (by first | (with_reducible assumption) | assumption)
                                                                      have q72 : x7_10 < (a0.size : Int) := of_decide_eq_true (by first | (with_reducible assumption) | assumption)
                                                                      have hx72 := bt_at a0 x7_10
                                                                      replace p72 := eq_true p72
                                                                      replace q72 := eq_true q72
                                                                      have p74 : 0 ≤ (x7_10 : Int) := of_decide_eq_true (by first | (with_reducible assumption) | assumption)
                                                                      have q74 : x7_10 < (a0.size : Int) := of_decide_eq_true (by first | (with_reducible assumption) | assumption)
                                                                      have hx74 := bt_at a0 x7_10
                                                                      replace p74 := eq_true p74
                                                                      replace q74 := eq_true q74
                                                                      go_wp2
                                                                      go_meet
                                                                      case rel => exact ⟨_, (((bt a0 x7_10) == 95)), (by first | rfl | (simp; done) | (simp [*]; done)), H', ⟨by have := HJ4.out; have := HJ7.out; have := HJ17.out; have := HJ19.out; have := HJ40.out; have := HJ42.out; have := HJ44.out; have := HJ55.out; have := HJ58.out; have := HK10.out; first | omega | exact Nat.le_refl _⟩, by repeat (first | exact Drawn0.refl _ | apply Drawn0.step)⟩
                                                                  · rw [if_neg c71] at H
                                                                    have c71b0 : decide (48 ≤ (bt a0 x7_10)) = false := decide_eq_false c71
                                                                    clear c71
                                                                    have H' := Aside0.mk H
                                                                    clear H
                                                                    have p70 : 0 ≤ (x7_10 : Int) := of_decide_eq_true (by first | (with_reducible assumption) | assumption)
                                                                    have q70 : x7_10 < (a0.size : Int) := of_decide_eq_true (by first | (with_reducible assumption) | assumption)
                                                                    have hx70 := bt_at a0 x7_10
                                                                    replace p70 := eq_true p70
                                                                    replace q70 := eq_true q70
                                                                    have p75 : 0 ≤ (x7_10 : Int) := of_decide_eq_true (by first | (with_reducible assumption) | assumption)
                                                                    have q75 : x7_10 < (a0.size : Int) := of_decide_eq_true (by first | (with_reducible assumption) | assumption)
                                                                    have hx75 := bt_at a0 x7_10
                                                                    replace p75 := eq_true p75
                                                                    replace q75 := eq_true q75
                                                                    go_wp2
                                                                    go_meet
                                                                    case rel => exact ⟨_, (((bt a0 x7_10) == 95)), (by first | rfl | (simp; done) | (simp [*]; done)), H', ⟨by have := HJ4.out; have := HJ7.out; have := HJ17.out; have := HJ19.out; have := HJ40.out; have := HJ42.out; have := HJ44.out; have := HJ55.out; have := HJ58.out; have := HK10.out; first | omega | exact Nat.le_refl _⟩, by repeat (first | exact Drawn0.refl _ | apply Drawn0.step)⟩
                                                                · rw [if_neg c69] at H
                                                                  exact absurd H (by simp)
                                                              · rw [if_neg c68] at H
                                                                have c68b0 : decide (x7_10 < (a0.size : Int)) = false := decide_eq_false c68
                                                                clear c68
                                                                (first | rw [c68b0] | (simp only [i64_w, i32_w]; rw [c68b0]) | skip)
                                                                have H' := Aside0.mk H
                                                                clear H
                                                                go_wp2
                                                                go_meet
                                                                case rel => exact ⟨_, (false), (by first | rfl | (simp; done) | (simp [*]; done)), H', ⟨by have := HJ4.out; have := HJ7.out; have := HJ17.out; have := HJ19.out; have := HJ40.out; have := HJ42.out; have := HJ44.out; have := HJ55.out; have := HJ58.out; have := HK10.out; first | omega | exact Nat.le_refl _⟩, by repeat (first | exact Drawn0.refl _ | apply Drawn0.step)⟩
                                                            case rest => as_aux_lemma =>
                                                              clear HC67
                                                              try clear c1
                                                              try clear p1
                                                              try clear q1
                                                              try clear hx1
                                                              try clear c2
                                                              try clear c2b0
                                                              try clear c2b1
                                                              try clear p2
                                                              try clear q2
                                                              try clear hx2
                                                              try clear c3
                                                              try clear c3b0
                                                              try clear c3b1
                                                              try clear c4
                                                              try clear p4
                                                              try clear q4
                                                              try clear hx4
                                                              try clear qi4
                                                              try clear c5
                                                              try clear p5
                                                              try clear q5
                                                              try clear hx5
                                                              try clear c6
                                                              try clear c6b0
                                                              try clear c6b1
                                                              try clear p6
                                                              try clear q6
                                                              try clear hx6
                                                              try clear c7
                                                              try clear c7b0
                                                              try clear c7b1
                                                              try clear p7
                                                              try clear q7
                                                              try clear hx7
                                                              try clear c9
                                                              try clear c9b0
                                                              try clear c10
                                                              try clear c10b0
                                                              try clear c11
                                                              try clear c11b0
                                                              try clear p12
                                                              try clear q12
                                                              try clear hx12
                                                              try clear c13
                                                              try clear c13b0
                                                              try clear c13b1
                                                              try clear c15
                                                              try clear c15b0
                                                              try clear c16
                                                              try clear c16b0
                                                              try clear c17
                                                              try clear p17
                                                              try clear q17
                                                              try clear hx17
                                                              try clear c19
                                                              try clear c21
                                                              try clear c21b0
                                                              try clear c22
                                                              try clear c22b0
                                                              try clear p23
                                                              try clear q23
                                                              try clear hx23
                                                              try clear c24
                                                              try clear c24b0
                                                              try clear c24b1
                                                              try clear c24b2
                                                              try clear c25
                                                              try clear c25b0
                                                              try clear c25b1
                                                              try clear c25b2
                                                              try clear c26
                                                              try clear c28
                                                              try clear c28b0
                                                              try clear c29
                                                              try clear c31
                                                              try clear c31b0
                                                              try clear c31b1
                                                              try clear c32
                                                              try clear c33
                                                              try clear c33b0
                                                              try clear c34
                                                              try clear c34b0
                                                              try clear c34b1
                                                              try clear c36
                                                              try clear c36b0
                                                              try clear c36b1
                                                              try clear c37
                                                              try clear c37b0
                                                              try clear c38
                                                              try clear c39
                                                              try clear c39b0
                                                              try clear c40
                                                              try clear c42
                                                              try clear c44
                                                              try clear c44b0
                                                              try clear c44b1
                                                              try clear c46
                                                              try clear c46b0
                                                              try clear c47
                                                              try clear c47b0
                                                              try clear p48
                                                              try clear q48
                                                              try clear hx48
                                                              try clear c50
                                                              try clear c51
                                                              try clear c51b0
                                                              try clear c53
                                                              try clear c53b0
                                                              try clear c54
                                                              try clear c54b0
                                                              try clear c55
                                                              try clear p55
                                                              try clear q55
                                                              try clear hx55
                                                              try clear c57
                                                              try clear c57b0
                                                              try clear c57b1
                                                              try clear c58
                                                              try clear c58b0
                                                              try clear c58b1
                                                              try clear c60
                                                              try clear c60b0
                                                              try clear c61
                                                              try clear c61b0
                                                              try clear c62
                                                              try clear c62b0
                                                              try clear p63
                                                              try clear q63
                                                              try clear hx63
                                                              try clear c64
                                                              try clear c64b0
                                                              try clear p64
                                                              try clear p65
                                                              try clear q65
                                                              try clear hx65
                                                              try clear c66
                                                              try clear c68
                                                              try clear c68b0
                                                              try clear c69
                                                              try clear c69b0
                                                              try clear p70
                                                              try clear q70
                                                              try clear hx70
                                                              try clear c71
                                                              try clear c71b0
                                                              try clear p72
                                                              try clear q72
                                                              try clear hx72
                                                              try clear c73
                                                              try clear c73b0
                                                              try clear p74
                                                              try clear q74
                                                              try clear hx74
                                                              try clear p75
                                                              try clear q75
                                                              try clear hx75
                                                              try clear p1
                                                              try clear p12
                                                              try clear p17
                                                              try clear p2
                                                              try clear p23
                                                              try clear p4
                                                              try clear p48
                                                              try clear p5
                                                              try clear p55
                                                              try clear p6
                                                              try clear p63
                                                              try clear p64
                                                              try clear p65
                                                              try clear p70
                                                              try clear p72
                                                              try clear p74
                                                              try clear p75
                                                              try clear q1
                                                              try clear q12
                                                              try clear q17
                                                              try clear q2
                                                              try clear q23
                                                              try clear q4
                                                              try clear q48
                                                              try clear q5
                                                              try clear q55
                                                              try clear q6
                                                              try clear q63
                                                              try clear q65
                                                              try clear q70
                                                              try clear q72
                                                              try clear q74
                                                              try clear q75
                                                              obtain ⟨kq, x216_66, rfl, HA, HJ66, ⟨mc66, rfl⟩⟩ := hcut
                                                              cases kq with
                                                              | zero => exact absurd HA.out (by simp [strconv_readFloat.j14])
                                                              | succ kj66 =>
                                                                have H := HA.out
                                                                clear HA
                                                                simp only [strconv_readFloat.j14] at H
                                                                by_cases c76 : x216_66 = true
                                                                · subst c76
                                                                  have H1 : (if 0 ≤ x7_10 then (if x7_10 < (a0.size : Int) then (if (bt a0 x7_10) = 95 then (strconv_readFloat.l1 kj66 a0 x2_19 0 x4_4 x5_19 x6_17 (wrap64 (x7_10 + 1)) false true x16_42 x17_42 x19_55 x20_10) else (if x20_10 < 10000 then (strconv_readFloat.l1 kj66 a0 x2_19 0 x4_4 x5_19 x6_17 (wrap64 (x7_10 + 1)) false x9_10 x16_42 x17_42 x19_55 (wrap64 ((wrap64 ((wrap64 (x20_10 * 10)) + (wrap64 (bt a0 x7_10)))) - 48))) else (strconv_readFloat.l1 kj66 a0 x2_19 0 x4_4 x5_19 x6_17 (wrap64 (x7_10 + 1)) false x9_10 x16_42 x17_42 x19_55 x20_10))) else (none)) else (none)) = some (r1, r2, r3, r4, r5, r6, r7) := by rw [if_pos rfl] at H; exact H
                                                                  clear H
                                                                  have H := H1
                                                                  clear H1
                                                                  by_cases c77 : 0 ≤ x7_10
                                                                  · rw [if_pos c77] at H
                                                                    have c77b0 : decide (0 ≤ x7_10) = true := decide_eq_true c77
                                                                    clear c77
                                                                    by_cases c78 : x7_10 < (a0.size : Int)
                                                                    · rw [if_pos c78] at H
                                                                      have c78b0 : decide (x7_10 < (a0.size : Int)) = true := decide_eq_true c78
                                                                      clear c78
                                                                      by_cases c80 : (bt a0 x7_10) = 95
                                                                      · rw [if_pos c80] at H
                                                                        have c80b0 : ((bt a0 x7_10) == 95) = true := beq_iff_eq.mpr c80
                                                                        have c80b1 : ((bt a0 x7_10) != 95) = false := bne_eq_false_iff_eq.mpr c80
                                                                        clear c80
                                                                        have H' := Aside0.mk H
                                                                        clear H
                                                                        have p79 : 0 ≤ (x7_10 : Int) := of_decide_eq_true (by first | (with_reducible assumption) | assumption)
                                                                        have q79 : x7_10 < (a0.size : Int) := of_decide_eq_true (by first | (with_reducible assumption) | assumption)
                                                                        have hx79 := bt_at a0 x7_10
                                                                        replace p79 := eq_true p79
                                                                        replace q79 := eq_true q79
                                                                        go_wp2
                                                                        go_roundg kj66
                                                                        case measure => have := HJ4.out; have := HJ7.out; have := HJ17.out; have := HJ19.out; have := HJ40.out; have := HJ42.out; have := HJ44.out; have := HJ55.out; have := HJ58.out; have := HK10.out; have := HJ66.out; omega
                                                                        case rel => exact ⟨(wrap64 (x7_10 + 1)), (true), (x20_10), (by first | rfl | (simp; done) | (simp [*]; done)), (by first | rfl | (simp; done) | (simp [*]; done)), (by first | rfl | (simp; done) | (simp [*]; done)), H', ⟨by have := HJ4.out; have := HJ7.out; have := HJ17.out; have := HJ19.out; have := HJ40.out; have := HJ42.out; have := HJ44.out; have := HJ55.out; have := HJ58.out; have := HK10.out; have := HJ66.out; omega⟩, by repeat (first | exact Drawn0.refl _ | apply Drawn0.step)⟩
                                                                      · rw [if_neg c80] at H
                                                                        have c80b0 : ((bt a0 x7_10) == 95) = false := beq_eq_false_iff_ne.mpr c80
                                                                        have c80b1 : ((bt a0 x7_10) != 95) = true := bne_iff_ne.mpr c80
                                                                        by_cases c81 : x20_10 < 10000
                                                                        · rw [if_pos c81] at H
                                                                          have c81b0 : decide (x20_10 < 10000) = true := decide_eq_true c81
                                                                          clear c81
                                                                          have H' := Aside0.mk H
                                                                          clear H
                                                                          have p79 : 0 ≤ (x7_10 : Int) := of_decide_eq_true (by first | (with_reducible assumption) | assumption)
                                                                          have q79 : x7_10 < (a0.size : Int) := of_decide_eq_true (by first | (with_reducible assumption) | assumption)
                                                                          have hx79 := bt_at a0 x7_10
                                                                          replace p79 := eq_true p79
                                                                          replace q79 := eq_true q79
                                                                          have p82 : 0 ≤ (x7_10 : Int) := of_decide_eq_true (by first | (with_reducible assumption) | assumption)
                                                                          have q82 : x7_10 < (a0.size : Int) := of_decide_eq_true (by first | (with_reducible assumption) | assumption)
                                                                          have hx82 := bt_at a0 x7_10
                                                                          replace p82 := eq_true p82
                                                                          replace q82 := eq_true q82
                                                                          go_wp2
                                                                          go_roundg kj66
                                                                          case measure => have := HJ4.out; have := HJ7.out; have := HJ17.out; have := HJ19.out; have := HJ40.out; have := HJ42.out; have := HJ44.out; have := HJ55.out; have := HJ58.out; have := HK10.out; have := HJ66.out; omega
                                                                          case rel => exact ⟨(wrap64 (x7_10 + 1)), (x9_10), (wrap64 ((wrap64 ((wrap64 (x20_10 * 10)) + (wrap64 (bt a0 x7_10)))) - 48)), (by first | rfl | (simp; done) | (simp [*]; done)), (by first | rfl | (simp; done) | (simp [*]; done)), (by first | rfl | (simp; done) | (simp [*]; done)), H', ⟨by have := HJ4.out; have := HJ7.out; have := HJ17.out; have := HJ19.out; have := HJ40.out; have := HJ42.out; have := HJ44.out; have := HJ55.out; have := HJ58.out; have := HK10.out; have := HJ66.out; omega⟩, by repeat (first | exact Drawn0.refl _ | apply Drawn0.step)⟩
                                                                        · rw [if_neg c81] at H
                                                                          have c81b0 : decide (x20_10 < 10000) = false := decide_eq_false c81
                                                                          clear c81
                                                                          have H' := Aside0.mk H
                                                                          clear H
                                                                          have p79 : 0 ≤ (x7_10 : Int) := of_decide_eq_true (by first | (with_reducible assumption) | assumption)
                                                                          have q79 : x7_10 < (a0.size : Int) := of_decide_eq_true (by first | (with_reducible assumption) | assumption)
                                                                          have hx79 := bt_at a0 x7_10
                                                                          replace p79 := eq_true p79
                                                                          replace q79 := eq_true q79
                                                                          go_wp2
                                                                          go_roundg kj66
                                                                          case measure => have := HJ4.out; have := HJ7.out; have := HJ17.out; have := HJ19.out; have := HJ40.out; have := HJ42.out; have := HJ44.out; have := HJ55.out; have := HJ58.out; have := HK10.out; have := HJ66.out; omega
                                                                          case rel => exact ⟨(wrap64 (x7_10 + 1)), (x9_10), (x20_10), (by first | rfl | (simp; done) | (simp [*]; done)), (by first | rfl | (simp; done) | (simp [*]; done)), (by first | rfl | (simp; done) | (simp [*]; done)), H', ⟨by have := HJ4.out; have := HJ7.out; have := HJ17.out; have := HJ19.out; have := HJ40.out; have := HJ42.out; have := HJ44.out; have := HJ55.out; have := HJ58.out; have := HK10.out; have := HJ66.out; omega⟩, by repeat (first | exact Drawn0.refl _ | apply Drawn0.step)⟩
                                                                    · rw [if_neg c78] at H
                                                                      exact absurd H (by simp)
                                                                  · rw [if_neg c77] at H
                                                                    exact absurd H (by simp)
                                                                · replace c76 := Bool.eq_false_iff.mpr c76
                                                                  subst c76
                                                                  have H1 : (strconv_readFloat.j15 kj66 a0 x2_19 0 x4_4 x5_19 x6_17 x7_10 false x9_10 x16_42 (wrap64 (x17_42 + (wrap64 (x20_10 * x19_55))))) = some (r1, r2, r3, r4, r5, r6, r7) := by rw [if_neg (show ¬ (false = true) by decide)] at H; exact H
                                                                  clear H
                                                                  have H := H1
                                                                  clear H1
                                                                  have H' := Aside0.mk H
                                                                  clear H
                                                                  go_wp2
                                                                  go_meet
                                                                  case rel => exact ⟨_, (x7_10), (x9_10), (wrap64 (x17_42 + (wrap64 (x20_10 * x19_55)))), (by first | rfl | (simp; done) | (simp [*]; done)), (by first | rfl | (simp; done) | (simp [*]; done)), (by first | rfl | (simp; done) | (simp [*]; done)), H', ⟨by have := HJ4.out; have := HJ7.out; have := HJ17.out; have := HJ19.out; have := HJ40.out; have := HJ42.out; have := HJ44.out; have := HJ55.out; have := HJ58.out; have := HK10.out; have := HJ66.out; first | omega | exact Nat.le_refl _⟩, by repeat (first | exact Drawn0.refl _ | apply Drawn0.step)⟩
                                            · rw [if_neg c54] at H
                                              exact absurd H (by simp)
                                          · rw [if_neg c53] at H
                                            exact absurd H (by simp)
                                      · replace c50 := Bool.eq_false_iff.mpr c50
                                        subst c50
                                        have H1 : (if x10_17 = 16 then (some (x2_19, 0, x4_4, x5_19, x6_17, x7_19, false)) else (strconv_readFloat.j15 kj44 a0 x2_19 0 x4_4 x5_19 x6_17 x7_19 false x9_19 x16_42 x17_42)) = some (r1, r2, r3, r4, r5, r6, r7) := by rw [if_neg (show ¬ (false = true) by decide)] at H; exact H
                                        clear H
                                        have H := H1
                                        clear H1
                                        by_cases c83 : x10_17 = 16
                                        · rw [if_pos c83] at H
                                          have c83b0 : (x10_17 == 16) = true := beq_iff_eq.mpr c83
                                          have c83b1 : (x10_17 != 16) = false := bne_eq_false_iff_eq.mpr c83
                                          clear c83
                                          simp only [Option.some.injEq, Prod.mk.injEq] at H
                                          obtain ⟨rfl, rfl, rfl, rfl, rfl, rfl, rfl⟩ := H
                                          go_wp2
                                          (try rw [Exit.noGoto_ret])
                                          refine bodyPost_ret (results_list (rs := [.tmp 2, .tmp 3, .tmp 4, .tmp 5, .tmp 6, .tmp 7, .tmp 8]) rfl (by simp) (.tmp (.tmp (.tmp (.tmp (.tmp (.tmp (.tmp .nil)))))))) rfl ?_
                                          exact ⟨by first | rfl | (simp; done) | (simp [*]; done), by repeat (first | exact Drawn0.refl _ | apply Drawn0.step)⟩
                                        · rw [if_neg c83] at H
                                          have c83b0 : (x10_17 == 16) = false := beq_eq_false_iff_ne.mpr c83
                                          have c83b1 : (x10_17 != 16) = true := bne_iff_ne.mpr c83
                                          have H' := Aside0.mk H
                                          clear H
                                          go_wp2
                                          go_meet
                                          case rel => exact ⟨_, (x7_19), (x9_19), (x17_42), (by first | rfl | (simp; done) | (simp [*]; done)), (by first | rfl | (simp; done) | (simp [*]; done)), (by first | rfl | (simp; done) | (simp [*]; done)), H', ⟨by have := HJ4.out; have := HJ7.out; have := HJ17.out; have := HJ19.out; have := HJ40.out; have := HJ42.out; have := HJ44.out; first | omega | exact Nat.le_refl _⟩, by repeat (first | exact Drawn0.refl _ | apply Drawn0.step)⟩
                                    case rest => as_aux_lemma =>
                                      clear HC49
                                      try clear c1
                                      try clear p1
                                      try clear q1
                                      try clear hx1
                                      try clear c2
                                      try clear c2b0
                                      try clear c2b1
                                      try clear p2
                                      try clear q2
                                      try clear hx2
                                      try clear c3
                                      try clear c3b0
                                      try clear c3b1
                                      try clear c4
                                      try clear p4
                                      try clear q4
                                      try clear hx4
                                      try clear qi4
                                      try clear c5
                                      try clear p5
                                      try clear q5
                                      try clear hx5
                                      try clear c6
                                      try clear c6b0
                                      try clear c6b1
                                      try clear p6
                                      try clear q6
                                      try clear hx6
                                      try clear c7
                                      try clear c7b0
                                      try clear c7b1
                                      try clear p7
                                      try clear q7
                                      try clear hx7
                                      try clear c8
                                      try clear p8
                                      try clear q8
                                      try clear hx8
                                      try clear c9
                                      try clear c9b0
                                      try clear c10
                                      try clear c10b0
                                      try clear c11
                                      try clear c11b0
                                      try clear p12
                                      try clear q12
                                      try clear hx12
                                      try clear c13
                                      try clear c13b0
                                      try clear c13b1
                                      try clear c15
                                      try clear c15b0
                                      try clear c16
                                      try clear c16b0
                                      try clear c17
                                      try clear p17
                                      try clear q17
                                      try clear hx17
                                      try clear c19
                                      try clear c21
                                      try clear c21b0
                                      try clear c22
                                      try clear c22b0
                                      try clear p23
                                      try clear q23
                                      try clear hx23
                                      try clear c24
                                      try clear c24b0
                                      try clear c24b1
                                      try clear c24b2
                                      try clear c25
                                      try clear c25b0
                                      try clear c25b1
                                      try clear c25b2
                                      try clear c26
                                      try clear c28
                                      try clear c28b0
                                      try clear c29
                                      try clear c31
                                      try clear c31b0
                                      try clear c31b1
                                      try clear c32
                                      try clear c33
                                      try clear c33b0
                                      try clear c34
                                      try clear c34b0
                                      try clear c34b1
                                      try clear c36
                                      try clear c36b0
                                      try clear c36b1
                                      try clear c37
                                      try clear c37b0
                                      try clear c38
                                      try clear c39
                                      try clear c39b0
                                      try clear c40
                                      try clear c42
                                      try clear c44
                                      try clear c44b0
                                      try clear c44b1
                                      try clear c46
                                      try clear c46b0
                                      try clear c47
                                      try clear c47b0
                                      try clear p48
                                      try clear q48
                                      try clear hx48
                                      try clear c50
                                      try clear c51
                                      try clear c51b0
                                      try clear c53
                                      try clear c53b0
                                      try clear c54
                                      try clear c54b0
                                      try clear c55
                                      try clear p55
                                      try clear q55
                                      try clear hx55
                                      try clear c57
                                      try clear c57b0
                                      try clear c57b1
                                      try clear c58
                                      try clear c58b0
                                      try clear c58b1
                                      try clear c60
                                      try clear c60b0
                                      try clear c61
                                      try clear c61b0
                                      try clear c62
                                      try clear c62b0
                                      try clear p63
                                      try clear q63
                                      try clear hx63
                                      try clear c64
                                      try clear c64b0
                                      try clear p64
                                      try clear p65
                                      try clear q65
                                      try clear hx65
                                      try clear c66
                                      try clear c68
                                      try clear c68b0
                                      try clear c69
                                      try clear c69b0
                                      try clear p70
                                      try clear q70
                                      try clear hx70
                                      try clear c71
                                      try clear c71b0
                                      try clear p72
                                      try clear q72
                                      try clear hx72
                                      try clear c73
                                      try clear c73b0
                                      try clear p74
                                      try clear q74
                                      try clear hx74
                                      try clear p75
                                      try clear q75
                                      try clear hx75
                                      try clear c76
                                      try clear c77
                                      try clear c77b0
                                      try clear c78
                                      try clear c78b0
                                      try clear p79
                                      try clear q79
                                      try clear hx79
                                      try clear c80
                                      try clear c80b0
                                      try clear c80b1
                                      try clear c81
                                      try clear c81b0
                                      try clear p82
                                      try clear q82
                                      try clear hx82
                                      try clear c83
                                      try clear c83b0
                                      try clear c83b1
                                      try clear p1
                                      try clear p12
                                      try clear p17
                                      try clear p2
                                      try clear p23
                                      try clear p4
                                      try clear p48
                                      try clear p5
                                      try clear p55
                                      try clear p6
                                      try clear p63
                                      try clear p64
                                      try clear p65
                                      try clear p7
                                      try clear p70
                                      try clear p72
                                      try clear p74
                                      try clear p75
                                      try clear p79
                                      try clear p82
                                      try clear q1
                                      try clear q12
                                      try clear q17
                                      try clear q2
                                      try clear q23
                                      try clear q4
                                      try clear q48
                                      try clear q5
                                      try clear q55
                                      try clear q6
                                      try clear q63
                                      try clear q65
                                      try clear q7
                                      try clear q70
                                      try clear q72
                                      try clear q74
                                      try clear q75
                                      try clear q79
                                      try clear q82
                                      obtain ⟨kq, x7_48, x9_48, x17_48, rfl, rfl, rfl, HA, HJ48, ⟨mc48, rfl⟩⟩ := hcut
                                      cases kq with
                                      | zero => exact absurd HA.out (by simp [strconv_readFloat.j15])
                                      | succ kj48 =>
                                        have H := HA.out
                                        clear HA
                                        simp only [strconv_readFloat.j15] at H
                                        by_cases c84 : x2_19 = 0
                                        · rw [if_pos c84] at H
                                          have c84b0 : (x2_19 == 0) = true := beq_iff_eq.mpr c84
                                          have c84b1 : (x2_19 != 0) = false := bne_eq_false_iff_eq.mpr c84
                                          clear c84
                                          by_cases c85 : x9_48 = true
                                          · subst c85
                                            have H1 : (if 0 ≤ x7_48 then (if x7_48 ≤ (a0.size : Int) then ((strconv_underscoreOK.f kj48 (a0.extract 0 (x7_48 : Int).toNat)).bind fun t131 => (if t131 = true then (some (x2_19, 0, x4_4, x5_19, x6_17, x7_48, true)) else (some (x2_19, 0, x4_4, x5_19, x6_17, x7_48, false)))) else (none)) else (none)) = some (r1, r2, r3, r4, r5, r6, r7) := by rw [if_pos rfl] at H; exact H
                                            clear H
                                            have H := H1
                                            clear H1
                                            by_cases c86 : 0 ≤ x7_48
                                            · rw [if_pos c86] at H
                                              have c86b0 := eq_true c86
                                              have c86b1 : decide (0 ≤ x7_48) = true := decide_eq_true c86
                                              clear c86
                                              by_cases c87 : x7_48 ≤ (a0.size : Int)
                                              · rw [if_pos c87] at H
                                                have c87b0 := eq_true c87
                                                have c87b1 : decide (x7_48 ≤ (a0.size : Int)) = true := decide_eq_true c87
                                                clear c87
                                                replace H := Option.bind_eq_some_iff.mp H
                                                obtain ⟨t131, A880, H⟩ := H
                                                replace H : (if t131 = true then (some (x2_19, 0, x4_4, x5_19, x6_17, x7_48, true)) else (some (x2_19, 0, x4_4, x5_19, x6_17, x7_48, false))) = some (r1, r2, r3, r4, r5, r6, r7) := H
                                                have A88 := Aside0.mk A880
                                                clear A880
                                                by_cases c89 : t131 = true
                                                · subst c89
                                                  have H1 : (some (x2_19, 0, x4_4, x5_19, x6_17, x7_48, true)) = some (r1, r2, r3, r4, r5, r6, r7) := by rw [if_pos rfl] at H; exact H
                                                  clear H
                                                  have H := H1
                                                  clear H1
                                                  simp only [Option.some.injEq, Prod.mk.injEq] at H
                                                  obtain ⟨rfl, rfl, rfl, rfl, rfl, rfl, rfl⟩ := H
                                                  go_wp2_with (first | (go_at_call 51; (with_reducible refine (strconv_underscoreOK.calls kj48 (a0.extract 0 (x7_48 : Int).toNat) true _ A88.out).mono ?_); rintro e w' ⟨rfl, ⟨nd, rfl⟩⟩))
                                                  (try rw [Exit.noGoto_ret])
                                                  refine bodyPost_ret (results_list (rs := [.tmp 2, .tmp 3, .tmp 4, .tmp 5, .tmp 6, .tmp 7, .tmp 8]) rfl (by simp) (.tmp (.tmp (.tmp (.tmp (.tmp (.tmp (.tmp .nil)))))))) rfl ?_
                                                  exact ⟨by first | rfl | (simp; done) | (simp [*]; done), by repeat (first | exact Drawn0.refl _ | apply Drawn0.step)⟩
                                                · replace c89 := Bool.eq_false_iff.mpr c89
                                                  subst c89
                                                  have H1 : (some (x2_19, 0, x4_4, x5_19, x6_17, x7_48, false)) = some (r1, r2, r3, r4, r5, r6, r7) := by rw [if_neg (show ¬ (false = true) by decide)] at H; exact H
                                                  clear H
                                                  have H := H1
                                                  clear H1
                                                  simp only [Option.some.injEq, Prod.mk.injEq] at H
                                                  obtain ⟨rfl, rfl, rfl, rfl, rfl, rfl, rfl⟩ := H
                                                  go_wp2_with (first | (go_at_call 51; (with_reducible refine (strconv_underscoreOK.calls kj48 (a0.extract 0 (x7_48 : Int).toNat) false _ A88.out).mono ?_); rintro e w' ⟨rfl, ⟨nd, rfl⟩⟩))
                                                  (try rw [Exit.noGoto_ret])
                                                  refine bodyPost_ret (results_list (rs := [.tmp 2, .tmp 3, .tmp 4, .tmp 5, .tmp 6, .tmp 7, .tmp 8]) rfl (by simp) (.tmp (.tmp (.tmp (.tmp (.tmp (.tmp (.tmp .nil)))))))) rfl ?_
                                                  exact ⟨by first | rfl | (simp; done) | (simp [*]; done), by repeat (first | exact Drawn0.refl _ | apply Drawn0.step)⟩
                                              · rw [if_neg c87] at H
                                                exact absurd H (by simp)
                                            · rw [if_neg c86] at H
                                              exact absurd H (by simp)
                                          · replace c85 := Bool.eq_false_iff.mpr c85
                                            subst c85
                                            have H1 : (some (x2_19, 0, x4_4, x5_19, x6_17, x7_48, true)) = some (r1, r2, r3, r4, r5, r6, r7) := by rw [if_neg (show ¬ (false = true) by decide)] at H; exact H
                                            clear H
                                            have H := H1
                                            clear H1
                                            simp only [Option.some.injEq, Prod.mk.injEq] at H
                                            obtain ⟨rfl, rfl, rfl, rfl, rfl, rfl, rfl⟩ := H
                                            go_wp2
                                            (try rw [Exit.noGoto_ret])
                                            refine bodyPost_ret (results_list (rs := [.tmp 2, .tmp 3, .tmp 4, .tmp 5, .tmp 6, .tmp 7, .tmp 8]) rfl (by simp) (.tmp (.tmp (.tmp (.tmp (.tmp (.tmp (.tmp .nil)))))))) rfl ?_
                                            exact ⟨by first | rfl | (simp; done) | (simp [*]; done), by repeat (first | exact Drawn0.refl _ | apply Drawn0.step)⟩
                                        · rw [if_neg c84] at H
                                          have c84b0 : (x2_19 == 0) = false := beq_eq_false_iff_ne.mpr c84
                                          have c84b1 : (x2_19 != 0) = true := bne_iff_ne.mpr c84
                                          by_cases c90 : x9_48 = true
                                          · subst c90
                                            have H1 : (if 0 ≤ x7_48 then (if x7_48 ≤ (a0.size : Int) then ((strconv_underscoreOK.f kj48 (a0.extract 0 (x7_48 : Int).toNat)).bind fun t132 => (if t132 = true then (some (x2_19, wrap64 (x17_48 - x16_42), x4_4, x5_19, x6_17, x7_48, true)) else (some (x2_19, wrap64 (x17_48 - x16_42), x4_4, x5_19, x6_17, x7_48, false)))) else (none)) else (none)) = some (r1, r2, r3, r4, r5, r6, r7) := by rw [if_pos rfl] at H; exact H
                                            clear H
                                            have H := H1
                                            clear H1
                                            by_cases c91 : 0 ≤ x7_48
                                            · rw [if_pos c91] at H
                                              have c91b0 := eq_true c91
                                              have c91b1 : decide (0 ≤ x7_48) = true := decide_eq_true c91
                                              clear c91
                                              by_cases c92 : x7_48 ≤ (a0.size : Int)
                                              · rw [if_pos c92] at H
                                                have c92b0 := eq_true c92
                                                have c92b1 : decide (x7_48 ≤ (a0.size : Int)) = true := decide_eq_true c92
                                                clear c92
                                                replace H := Option.bind_eq_some_iff.mp H
                                                obtain ⟨t132, A930, H⟩ := H
                                                replace H : (if t132 = true then (some (x2_19, wrap64 (x17_48 - x16_42), x4_4, x5_19, x6_17, x7_48, true)) else (some (x2_19, wrap64 (x17_48 - x16_42), x4_4, x5_19, x6_17, x7_48, false))) = some (r1, r2, r3, r4, r5, r6, r7) := H
                                                have A93 := Aside0.mk A930
                                                clear A930
                                                by_cases c94 : t132 = true
                                                · subst c94
                                                  have H1 : (some (x2_19, wrap64 (x17_48 - x16_42), x4_4, x5_19, x6_17, x7_48, true)) = some (r1, r2, r3, r4, r5, r6, r7) := by rw [if_pos rfl] at H; exact H
                                                  clear H
                                                  have H := H1
                                                  clear H1
                                                  simp only [Option.some.injEq, Prod.mk.injEq] at H
                                                  obtain ⟨rfl, rfl, rfl, rfl, rfl, rfl, rfl⟩ := H
                                                  go_wp2_with (first | (go_at_call 51; (with_reducible refine (strconv_underscoreOK.calls kj48 (a0.extract 0 (x7_48 : Int).toNat) true _ A93.out).mono ?_); rintro e w' ⟨rfl, ⟨nd, rfl⟩⟩))
                                                  (try rw [Exit.noGoto_ret])
                                                  refine bodyPost_ret (results_list (rs := [.tmp 2, .tmp 3, .tmp 4, .tmp 5, .tmp 6, .tmp 7, .tmp 8]) rfl (by simp) (.tmp (.tmp (.tmp (.tmp (.tmp (.tmp (.tmp .nil)))))))) rfl ?_
                                                  exact ⟨by first | rfl | (simp; done) | (simp [*]; done), by repeat (first | exact Drawn0.refl _ | apply Drawn0.step)⟩
                                                · replace c94 := Bool.eq_false_iff.mpr c94
                                                  subst c94
                                                  have H1 : (some (x2_19, wrap64 (x17_48 - x16_42), x4_4, x5_19, x6_17, x7_48, false)) = some (r1, r2, r3, r4, r5, r6, r7) := by rw [if_neg (show ¬ (false = true) by decide)] at H; exact H
                                                  clear H
                                                  have H := H1
                                                  clear H1
                                                  simp only [Option.some.injEq, Prod.mk.injEq] at H
                                                  obtain ⟨rfl, rfl, rfl, rfl, rfl, rfl, rfl⟩ := H
                                                  go_wp2_with (first | (go_at_call 51; (with_reducible refine (strconv_underscoreOK.calls kj48 (a0.extract 0 (x7_48 : Int).toNat) false _ A93.out).mono ?_); rintro e w' ⟨rfl, ⟨nd, rfl⟩⟩))
                                                  (try rw [Exit.noGoto_ret])
                                                  refine bodyPost_ret (results_list (rs := [.tmp 2, .tmp 3, .tmp 4, .tmp 5, .tmp 6, .tmp 7, .tmp 8]) rfl (by simp) (.tmp (.tmp (.tmp (.tmp (.tmp (.tmp (.tmp .nil)))))))) rfl ?_
                                                  exact ⟨by first | rfl | (simp; done) | (simp [*]; done), by repeat (first | exact Drawn0.refl _ | apply Drawn0.step)⟩
                                              · rw [if_neg c92] at H
                                                exact absurd H (by simp)
                                            · rw [if_neg c91] at H
                                              exact absurd H (by simp)
                                          · replace c90 := Bool.eq_false_iff.mpr c90
                                            subst c90
                                            have H1 : (some (x2_19, wrap64 (x17_48 - x16_42), x4_4, x5_19, x6_17, x7_48, true)) = some (r1, r2, r3, r4, r5, r6, r7) := by rw [if_neg (show ¬ (false = true) by decide)] at H; exact H
                                            clear H
                                            have H := H1
                                            clear H1
                                            simp only [Option.some.injEq, Prod.mk.injEq] at H
                                            obtain ⟨rfl, rfl, rfl, rfl, rfl, rfl, rfl⟩ := H
                                            go_wp2
                                            (try rw [Exit.noGoto_ret])
                                            refine bodyPost_ret (results_list (rs := [.tmp 2, .tmp 3, .tmp 4, .tmp 5, .tmp 6, .tmp 7, .tmp 8]) rfl (by simp) (.tmp (.tmp (.tmp (.tmp (.tmp (.tmp (.tmp .nil)))))))) rfl ?_
                                            exact ⟨by first | rfl | (simp; done) | (simp [*]; done), by repeat (first | exact Drawn0.refl _ | apply Drawn0.step)⟩
                      · replace c40 := Bool.eq_false_iff.mpr c40
                        subst c40
                        have H1 : (some (x2_19, 0, x4_4, x5_19, x6_17, x7_19, false)) = some (r1, r2, r3, r4, r5, r6, r7) := by rw [if_neg (show ¬ (false = true) by decide)] at H; exact H
                        clear H
                        have H := H1
                        clear H1
                        simp only [Option.some.injEq, Prod.mk.injEq] at H
                        obtain ⟨rfl, rfl, rfl, rfl, rfl, rfl, rfl⟩ := H
                        go_wp2
                        (try rw [Exit.noGoto_ret])
                        refine bodyPost_ret (results_list (rs := [.tmp 2, .tmp 3, .tmp 4, .tmp 5, .tmp 6, .tmp 7, .tmp 8]) rfl (by simp) (.tmp (.tmp (.tmp (.tmp (.tmp (.tmp (.tmp .nil)))))))) rfl ?_
                        exact ⟨by first | rfl | (simp; done) | (simp [*]; done), by repeat (first | exact Drawn0.refl _ | apply Drawn0.step)⟩
    · rw [if_neg c3] at H
      exact absurd H (by simp)

end Go.Proofs.YtfkpbkjokapijaaGreatFmt.PQ
