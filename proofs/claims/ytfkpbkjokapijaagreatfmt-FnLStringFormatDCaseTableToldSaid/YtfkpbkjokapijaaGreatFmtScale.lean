/- parseFloat64 and atof64exact end, and what they answer is the same in every memory; for every mantissa below 2^64 and every exponent that atof64 hands them. -/
import Derived.Test.YtfkpbkjokapijaaGreatFmtPQ0
import Derived.WalkSpells
import Derived.WalkLawsBesides
import Derived.Laws.BitsAllLaws
import Derived.Deep.QuietTactic
import Derived.BigQuiet
import Derived.Test.YtfkpbkjokapijaaGreatFmtShelf
import Derived.Outline
namespace Go.Proofs.YtfkpbkjokapijaaGreatFmt.PQ
open Go.RowKit Go.Proofs.YtfkpbkjokapijaaGreatFmtW.PrintWords
set_option linter.unusedVariables false
set_option linter.unusedSimpArgs false

/-- One or nought. -/
def b2i (b : Bool) : Int := cond b 1 0
theorem b2i_bd (b : Bool) : 0 ≤ b2i b ∧ b2i b ≤ 1 := by cases b <;> decide
theorem bool2_int (b : Bool) (w : World) : Calls Tryz.prog 83 #[.bool b] w fun e w' => e = .returned (.int .i64 (b2i b)) ∧ w' = w := by
  cases b
  · go_enter Tryz.func83, Tryz.ntmps83
    go_wp2
    go_ret
    exact ⟨rfl, rfl⟩
  · go_enter Tryz.func83, Tryz.ntmps83
    go_wp2
    go_ret
    exact ⟨rfl, rfl⟩
theorem bool2_u64 (b : Bool) (w : World) : Calls Tryz.prog 69 #[.bool b] w fun e w' => e = .returned (.int .u64 (b2i b)) ∧ w' = w := by
  cases b
  · go_enter Tryz.func69, Tryz.ntmps69
    go_wp2
    go_ret
    exact ⟨rfl, rfl⟩
  · go_enter Tryz.func69, Tryz.ntmps69
    go_wp2
    go_ret
    exact ⟨rfl, rfl⟩
theorem log2Pow10_any (x : Int) (h0 : -400 ≤ x) (h1 : x ≤ 400) : ∀ w : World, Calls Tryz.prog 80 #[.int .i64 x] w fun e w' => e = .returned (.int .i64 (x * 108853 / 32768)) ∧ w' = w := by
  intro w
  go_enter Tryz.func80, Tryz.ntmps80
  go_wp2
  go_ret
  exact ⟨rfl, rfl⟩
theorem unmin_any (x : Int) : ∃ y, ∀ w : World, Calls Tryz.prog 84 #[.int .u64 x] w fun e w' => e = .returned (.int .u64 y) ∧ w' = w := by
  apply Exists.intro
  · intro w
    go_enter Tryz.func84, Tryz.ntmps84
    go_wp2
    go_ret
    exact ⟨rfl, rfl⟩
theorem round_any (x : Int) : ∃ y, ∀ w : World, Calls Tryz.prog 86 #[.int .u64 x] w fun e w' => e = .returned (.int .u64 y) ∧ w' = w := by
  apply Exists.intro
  · intro w
    go_enter Tryz.func86, Tryz.ntmps86
    go_wp2
    go_ret
    exact ⟨rfl, rfl⟩
theorem mul64_any (x y : Int) : ∃ a b, ∀ w : World, Calls Tryz.prog 96 #[.int .u64 x, .int .u64 y] w fun e w' => e = .returned (.tuple #[.int .u64 a, .int .u64 b]) ∧ w' = w := by
  apply Exists.intro; apply Exists.intro
  · intro w
    go_enter Tryz.func96, Tryz.ntmps96
    go_wp2
    go_ret2
    exact ⟨rfl, rfl⟩
set_option maxHeartbeats 1000000 in
set_option maxRecDepth 100000 in
/-- pack64: the two ways by the error. -/
theorem pack64_any (m e : Int) : ∃ x er, (er = none ∨ er = some 1) ∧ ∀ w : World, Calls Tryz.prog 89 #[.int .u64 m, .int .i64 e] w fun en w' => en = .returned (.tuple #[.float .f64 x, errW er]) ∧ w' = w := by
  by_cases c : Go.bits .and .u64 m 4503599627370496 = 0
  · have b : (Go.bits .and .u64 m 4503599627370496 == 0) = true := beq_iff_eq.mpr c
    clear c
    apply Exists.intro
    refine ⟨none, .inl rfl, fun w => ?_⟩
    go_enter Tryz.func89, Tryz.ntmps89
    go_wp2
    go_ret2
    exact ⟨rfl, rfl⟩
  · have b : (Go.bits .and .u64 m 4503599627370496 == 0) = false := beq_eq_false_iff_ne.mpr c
    clear c
    by_cases d : 972 ≤ e
    · apply Exists.intro
      refine ⟨some 1, .inr rfl, fun w => ?_⟩
      go_enter Tryz.func89, Tryz.ntmps89
      go_wp2
      go_ret2
      exact ⟨rfl, rfl⟩
    · refine ⟨(Go.bits .or .u64 (Go.bits .andNot .u64 m 4503599627370496) (IntKind.u64.wrap ((IntKind.u64.wrap (wrap64 (1075 + e))) * 4503599627370496))).toNat, none, .inl rfl, fun w => ?_⟩
      go_enter Tryz.func89, Tryz.ntmps89
      go_wp2
      go_ret2
      exact ⟨rfl, rfl⟩

theorem i64_and63 (n : Int) : Go.bits .and .i64 n 63 = n % 64 := by
  have h63 : (BitVec.ofInt 64 63).toNat = 2 ^ 6 - 1 := by decide
  have key : (BitVec.ofInt 64 n &&& BitVec.ofInt 64 63).toNat = (n % ((2 ^ 64 : Nat) : Int)).toNat % 2 ^ 6 := by
    rw [BitVec.toNat_and, BitVec.toNat_ofInt, h63, Nat.and_two_pow_sub_one_eq_mod]
  show IntKind.i64.wrap ((BitVec.ofInt 64 n &&& BitVec.ofInt 64 63).toNat : Nat) = n % 64
  rw [key, IntKind.wrap_i64]
  omega

set_option maxHeartbeats 1000000 in
set_option maxRecDepth 100000 in
/-- uscale: it reads its three numbers; what it answers hangs on them alone. -/
theorem uscale_any (x h l s : Int) : ∃ u, ∀ (b : Nat) (w : World), w.heap[b]? = some (.cells #[.int .u64 h, .int .u64 l, .int .i64 s] 139 (0, 0)) →
    Calls Tryz.prog 82 #[.int .u64 x, .pointer (some ⟨b, 0, none⟩)] w fun e w' => e = .returned (.int .u64 u) ∧ ∃ n, w' = w.drewN n := by
  obtain ⟨hi, mid, hm⟩ := mul64_any x h
  obtain ⟨hi2, mid2, hm2⟩ := mul64_any x l
  have hb0 := i64_and63 s
  have hs0 : 0 ≤ Go.bits .and .i64 s 63 := by omega
  have hs1 : Go.bits .and .i64 s 63 ≤ 63 := by omega
  clear hb0
  obtain ⟨sh, hsh⟩ : ∃ sh, Go.bits .and .i64 s 63 = sh := ⟨_, rfl⟩
  rw [hsh] at hs0 hs1
  by_cases ct : IntKind.u64.wrap (hi / 2 ^ sh.toNat * 2 ^ sh.toNat) = hi
  · have cb : (IntKind.u64.wrap (hi / 2 ^ sh.toNat * 2 ^ sh.toNat) != hi) = false := bne_eq_false_iff_eq.mpr ct
    clear ct
    apply Exists.intro
    · intro b w hb
      have c0 : w.cell? ⟨b, 0, none⟩ = some (.int .u64 h) := by simp [World.cell?, hb]
      have c1 : w.cell? ⟨b, 0 + 1, none⟩ = some (.int .u64 l) := by simp [World.cell?, hb]
      have c2 : w.cell? ⟨b, 0 + 2, none⟩ = some (.int .i64 s) := by simp [World.cell?, hb]
      clear hb
      go_enter Tryz.func82, Tryz.ntmps82
      go_wp2_with (first | (go_at_call 96; ((with_reducible refine (hm _).mono ?_); rintro e w' ⟨rfl, rfl⟩)))
      ((with_reducible refine (hm2 _).mono ?_); rintro e w' ⟨rfl, rfl⟩)
      go_wp2_with (first | (go_at_call 69; ((with_reducible refine (bool2_u64 (decide (mid < hi2)) _).mono ?_); rintro e w' ⟨rfl, rfl⟩)))
      go_quiet ((go_at_call 69; exact Calls.quiet_of_same (bool2_u64 _ _)))
      go_wp2
      go_ret
      exact ⟨rfl, _, rfl⟩
  · have cb : (IntKind.u64.wrap (hi / 2 ^ sh.toNat * 2 ^ sh.toNat) != hi) = true := bne_iff_ne.mpr ct
    clear ct
    apply Exists.intro
    · intro b w hb
      have c0 : w.cell? ⟨b, 0, none⟩ = some (.int .u64 h) := by simp [World.cell?, hb]
      have c1 : w.cell? ⟨b, 0 + 1, none⟩ = some (.int .u64 l) := by simp [World.cell?, hb]
      have c2 : w.cell? ⟨b, 0 + 2, none⟩ = some (.int .i64 s) := by simp [World.cell?, hb]
      clear hb
      go_enter Tryz.func82, Tryz.ntmps82
      go_wp2_with (first | (go_at_call 96; ((with_reducible refine (hm _).mono ?_); rintro e w' ⟨rfl, rfl⟩)))
      go_ret
      exact ⟨rfl, 0, rfl⟩

/-- What the table of powers of ten holds, number by number. -/
structure PowT (T : Nat → Int) (w : World) : Prop where
  cell : ∀ j, j < 1392 → w.cell? ⟨10, j, none⟩ = some (.int .u64 (T j))

set_option maxHeartbeats 1000000 in
set_option maxRecDepth 100000 in
theorem prescale_any (T : Nat → Int) (b k : Nat) (e lp : Int) (x0 x1 x2 : Int) (hk : k < 696) (hb10 : b ≠ 10) (w : World) (hT : PowT T w)
    (hb : w.heap[b]? = some (.cells #[.int .u64 x0, .int .u64 x1, .int .i64 x2] 139 (0, 0))) :
    Calls Tryz.prog 81 #[.pointer (some ⟨b, 0, none⟩), .int .i64 e, .int .i64 ((k : Int) - 348), .int .i64 lp] w fun en w' => en = .returned (.tuple #[]) ∧
      w' = ((w.setCell ⟨b, 0, none⟩ (.int .u64 (T (k * 2)))).setCell ⟨b, 1, none⟩ (.int .u64 (T (k * 2 + 1)))).setCell ⟨b, 2, none⟩ (.int .i64 (wrap64 (-(wrap64 (wrap64 (e + lp) + 3))))) := by
  have t0 := hT.cell (k * 2) (by omega)
  have t1 := hT.cell (k * 2 + 1) (by omega)
  have c0 : w.cell? ⟨b, 0, none⟩ = some (.int .u64 x0) := by simp [World.cell?, hb]
  have c1 : w.cell? ⟨b, 0 + 1, none⟩ = some (.int .u64 x1) := by simp [World.cell?, hb]
  have c2 : w.cell? ⟨b, 0 + 2, none⟩ = some (.int .i64 x2) := by simp [World.cell?, hb]
  have f0 : ∀ j, w.frozen? ⟨b, j, none⟩ = false := by intro j; simp [World.frozen?, hb]
  have hb10' : ¬ 10 = b := fun h => hb10 h.symm
  clear hb hT
  go_enter Tryz.func81, Tryz.ntmps81
  go_wp2
  go_end0
  exact ⟨rfl, rfl⟩

theorem bitLenAux_le : ∀ (f x : Nat), Lib.bitLenAux f x ≤ f
  | 0, x => by simp [Lib.bitLenAux]
  | f + 1, x => by
    have := bitLenAux_le f (x / 2)
    unfold Lib.bitLenAux
    split <;> omega
theorem bitLen_le (x : Nat) : Lib.bitLen x ≤ 64 := bitLenAux_le 64 x

set_option maxHeartbeats 2000000 in
set_option maxRecDepth 100000 in
/-- parseFloat64: what it answers hangs on its arguments alone. -/
theorem parseFloat64_any (T : Nat → Int) (d p sign : Int) (h0 : 0 ≤ d) (h1 : d < 18446744073709551616) (k : Nat) (hk : k < 696) (hp : p = (k : Int) - 348) : ∃ x er, (er = none ∨ er = some 1) ∧ ∀ w : World, PowT T w → 11 ≤ w.heap.size →
    Calls Tryz.prog 72 #[.int .u64 d, .int .i64 p, .int .u64 sign] w fun en w' => en = .returned (.tuple #[.float .f64 x, errW er]) ∧ Below w.heap.size w w' := by
  obtain ⟨b, hb⟩ : ∃ b : Nat, Lib.bitLen d.toNat = b := ⟨_, rfl⟩
  have hb64 : b ≤ 64 := by rw [← hb]; exact bitLen_le _
  have hL : ∀ w : World, Calls Tryz.prog 79 #[.int .u64 d] w fun e w' => e = .returned (.int .i64 b) ∧ w' = w := fun w => by
    have := Tryz.bits_Len64 d w h0 (by omega)
    rw [hb] at this
    exact this
  obtain ⟨lp, hlp⟩ : ∃ lp : Int, p * 108853 / 32768 = lp := ⟨_, rfl⟩
  have hP : ∀ w : World, Calls Tryz.prog 80 #[.int .i64 p] w fun e w' => e = .returned (.int .i64 lp) ∧ w' = w := fun w => by
    have := log2Pow10_any p (by omega) (by omega) w
    rw [hlp] at this
    exact this
  have hlp0 : -1200 ≤ lp := by omega
  have hlp1 : lp ≤ 1200 := by omega
  clear hb hlp
  subst hp
  obtain ⟨u, hu⟩ := uscale_any (IntKind.u64.wrap (d * 2 ^ (64 - b))) (T (k * 2)) (T (k * 2 + 1)) (-(min 1074 (53 - (b : Int) - lp) - (64 - (b : Int)) + lp + 3))
  obtain ⟨um, hum⟩ := unmin_any 9007199254740992
  obtain ⟨z, hz0, hz1, hz⟩ : ∃ z : Int, 0 ≤ z ∧ z ≤ 1 ∧ ∀ w : World, Calls Tryz.prog 83 #[.bool (decide (um ≤ u))] w fun e w' => e = .returned (.int .i64 z) ∧ w' = w :=
    ⟨b2i (decide (um ≤ u)), (b2i_bd _).1, (b2i_bd _).2, fun w => bool2_int _ w⟩
  obtain ⟨r, hr⟩ := round_any (Go.bits .or .u64 (u / 2 ^ z.toNat) (Go.bits .and .u64 u 1))
  obtain ⟨px, pe, hpe, hpk⟩ := pack64_any (Go.bits .or .u64 sign r) (-(min 1074 (53 - (b : Int) - lp) - z))
  by_cases cs : 64 ≤ -(min 1074 (53 - (b : Int) - lp) - (64 - (b : Int)) + lp + 3)
  · refine ⟨(Go.bits .or .u64 sign 0).toNat, none, .inl rfl, fun w hT hsz => ?_⟩
    have t0 := hT.cell (k * 2) (by omega)
    have t1 := hT.cell (k * 2 + 1) (by omega)
    have hne : ¬ 10 = w.heap.size := by omega
    have hne' : 10 < w.heap.size := by omega
    clear hu hum hz hr hpk
    go_enter Tryz.func72, Tryz.ntmps72
    go_wp2_with (first | (go_at_call 79; ((with_reducible refine (hL _).mono ?_); rintro e w' ⟨rfl, rfl⟩)) | (go_at_call 80; ((with_reducible refine (hP _).mono ?_); rintro e w' ⟨rfl, rfl⟩)) | (go_at_call 81; go_in))
    go_end0
    go_wp2
    go_ret2
    exact ⟨rfl, (Below.refl _ _).alloc (Nat.le_refl _) _⟩
  · refine ⟨px, pe, hpe, fun w hT hsz => ?_⟩
    have t0 := hT.cell (k * 2) (by omega)
    have t1 := hT.cell (k * 2 + 1) (by omega)
    have hne : ¬ 10 = w.heap.size := by omega
    have hne' : 10 < w.heap.size := by omega
    go_enter Tryz.func72, Tryz.ntmps72
    go_wp2_with (first | (go_at_call 79; ((with_reducible refine (hL _).mono ?_); rintro e w' ⟨rfl, rfl⟩)) | (go_at_call 80; ((with_reducible refine (hP _).mono ?_); rintro e w' ⟨rfl, rfl⟩)) | (go_at_call 81; go_in))
    go_end0
    go_wp2_with (first | (go_at_call 82; ((with_reducible refine (hu _ _ (heap_alloc_new _ _)).mono ?_); rintro e w' ⟨rfl, n1, rfl⟩)) | (go_at_call 84; ((with_reducible refine (hum _).mono ?_); rintro e w' ⟨rfl, rfl⟩)) | (go_at_call 83; ((with_reducible refine (hz _).mono ?_); rintro e w' ⟨rfl, rfl⟩)) | (go_at_call 86; ((with_reducible refine (hr _).mono ?_); rintro e w' ⟨rfl, rfl⟩)) | (go_at_call 89; ((with_reducible refine (hpk _).mono ?_); rintro e w' ⟨rfl, rfl⟩)))
    go_ret2
    exact ⟨rfl, below_drewN ((Below.refl _ _).alloc (Nat.le_refl _) _) _⟩

end Go.Proofs.YtfkpbkjokapijaaGreatFmt.PQ
