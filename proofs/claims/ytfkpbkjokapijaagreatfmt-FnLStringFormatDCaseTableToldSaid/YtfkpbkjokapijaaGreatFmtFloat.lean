/- atof64exact ends, and whether it settles is the same in every memory. -/
import Derived.Test.YtfkpbkjokapijaaGreatFmtPQ0
import Derived.WalkSpells
import Derived.WalkLawsBesides
import Derived.Laws.BitsAllLaws
import Derived.Laws.FloatArith
import Derived.Deep.QuietTactic
import Derived.BigQuiet
import Derived.Outline
namespace Go.Proofs.YtfkpbkjokapijaaGreatFmt.PQ
open Go.RowKit Go.Proofs.YtfkpbkjokapijaaGreatFmtW.PrintWords
set_option linter.unusedVariables false
set_option linter.unusedSimpArgs false

@[go_sem] theorem unary_negf (b : Nat) : Op.unary .neg (.float .f64 b) = pure (.float .f64 (Op.negFloat .f64 b)) := rfl

/-- No NaN. -/
def NN (x : Nat) : Prop := x % 9223372036854775808 ≤ 9218868437227405312
theorem NN.nearest (s : Bool) (m : Nat) (p : Int) : NN (Ieee.double.nearest s m p) := by
  have w0 : Ieee.double.signWeight = 9223372036854775808 := by decide
  have w1 : Ieee.double.infRung = 9218868437227405312 := by decide
  have key : ∀ r, r ≤ 9218868437227405312 → NN (Ieee.double.word s r) := by
    intro r hr
    unfold NN Ieee.Format.word
    rw [w0]
    split <;> omega
  unfold Ieee.Format.nearest
  dsimp only
  split
  · exact key _ (by omega)
  · exact key _ (by rw [w1]; exact Nat.min_le_right _ _)
theorem NN.write_number (s : Bool) (m : Nat) (p : Int) : NN (Ieee.double.write (.number s m p)) := NN.nearest s m p
theorem NN.write_inf (s : Bool) : NN (Ieee.double.write (.infinity s)) := by cases s <;> (unfold NN; decide)
theorem NN.read {x : Nat} (h : NN x) : (∃ s m p, Ieee.double.read x = .number s m p) ∨ ∃ s, Ieee.double.read x = .infinity s := by
  have w0 : Ieee.double.signWeight = 9223372036854775808 := by decide
  have w1 : Ieee.double.infRung = 9218868437227405312 := by decide
  unfold NN at h
  unfold Ieee.Format.read
  dsimp only
  rw [w0, w1]
  split
  · exact .inl ⟨_, _, _, rfl⟩
  · split
    · exact .inl ⟨_, _, _, rfl⟩
    · split
      · exact .inr ⟨_, rfl⟩
      · omega
theorem NN.mul {x T : Nat} (h : NN x) (hT : ∃ s n j, Ieee.double.read T = .number s n j ∧ n ≠ 0) : ∃ r, floatBits .mul .f64 x T = some r ∧ NN r := by
  obtain ⟨t, n, j, ht, hn⟩ := hT
  show ∃ r, ((Ieee.double.read x).product (Ieee.double.read T)).map Ieee.double.write = some r ∧ NN r
  rw [ht]
  rcases h.read with ⟨s, m, p, hx⟩ | ⟨s, hx⟩
  · rw [hx]; exact ⟨_, rfl, NN.nearest _ _ _⟩
  · rw [hx]
    simp only [Ieee.Datum.product, hn, if_false, Option.map_some]
    exact ⟨_, rfl, NN.write_inf _⟩
theorem NN.quo {x T : Nat} (h : NN x) (hT : ∃ s n j, Ieee.double.read T = .number s n j ∧ n ≠ 0) : ∃ r, floatBits .quo .f64 x T = some r ∧ NN r := by
  obtain ⟨t, n, j, ht, hn⟩ := hT
  show ∃ r, ((Ieee.double.read x).quotient (Ieee.double.fractionBits + 2) (Ieee.double.read T)).map Ieee.double.write = some r ∧ NN r
  rw [ht]
  rcases h.read with ⟨s, m, p, hx⟩ | ⟨s, hx⟩
  · rw [hx]
    simp only [Ieee.Datum.quotient, hn, if_false, Option.map_some]
    exact ⟨_, rfl, NN.write_number _ _ _⟩
  · rw [hx]
    exact ⟨_, rfl, NN.write_inf _⟩
theorem NN.neg {x : Nat} (h : NN x) : NN (Op.negFloat .f64 x) := by
  unfold NN at *
  show (x ^^^ 2 ^ 63) % 2 ^ 63 ≤ _
  rw [Nat.xor_mod_two_pow]
  simpa using h
theorem NN.ofInt (n : Int) : NN (floatOfInt .f64 n) := NN.write_number _ _ _

/-- The table of exact powers of ten. -/
def FT (j : Nat) : Nat := #[4607182418800017408, 4621819117588971520, 4636737291354636288, 4652007308841189376, 4666723172467343360, 4681608360884174848, 4696837146684686336, 4711630319722168320, 4726483295884279808, 4741671816366391296, 4756540486875873280, 4771362005757984768, 4786511204640096256, 4801453603149578240, 4816244402031689728, 4831355200913801216, 4846369599423283200, 4861130398305394688, 4876203697187506176, 4891288408196988160, 4906019910204099648, 4921056587992461136, 4936209963552724370].getD j 4607182418800017408
theorem FT_num (j : Nat) (h : j < 23) : ∃ s n k, Ieee.double.read (FT j) = .number s n k ∧ n ≠ 0 := by
  have : ∀ j : Fin 23, (match Ieee.double.read (FT j.val) with | .number _ n _ => n != 0 | _ => false) = true := by decide
  have := this ⟨j, h⟩
  dsimp only at this
  split at this
  · rename_i s n k e
    exact ⟨s, n, k, e, by simpa using this⟩
  · cases this
structure F10 (w : World) : Prop where
  info : w.cell? ⟨6, 0, none⟩ = some (.int .u64 52)
  tab : ∃ b bo, w.cell? ⟨9, 0, none⟩ = some (.slice (some ⟨b, bo, none⟩) 23 23) ∧ ∀ j, j < 23 → w.cell? ⟨b, bo + j, none⟩ = some (.float .f64 (FT j))


/-- The two tests against 1e15. -/
def Far (f : Nat) : Bool := (FloatKind.f64.format.order f 4831355200913801216 == some Ordering.gt) || (FloatKind.f64.format.order f 14054727237768577024 == some Ordering.lt)

set_option maxHeartbeats 2000000 in
set_option maxRecDepth 100000 in
theorem exact_a (d : Int) (neg : Bool) (h0 : 0 ≤ d) (h1 : d < 4503599627370496) (k : Nat) (hk : k < 23) (hk0 : 0 < k) : ∃ ok : Bool, ∀ w : World, F10 w →
    Calls Tryz.prog 71 #[.int .u64 d, .int .i64 k, .bool neg] w fun en w' => (∃ x, en = .returned (.tuple #[.float .f64 x, .bool ok])) ∧ ∃ n, w' = w.drewN n := by
  obtain ⟨f0, hf0⟩ : ∃ f, floatOfInt .f64 d = f := ⟨_, rfl⟩
  have n0 : NN f0 := hf0 ▸ NN.ofInt d
  have hd : (d / 4503599627370496 != 0) = false := by simp only [bne_eq_false_iff_eq]; omega
  cases neg
  · obtain ⟨r, hr, nr⟩ := NN.mul n0 (FT_num k hk)
    by_cases g : FloatKind.f64.format.order f0 4831355200913801216 = some Ordering.gt
    · refine ⟨false, fun w hw => ?_⟩
      have c0 := hw.info
      have g' : (FloatKind.f64.format.order f0 4831355200913801216 == some Ordering.gt) = true := beq_iff_eq.mpr g
      go_enter Tryz.func71, Tryz.ntmps71
      go_wp2
      go_ret2
      exact ⟨⟨_, rfl⟩, 0, rfl⟩
    · have g' : (FloatKind.f64.format.order f0 4831355200913801216 == some Ordering.gt) = false := beq_eq_false_iff_ne.mpr g
      by_cases l : FloatKind.f64.format.order f0 14054727237768577024 = some Ordering.lt
      · refine ⟨false, fun w hw => ?_⟩
        have c0 := hw.info
        have l' : (FloatKind.f64.format.order f0 14054727237768577024 == some Ordering.lt) = true := beq_iff_eq.mpr l
        go_enter Tryz.func71, Tryz.ntmps71
        go_wp2
        go_ret2
        exact ⟨⟨_, rfl⟩, 0, rfl⟩
      · refine ⟨true, fun w hw => ?_⟩
        have c0 := hw.info
        have l' : (FloatKind.f64.format.order f0 14054727237768577024 == some Ordering.lt) = false := beq_eq_false_iff_ne.mpr l
        obtain ⟨b, bo, hb, ht⟩ := hw.tab
        have ck := ht k hk
        have hm := run_float_arith (P := Tryz.prog) w .mul 28 .f64 f0 (FT k) r hr
        go_enter Tryz.func71, Tryz.ntmps71
        go_wp2
        go_ret2
        exact ⟨⟨_, rfl⟩, 0, rfl⟩
  · obtain ⟨f1, hf1⟩ : ∃ f, Op.negFloat .f64 f0 = f := ⟨_, rfl⟩
    have n1 : NN f1 := hf1 ▸ n0.neg
    obtain ⟨r, hr, nr⟩ := NN.mul n1 (FT_num k hk)
    by_cases g : FloatKind.f64.format.order f1 4831355200913801216 = some Ordering.gt
    · refine ⟨false, fun w hw => ?_⟩
      have c0 := hw.info
      have g' : (FloatKind.f64.format.order f1 4831355200913801216 == some Ordering.gt) = true := beq_iff_eq.mpr g
      go_enter Tryz.func71, Tryz.ntmps71
      go_wp2
      go_ret2
      exact ⟨⟨_, rfl⟩, 0, rfl⟩
    · have g' : (FloatKind.f64.format.order f1 4831355200913801216 == some Ordering.gt) = false := beq_eq_false_iff_ne.mpr g
      by_cases l : FloatKind.f64.format.order f1 14054727237768577024 = some Ordering.lt
      · refine ⟨false, fun w hw => ?_⟩
        have c0 := hw.info
        have l' : (FloatKind.f64.format.order f1 14054727237768577024 == some Ordering.lt) = true := beq_iff_eq.mpr l
        go_enter Tryz.func71, Tryz.ntmps71
        go_wp2
        go_ret2
        exact ⟨⟨_, rfl⟩, 0, rfl⟩
      · refine ⟨true, fun w hw => ?_⟩
        have c0 := hw.info
        have l' : (FloatKind.f64.format.order f1 14054727237768577024 == some Ordering.lt) = false := beq_eq_false_iff_ne.mpr l
        obtain ⟨b, bo, hb, ht⟩ := hw.tab
        have ck := ht k hk
        have hm := run_float_arith (P := Tryz.prog) w .mul 28 .f64 f1 (FT k) r hr
        go_enter Tryz.func71, Tryz.ntmps71
        go_wp2
        go_ret2
        exact ⟨⟨_, rfl⟩, 0, rfl⟩

set_option maxHeartbeats 2000000 in
set_option maxRecDepth 100000 in
theorem exact_b (d : Int) (neg : Bool) (h0 : 0 ≤ d) (h1 : d < 4503599627370496) (k : Nat) (hk : k < 16) (hk0 : 0 < k) : ∃ ok : Bool, ∀ w : World, F10 w →
    Calls Tryz.prog 71 #[.int .u64 d, .int .i64 ((k : Int) + 22), .bool neg] w fun en w' => (∃ x, en = .returned (.tuple #[.float .f64 x, .bool ok])) ∧ ∃ n, w' = w.drewN n := by
  obtain ⟨f0, hf0⟩ : ∃ f, floatOfInt .f64 d = f := ⟨_, rfl⟩
  have n0 : NN f0 := hf0 ▸ NN.ofInt d
  have hd : (d / 4503599627370496 != 0) = false := by simp only [bne_eq_false_iff_eq]; omega
  cases neg
  · obtain ⟨r, hr, nr⟩ := NN.mul n0 (FT_num k (by omega))
    obtain ⟨q, hq, nq⟩ := NN.mul nr (FT_num 22 (by omega))
    by_cases g : FloatKind.f64.format.order r 4831355200913801216 = some Ordering.gt
    · refine ⟨false, fun w hw => ?_⟩
      have c0 := hw.info
      obtain ⟨b, bo, hb, ht⟩ := hw.tab
      have ck := ht k (by omega)
      have hm := run_float_arith (P := Tryz.prog) w .mul 28 .f64 f0 (FT k) r hr
      have g' : (FloatKind.f64.format.order r 4831355200913801216 == some Ordering.gt) = true := beq_iff_eq.mpr g
      go_enter Tryz.func71, Tryz.ntmps71
      go_wp2
      go_ret2
      exact ⟨⟨_, rfl⟩, 0, rfl⟩
    · have g' : (FloatKind.f64.format.order r 4831355200913801216 == some Ordering.gt) = false := beq_eq_false_iff_ne.mpr g
      by_cases l : FloatKind.f64.format.order r 14054727237768577024 = some Ordering.lt
      · refine ⟨false, fun w hw => ?_⟩
        have c0 := hw.info
        obtain ⟨b, bo, hb, ht⟩ := hw.tab
        have ck := ht k (by omega)
        have hm := run_float_arith (P := Tryz.prog) w .mul 28 .f64 f0 (FT k) r hr
        have l' : (FloatKind.f64.format.order r 14054727237768577024 == some Ordering.lt) = true := beq_iff_eq.mpr l
        go_enter Tryz.func71, Tryz.ntmps71
        go_wp2
        go_ret2
        exact ⟨⟨_, rfl⟩, 0, rfl⟩
      · refine ⟨true, fun w hw => ?_⟩
        have c0 := hw.info
        obtain ⟨b, bo, hb, ht⟩ := hw.tab
        have ck := ht k (by omega)
        have hm := run_float_arith (P := Tryz.prog) w .mul 28 .f64 f0 (FT k) r hr
        have l' : (FloatKind.f64.format.order r 14054727237768577024 == some Ordering.lt) = false := beq_eq_false_iff_ne.mpr l
        have ck2 := ht 22 (by omega)
        have hm2 := run_float_arith (P := Tryz.prog) w .mul 28 .f64 r (FT 22) q hq
        go_enter Tryz.func71, Tryz.ntmps71
        go_wp2
        go_ret2
        exact ⟨⟨_, rfl⟩, 0, rfl⟩
  · obtain ⟨f1, hf1⟩ : ∃ f, Op.negFloat .f64 f0 = f := ⟨_, rfl⟩
    have n1 : NN f1 := hf1 ▸ n0.neg
    obtain ⟨r, hr, nr⟩ := NN.mul n1 (FT_num k (by omega))
    obtain ⟨q, hq, nq⟩ := NN.mul nr (FT_num 22 (by omega))
    by_cases g : FloatKind.f64.format.order r 4831355200913801216 = some Ordering.gt
    · refine ⟨false, fun w hw => ?_⟩
      have c0 := hw.info
      obtain ⟨b, bo, hb, ht⟩ := hw.tab
      have ck := ht k (by omega)
      have hm := run_float_arith (P := Tryz.prog) w .mul 28 .f64 f1 (FT k) r hr
      have g' : (FloatKind.f64.format.order r 4831355200913801216 == some Ordering.gt) = true := beq_iff_eq.mpr g
      go_enter Tryz.func71, Tryz.ntmps71
      go_wp2
      go_ret2
      exact ⟨⟨_, rfl⟩, 0, rfl⟩
    · have g' : (FloatKind.f64.format.order r 4831355200913801216 == some Ordering.gt) = false := beq_eq_false_iff_ne.mpr g
      by_cases l : FloatKind.f64.format.order r 14054727237768577024 = some Ordering.lt
      · refine ⟨false, fun w hw => ?_⟩
        have c0 := hw.info
        obtain ⟨b, bo, hb, ht⟩ := hw.tab
        have ck := ht k (by omega)
        have hm := run_float_arith (P := Tryz.prog) w .mul 28 .f64 f1 (FT k) r hr
        have l' : (FloatKind.f64.format.order r 14054727237768577024 == some Ordering.lt) = true := beq_iff_eq.mpr l
        go_enter Tryz.func71, Tryz.ntmps71
        go_wp2
        go_ret2
        exact ⟨⟨_, rfl⟩, 0, rfl⟩
      · refine ⟨true, fun w hw => ?_⟩
        have c0 := hw.info
        obtain ⟨b, bo, hb, ht⟩ := hw.tab
        have ck := ht k (by omega)
        have hm := run_float_arith (P := Tryz.prog) w .mul 28 .f64 f1 (FT k) r hr
        have l' : (FloatKind.f64.format.order r 14054727237768577024 == some Ordering.lt) = false := beq_eq_false_iff_ne.mpr l
        have ck2 := ht 22 (by omega)
        have hm2 := run_float_arith (P := Tryz.prog) w .mul 28 .f64 r (FT 22) q hq
        go_enter Tryz.func71, Tryz.ntmps71
        go_wp2
        go_ret2
        exact ⟨⟨_, rfl⟩, 0, rfl⟩

set_option maxHeartbeats 2000000 in
set_option maxRecDepth 100000 in
theorem exact_c (d : Int) (neg : Bool) (h0 : 0 ≤ d) (h1 : d < 4503599627370496) (k : Nat) (hk : k < 23) (hk0 : 0 < k) : ∃ ok : Bool, ∀ w : World, F10 w →
    Calls Tryz.prog 71 #[.int .u64 d, .int .i64 (-(k : Int)), .bool neg] w fun en w' => (∃ x, en = .returned (.tuple #[.float .f64 x, .bool ok])) ∧ ∃ n, w' = w.drewN n := by
  obtain ⟨f0, hf0⟩ : ∃ f, floatOfInt .f64 d = f := ⟨_, rfl⟩
  have n0 : NN f0 := hf0 ▸ NN.ofInt d
  have hd : (d / 4503599627370496 != 0) = false := by simp only [bne_eq_false_iff_eq]; omega
  cases neg
  · obtain ⟨r, hr, nr⟩ := NN.quo n0 (FT_num k hk)
    refine ⟨true, fun w hw => ?_⟩
    have c0 := hw.info
    obtain ⟨b, bo, hb, ht⟩ := hw.tab
    have ck := ht k hk
    have hm := run_float_arith (P := Tryz.prog) w .quo 28 .f64 f0 (FT k) r hr
    go_enter Tryz.func71, Tryz.ntmps71
    go_wp2
    go_ret2
    exact ⟨⟨_, rfl⟩, 0, rfl⟩
  · obtain ⟨f1, hf1⟩ : ∃ f, Op.negFloat .f64 f0 = f := ⟨_, rfl⟩
    have n1 : NN f1 := hf1 ▸ n0.neg
    obtain ⟨r, hr, nr⟩ := NN.quo n1 (FT_num k hk)
    refine ⟨true, fun w hw => ?_⟩
    have c0 := hw.info
    obtain ⟨b, bo, hb, ht⟩ := hw.tab
    have ck := ht k hk
    have hm := run_float_arith (P := Tryz.prog) w .quo 28 .f64 f1 (FT k) r hr
    go_enter Tryz.func71, Tryz.ntmps71
    go_wp2
    go_ret2
    exact ⟨⟨_, rfl⟩, 0, rfl⟩

set_option maxHeartbeats 2000000 in
set_option maxRecDepth 100000 in
theorem exact_d (d : Int) (neg : Bool) (h0 : 0 ≤ d) (h1 : d < 4503599627370496) (e : Int) (he : 37 < e) : ∃ ok : Bool, ∀ w : World, F10 w →
    Calls Tryz.prog 71 #[.int .u64 d, .int .i64 e, .bool neg] w fun en w' => (∃ x, en = .returned (.tuple #[.float .f64 x, .bool ok])) ∧ ∃ n, w' = w.drewN n := by
  obtain ⟨f0, hf0⟩ : ∃ f, floatOfInt .f64 d = f := ⟨_, rfl⟩
  have n0 : NN f0 := hf0 ▸ NN.ofInt d
  have hd : (d / 4503599627370496 != 0) = false := by simp only [bne_eq_false_iff_eq]; omega
  cases neg
  · refine ⟨false, fun w hw => ?_⟩
    have c0 := hw.info
    go_enter Tryz.func71, Tryz.ntmps71
    go_wp2
    go_ret2
    exact ⟨⟨_, rfl⟩, 0, rfl⟩
  · obtain ⟨f1, hf1⟩ : ∃ f, Op.negFloat .f64 f0 = f := ⟨_, rfl⟩
    have n1 : NN f1 := hf1 ▸ n0.neg
    refine ⟨false, fun w hw => ?_⟩
    have c0 := hw.info
    go_enter Tryz.func71, Tryz.ntmps71
    go_wp2
    go_ret2
    exact ⟨⟨_, rfl⟩, 0, rfl⟩

set_option maxHeartbeats 2000000 in
set_option maxRecDepth 100000 in
theorem exact_e (d : Int) (neg : Bool) (h0 : 0 ≤ d) (h1 : d < 4503599627370496) (e : Int) (he : e < -22) : ∃ ok : Bool, ∀ w : World, F10 w →
    Calls Tryz.prog 71 #[.int .u64 d, .int .i64 e, .bool neg] w fun en w' => (∃ x, en = .returned (.tuple #[.float .f64 x, .bool ok])) ∧ ∃ n, w' = w.drewN n := by
  obtain ⟨f0, hf0⟩ : ∃ f, floatOfInt .f64 d = f := ⟨_, rfl⟩
  have n0 : NN f0 := hf0 ▸ NN.ofInt d
  have hd : (d / 4503599627370496 != 0) = false := by simp only [bne_eq_false_iff_eq]; omega
  cases neg
  · refine ⟨false, fun w hw => ?_⟩
    have c0 := hw.info
    go_enter Tryz.func71, Tryz.ntmps71
    go_wp2
    go_ret2
    exact ⟨⟨_, rfl⟩, 0, rfl⟩
  · obtain ⟨f1, hf1⟩ : ∃ f, Op.negFloat .f64 f0 = f := ⟨_, rfl⟩
    have n1 : NN f1 := hf1 ▸ n0.neg
    refine ⟨false, fun w hw => ?_⟩
    have c0 := hw.info
    go_enter Tryz.func71, Tryz.ntmps71
    go_wp2
    go_ret2
    exact ⟨⟨_, rfl⟩, 0, rfl⟩

set_option maxHeartbeats 2000000 in
set_option maxRecDepth 100000 in
theorem exact_z (d : Int) (neg : Bool) (h0 : 0 ≤ d) (h1 : d < 4503599627370496)  : ∃ ok : Bool, ∀ w : World, F10 w →
    Calls Tryz.prog 71 #[.int .u64 d, .int .i64 0, .bool neg] w fun en w' => (∃ x, en = .returned (.tuple #[.float .f64 x, .bool ok])) ∧ ∃ n, w' = w.drewN n := by
  obtain ⟨f0, hf0⟩ : ∃ f, floatOfInt .f64 d = f := ⟨_, rfl⟩
  have n0 : NN f0 := hf0 ▸ NN.ofInt d
  have hd : (d / 4503599627370496 != 0) = false := by simp only [bne_eq_false_iff_eq]; omega
  cases neg
  · refine ⟨true, fun w hw => ?_⟩
    have c0 := hw.info
    go_enter Tryz.func71, Tryz.ntmps71
    go_wp2
    go_ret2
    exact ⟨⟨_, rfl⟩, 0, rfl⟩
  · obtain ⟨f1, hf1⟩ : ∃ f, Op.negFloat .f64 f0 = f := ⟨_, rfl⟩
    have n1 : NN f1 := hf1 ▸ n0.neg
    refine ⟨true, fun w hw => ?_⟩
    have c0 := hw.info
    go_enter Tryz.func71, Tryz.ntmps71
    go_wp2
    go_ret2
    exact ⟨⟨_, rfl⟩, 0, rfl⟩

set_option maxHeartbeats 2000000 in
set_option maxRecDepth 100000 in
/-- atof64exact: whether it settles hangs on its arguments alone. -/
theorem exact_any (d e : Int) (neg : Bool) (h0 : 0 ≤ d) : ∃ ok : Bool, ∀ w : World, F10 w →
    Calls Tryz.prog 71 #[.int .u64 d, .int .i64 e, .bool neg] w fun en w' => (∃ x, en = .returned (.tuple #[.float .f64 x, .bool ok])) ∧ ∃ n, w' = w.drewN n := by
  by_cases h1 : d < 4503599627370496
  · rcases Int.lt_trichotomy e 0 with h | rfl | h
    · by_cases g : e < -22
      · exact exact_e d neg h0 h1 e g
      · obtain ⟨k, rfl⟩ : ∃ k : Nat, e = -(k : Int) := ⟨(-e).toNat, by omega⟩
        exact exact_c d neg h0 h1 k (by omega) (by omega)
    · exact exact_z d neg h0 h1
    · by_cases g : 37 < e
      · exact exact_d d neg h0 h1 e g
      · by_cases g2 : e ≤ 22
        · obtain ⟨k, rfl⟩ : ∃ k : Nat, e = (k : Int) := ⟨e.toNat, by omega⟩
          exact exact_a d neg h0 h1 k (by omega) (by omega)
        · obtain ⟨k, rfl⟩ : ∃ k : Nat, e = (k : Int) + 22 := ⟨(e - 22).toNat, by omega⟩
          exact exact_b d neg h0 h1 k (by omega) (by omega)
  · refine ⟨false, fun w hw => ?_⟩
    have c0 := hw.info
    have hd : (d / 4503599627370496 != 0) = true := by simp only [bne_iff_ne, ne_eq]; omega
    go_enter Tryz.func71, Tryz.ntmps71
    go_wp2
    go_ret2
    exact ⟨⟨_, rfl⟩, 0, rfl⟩
end Go.Proofs.YtfkpbkjokapijaaGreatFmt.PQ
