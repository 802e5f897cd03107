/- What the right shift makes of the digits: the plain law. -/
import Derived.Test.YtfkpbkjokapijaaGreatFmtDec2
namespace Go.Proofs.YtfkpbkjokapijaaGreatFmt.PQ
open Go.RowKit Go.Proofs.YtfkpbkjokapijaaGreatFmtW.PrintWords
set_option linter.unusedVariables false
set_option linter.unusedSimpArgs false

/-- A number greater than nought, its digits in order. -/
structure D.Good (x : D) : Prop where
  ok : x.Ok
  pos : 0 < x.nd
  first : 49 ≤ x.c 0

def rn (c : Nat → Int) (nd : Nat) : Nat → Int
  | 0 => 0
  | r + 1 => rn c nd r * 10 + (if r < nd then c r - 48 else 0)

theorem rn_grow (c : Nat → Int) (nd : Nat) (h0 : 0 < nd) (hd : ∀ j, j < nd → 48 ≤ c j ∧ c j ≤ 57) (h1 : 49 ≤ c 0) : ∀ r, (10 : Int) ^ r ≤ rn c nd (r + 1)
  | 0 => by simp [rn, h0]; omega
  | r + 1 => by
    have ih := rn_grow c nd h0 hd h1 r
    rw [rn, Int.pow_succ]
    split
    · have := hd (r + 1) ‹_›; omega
    · omega
theorem rn_nonneg (c : Nat → Int) (nd : Nat) (hd : ∀ j, j < nd → 48 ≤ c j ∧ c j ≤ 57) : ∀ r, 0 ≤ rn c nd r
  | 0 => by simp [rn]
  | r + 1 => by
    have ih := rn_nonneg c nd hd r
    rw [rn]
    split
    · have := hd r ‹_›; omega
    · omega
theorem two_pow_le60 (k : Nat) (h : k ≤ 60) : (2 : Int) ^ k ≤ 1152921504606846976 := by
  have : (2 : Nat) ^ k ≤ 2 ^ 60 := Nat.pow_le_pow_right (by decide) h
  have e : (2 : Int) ^ k = ((2 ^ k : Nat) : Int) := by simp
  rw [e]; omega
theorem two_pow_ge (k : Nat) (h : 1 ≤ k) : (2 : Int) ≤ (2 : Int) ^ k := by
  have : (2 : Nat) ^ 1 ≤ 2 ^ k := Nat.pow_le_pow_right (by decide) h
  have e : (2 : Int) ^ k = ((2 ^ k : Nat) : Int) := by simp
  rw [e]; omega
theorem least_of (p : Nat → Prop) (n : Nat) (h : p n) : ∃ m, m ≤ n ∧ p m ∧ ∀ j, j < m → ¬ p j := by
  obtain ⟨m, hm, hl⟩ := exists_least ⟨n, h⟩
  exact ⟨m, hl n h, hm, fun j hj hp => by have := hl j hp; omega⟩
/-- How many digits are taken up before the first comes out. -/
theorem rn_stop (c : Nat → Int) (nd : Nat) (h0 : 0 < nd) (hd : ∀ j, j < nd → 48 ≤ c j ∧ c j ≤ 57) (h1 : 49 ≤ c 0) (P : Int) (p0 : 2 ≤ P) (p1 : P ≤ 1152921504606846976) :
    ∃ r, 1 ≤ r ∧ r ≤ 20 ∧ P ≤ rn c nd r ∧ rn c nd r < 10 * P ∧ (∀ j, j < r → rn c nd j < P) := by
  obtain ⟨r, hr, hp, hl⟩ := least_of (fun r => P ≤ rn c nd r) 20 (by
    have := rn_grow c nd h0 hd h1 19
    have e : (10 : Int) ^ 19 = 10000000000000000000 := by decide
    rw [e] at this
    show P ≤ rn c nd (19 + 1)
    omega)
  have r1 : 1 ≤ r := by
    rcases r with _ | r
    · simp only [rn] at hp; omega
    · omega
  obtain ⟨s, rfl⟩ : ∃ s, r = s + 1 := ⟨r - 1, by omega⟩
  have hs := hl s (by omega)
  refine ⟨s + 1, r1, hr, hp, ?_, fun j hj => by have := hl j hj; omega⟩
  rw [rn]
  split
  · have := hd s ‹_›; omega
  · omega

def s3 (P : Int) (r0 : Nat) (n0 : Int) (c0 : Nat → Int) : Nat → Int × (Nat → Int)
  | 0 => (n0, c0)
  | m + 1 => ((s3 P r0 n0 c0 m).1 % P * 10 + ((s3 P r0 n0 c0 m).2 (r0 + m) - 48), upd (s3 P r0 n0 c0 m).2 m ((s3 P r0 n0 c0 m).1 / P + 48))
theorem div_bd {n P : Int} (p0 : 2 ≤ P) (h0 : 0 ≤ n) (h1 : n < 10 * P) : 0 ≤ n / P ∧ n / P ≤ 9 := by
  refine ⟨Int.ediv_nonneg h0 (by omega), ?_⟩
  have : n / P < 10 := Int.ediv_lt_of_lt_mul (by omega) (by omega)
  omega
theorem div_pos' {n P : Int} (p0 : 2 ≤ P) (h0 : P ≤ n) : 1 ≤ n / P := by
  rw [Int.le_ediv_iff_mul_le (by omega)]; omega
theorem mod_bd (n : Int) {P : Int} (p0 : 2 ≤ P) : 0 ≤ n % P ∧ n % P < P := ⟨Int.emod_nonneg _ (by omega), Int.emod_lt_of_pos _ (by omega)⟩
theorem s3_inv {P : Int} (p0 : 2 ≤ P) {r0 nd : Nat} {n0 : Int} {c0 : Nat → Int} (hn : P ≤ n0) (hn1 : n0 < 10 * P) (hd : ∀ j, j < nd → 48 ≤ c0 j ∧ c0 j ≤ 57) : ∀ m, r0 + m ≤ nd →
    0 ≤ (s3 P r0 n0 c0 m).1 ∧ (s3 P r0 n0 c0 m).1 < 10 * P ∧ (∀ j, j < nd → 48 ≤ (s3 P r0 n0 c0 m).2 j ∧ (s3 P r0 n0 c0 m).2 j ≤ 57) ∧ (0 < m → 49 ≤ (s3 P r0 n0 c0 m).2 0 ∧ (s3 P r0 n0 c0 m).2 0 = n0 / P + 48) ∧ (m = 0 → P ≤ (s3 P r0 n0 c0 m).1)
  | 0, _ => ⟨by simp only [s3]; omega, by simp only [s3]; omega, hd, fun h => absurd h (by omega), fun _ => hn⟩
  | m + 1, hm => by
    obtain ⟨i0, i1, i2, i3, i4⟩ := s3_inv (r0 := r0) p0 hn hn1 hd m (by omega)
    rw [s3]
    generalize hS : s3 P r0 n0 c0 m = S at *
    obtain ⟨q0, q1⟩ := div_bd p0 i0 i1
    obtain ⟨m0, m1⟩ := mod_bd S.1 p0
    have := i2 (r0 + m) (by omega)
    refine ⟨by dsimp only; omega, by dsimp only; omega, fun j hj => ?_, fun _ => ?_, fun h => by omega⟩
    · dsimp only [upd]; split
      · omega
      · exact i2 j hj
    · dsimp only [upd]; split
      · next e =>
        subst e
        have h := div_pos' p0 (i4 rfl)
        simp only [s3] at hS
        subst hS
        exact ⟨by omega, rfl⟩
      · exact i3 (by omega)

structure S4 where
  n : Int
  w : Nat
  c : Nat → Int
  tr : Bool
def S4.step (P : Int) (s : S4) : S4 := if s.w < 800 then ⟨s.n % P * 10, s.w + 1, upd s.c s.w (s.n / P + 48), s.tr⟩ else ⟨s.n % P * 10, s.w, s.c, s.tr || decide (0 < s.n / P)⟩
def s4 (P : Int) (s : S4) : Nat → S4
  | 0 => s
  | j + 1 => (s4 P s j).step P
structure S4.Inv (P : Int) (s : S4) : Prop where
  n0 : 0 ≤ s.n
  n1 : s.n < 10 * P
  w8 : s.w ≤ 800
  dig : ∀ j, j < s.w → 48 ≤ s.c j ∧ s.c j ≤ 57
  fst : 0 < s.w → 49 ≤ s.c 0
  zero : s.w = 0 → P ≤ s.n
theorem S4.Inv.step {P : Int} (p0 : 2 ≤ P) {s : S4} (h : s.Inv P) : (s.step P).Inv P := by
  obtain ⟨q0, q1⟩ := div_bd p0 h.n0 h.n1
  obtain ⟨m0, m1⟩ := mod_bd s.n p0
  have w8 := h.w8
  unfold S4.step
  split
  · refine ⟨by dsimp only; omega, by dsimp only; omega, by dsimp only; omega, fun j hj => ?_, fun _ => ?_, fun e => by cases e⟩
    · dsimp only [upd] at *; split
      · omega
      · exact h.dig j (by omega)
    · dsimp only [upd] at *; split
      · next e =>
        have := div_pos' p0 (h.zero e.symm); omega
      · exact h.fst (by omega)
  · exact ⟨by dsimp only; omega, by dsimp only; omega, h.w8, h.dig, h.fst, fun e => absurd e (by dsimp only; omega)⟩
theorem s4_inv {P : Int} (p0 : 2 ≤ P) {s : S4} (h : s.Inv P) : ∀ j, (s4 P s j).Inv P
  | 0 => h
  | j + 1 => (s4_inv p0 h j).step p0
theorem step_n (P : Int) (s : S4) : (s.step P).n = s.n % P * 10 := by unfold S4.step; split <;> rfl
theorem s4_dvd (k : Nat) (s : S4) : ∀ j, j ≤ k → (2 : Int) ^ j ∣ (s4 (2 ^ k) s j).n
  | 0, _ => by simp
  | j + 1, h => by
    have ih := s4_dvd k s j (by omega)
    rw [s4, step_n]
    have hP : (2 : Int) ^ j ∣ 2 ^ k := ⟨2 ^ (k - j), by rw [← Int.pow_add]; congr 1; omega⟩
    have hm : (2 : Int) ^ j ∣ (s4 (2 ^ k) s j).n % 2 ^ k := by
      rw [Int.emod_def]
      exact Int.dvd_sub ih (Int.dvd_trans hP ⟨_, rfl⟩)
    obtain ⟨t, ht⟩ := hm
    rw [ht, Int.pow_succ]
    exact ⟨t * 5, by rw [Int.mul_assoc, Int.mul_assoc]; congr 1; omega⟩
theorem s4_stop (k : Nat) (s : S4) : ∃ j, j ≤ k + 1 ∧ (s4 (2 ^ k) s j).n = 0 ∧ ∀ i, i < j → (s4 (2 ^ k) s i).n ≠ 0 := by
  refine least_of (fun j => (s4 (2 ^ k) s j).n = 0) (k + 1) ?_
  show (s4 (2 ^ k) s (k + 1)).n = 0
  rw [s4, step_n, Int.emod_eq_zero_of_dvd (s4_dvd k s k (Nat.le_refl _))]
  rfl
end Go.Proofs.YtfkpbkjokapijaaGreatFmt.PQ
