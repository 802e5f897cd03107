/- The mirrored readers always answer: commonPrefixLenIgnoreCase, special, zzTrimRight. -/
import Derived.Test.YtfkpbkjokapijaaGreatFmtPQ2
import Derived.Test.YtfkpbkjokapijaaGreatFmtPQ3
/- The mirrored readers always answer: underscoreOK. -/
namespace Go.Proofs.YtfkpbkjokapijaaGreatFmt.PQ
open Go.RowKit Go.Proofs.YtfkpbkjokapijaaGreatFmtW.PrintWords
set_option linter.unusedVariables false
set_option linter.unusedSimpArgs false

theorem w64_id {x : Int} (h0 : -9223372036854775808 ≤ x) (h1 : x < 9223372036854775808) : wrap64 x = x := by
  unfold wrap64; omega
theorem us_l0 (s : ByteArray) (hs : s.size ≤ 1000000) : ∀ (n k : Nat) (x3 x4 : Int) (x5 : Bool), 0 ≤ x4 → x4 ≤ 1000002 → (s.size : Int) ≤ x4 + n → 2 * n + 1 ≤ k → ∃ b, strconv_underscoreOK.l0 k s x3 x4 x5 = some b := by
  intro n
  induction n with
  | zero =>
    intro k x3 x4 x5 h0 h1 h2 hk
    obtain ⟨k, rfl⟩ : ∃ j, k = j + 1 := ⟨k - 1, by omega⟩
    rw [strconv_underscoreOK.l0, if_neg (by omega)]
    exact ⟨_, rfl⟩
  | succ n ih =>
    intro k x3 x4 x5 h0 h1 h2 hk
    obtain ⟨k, rfl⟩ : ∃ j, k = j + 2 := ⟨k - 2, by omega⟩
    have hj : ∀ b, x4 < s.size → ∃ r, strconv_underscoreOK.j5 (k + 1) s x3 x4 x5 b = some r := by
      intro b hlt
      rw [strconv_underscoreOK.j5]
      rw [w64_id (x := x4 + 1) (by omega) (by omega)]
      repeat' split
      all_goals first | exact ih _ _ _ _ (by omega) (by omega) (by omega) (by omega) | exact ⟨_, rfl⟩ | (exfalso; omega)
    rw [strconv_underscoreOK.l0]
    repeat' split
    all_goals first | exact hj _ ‹_› | exact ⟨_, rfl⟩ | (exfalso; omega)
theorem us_f (s : ByteArray) (hs : s.size ≤ 1000000) (k : Nat) (hk : 2 * s.size + 10 ≤ k) : ∃ b, strconv_underscoreOK.f k s = some b := by
  obtain ⟨k, rfl⟩ : ∃ j, k = j + 4 := ⟨k - 4, by omega⟩
  have h3 : ∀ (t : ByteArray) x3 x4 x5, t.size ≤ s.size → 0 ≤ x4 → x4 ≤ 2 → ∃ b, strconv_underscoreOK.j3 (k + 1) t x3 x4 x5 = some b := by
    intro t x3 x4 x5 ht h0 h1
    rw [strconv_underscoreOK.j3]
    exact us_l0 t (by omega) t.size k x3 x4 x5 h0 (by omega) (by omega) (by omega)
  have h2 : ∀ (t : ByteArray) x3 x5 b, t.size ≤ s.size → (b = true → 2 ≤ t.size) → ∃ r, strconv_underscoreOK.j2 (k + 2) t x3 0 x5 b = some r := by
    intro t x3 x5 b ht hb
    rw [strconv_underscoreOK.j2]
    split
    · have := hb ‹_›
      rw [if_pos (by omega)]
      exact h3 _ _ _ _ ht (by omega) (by omega)
    · exact h3 _ _ _ _ ht (by omega) (by omega)
  have h1 : ∀ (t : ByteArray) x3, t.size ≤ s.size → ∃ r, strconv_underscoreOK.j1 (k + 3) t x3 0 = some r := by
    intro t x3 ht
    rw [strconv_underscoreOK.j1]
    repeat' split
    all_goals first | (refine h2 _ _ _ _ ht ?_; intro hb; first | cases hb; done | omega) | (exfalso; omega)
  have h0 : ∀ b, (b = true → 1 ≤ s.size) → ∃ r, strconv_underscoreOK.j0 (k + 4) s 94 0 b = some r := by
    intro b hb
    rw [strconv_underscoreOK.j0]
    split
    · have := hb ‹_›
      rw [if_pos (by omega)]
      refine h1 _ _ ?_
      rw [ByteArray.size_extract]; omega
    · exact h1 _ _ (Nat.le_refl _)
  rw [strconv_underscoreOK.f]
  repeat' split
  all_goals first | (refine h0 _ ?_; intro hb; first | omega | cases hb) | (exfalso; omega)
end Go.Proofs.YtfkpbkjokapijaaGreatFmt.PQ
/- The mirrored readers always answer: readFloat. -/
namespace Go.Proofs.YtfkpbkjokapijaaGreatFmt.PQ
open Go.RowKit Go.Proofs.YtfkpbkjokapijaaGreatFmtW.PrintWords
set_option linter.unusedVariables false
set_option linter.unusedSimpArgs false

/-- It answers, and its numbers lie within bounds. -/
def RFok (s : ByteArray) (o : Option (Int × Int × Bool × Bool × Bool × Int × Bool)) : Prop :=
  ∃ m e n t h i ok, o = some (m, e, n, t, h, i, ok) ∧ 0 ≤ m ∧ m < 18446744073709551616 ∧ 0 ≤ i ∧ i ≤ s.size
theorem RFok.mk' {s : ByteArray} {m e : Int} {n t h : Bool} {i : Int} {ok : Bool} (m0 : 0 ≤ m) (m1 : m < 18446744073709551616) (i0 : 0 ≤ i) (i1 : i ≤ s.size) : RFok s (some (m, e, n, t, h, i, ok)) :=
  ⟨m, e, n, t, h, i, ok, rfl, m0, m1, i0, i1⟩

theorem rf_j15 (s : ByteArray) (hs : s.size ≤ 1000000) (k : Nat) (hk : 2 * s.size + 11 ≤ k) (x2 x3 : Int) (x4 x5 x6 : Bool) (x7 : Int) (x8 x9 : Bool) (x16 x17 : Int) (m0 : 0 ≤ x2) (m1 : x2 < 18446744073709551616) (i0 : 0 ≤ x7) (i1 : x7 ≤ s.size) :
    RFok s (strconv_readFloat.j15 k s x2 x3 x4 x5 x6 x7 x8 x9 x16 x17) := by
  obtain ⟨k, rfl⟩ : ∃ j, k = j + 1 := ⟨k - 1, by omega⟩
  have hsz : (s.extract 0 x7.toNat).size ≤ s.size := by rw [ByteArray.size_extract]; omega
  obtain ⟨b, hb⟩ := us_f (s.extract 0 x7.toNat) (by omega) k (by omega)
  rw [strconv_readFloat.j15]
  simp only [hb, Option.bind_some]
  repeat' split
  all_goals first | exact RFok.mk' m0 m1 i0 i1 | (exfalso; omega)
theorem rf_l1 (s : ByteArray) (hs : s.size ≤ 1000000) (x2 x3 : Int) (x4 x5 x6 : Bool) (x8 : Bool) (x16 x17 x19 : Int) (m0 : 0 ≤ x2) (m1 : x2 < 18446744073709551616) : ∀ (n k : Nat) (x7 : Int) (x9 : Bool) (x20 : Int), 0 ≤ x7 → x7 ≤ s.size → (s.size : Int) ≤ x7 + n → 2 * s.size + 2 * n + 13 ≤ k →
    RFok s (strconv_readFloat.l1 k s x2 x3 x4 x5 x6 x7 x8 x9 x16 x17 x19 x20) := by
  intro n
  induction n with
  | zero =>
    intro k x7 x9 x20 i0 i1 h2 hk
    obtain ⟨k, rfl⟩ : ∃ j, k = j + 2 := ⟨k - 2, by omega⟩
    rw [strconv_readFloat.l1, if_neg (by omega), strconv_readFloat.j14, if_neg (by decide)]
    exact rf_j15 s hs k (by omega) _ _ _ _ _ _ _ _ _ _ m0 m1 i0 i1
  | succ n ih =>
    intro k x7 x9 x20 i0 i1 h2 hk
    obtain ⟨k, rfl⟩ : ∃ j, k = j + 2 := ⟨k - 2, by omega⟩
    have hj : ∀ b, (b = true → x7 < s.size) → RFok s (strconv_readFloat.j14 (k + 1) s x2 x3 x4 x5 x6 x7 x8 x9 x16 x17 x19 x20 b) := by
      intro b hb
      rw [strconv_readFloat.j14]
      rw [w64_id (x := x7 + 1) (by omega) (by omega)]
      split
      · have hlt := hb ‹_›
        repeat' split
        all_goals first | exact ih _ _ _ _ (by omega) (by omega) (by omega) (by omega) | (exfalso; omega)
      · exact rf_j15 s hs k (by omega) _ _ _ _ _ _ _ _ _ _ m0 m1 i0 i1
    rw [strconv_readFloat.l1]
    repeat' split
    all_goals first | exact hj _ (fun _ => ‹_›) | exact hj _ (fun h => by cases h) | (exfalso; omega)
theorem rf_j9 (s : ByteArray) (hs : s.size ≤ 1000000) (k : Nat) (hk : 4 * s.size + 20 ≤ k) (x2 x3 : Int) (x4 x5 x6 : Bool) (x7 : Int) (x8 x9 : Bool) (x10 x12 x16 x17 : Int) (m0 : 0 ≤ x2) (m1 : x2 < 18446744073709551616) (i0 : 0 ≤ x7) (i1 : x7 ≤ s.size) :
    RFok s (strconv_readFloat.j9 k s x2 x3 x4 x5 x6 x7 x8 x9 x10 x12 x16 x17) := by
  obtain ⟨k, rfl⟩ : ∃ j, k = j + 5 := ⟨k - 5, by omega⟩
  have h12 : ∀ (x7 x19 : Int) (b : Bool), 0 ≤ x7 → x7 ≤ s.size → RFok s (strconv_readFloat.j12 (k + 2) s x2 x3 x4 x5 x6 x7 x8 x9 x16 x17 x19 b) := by
    intro x7 x19 b i0 i1
    rw [strconv_readFloat.j12]
    split
    · exact RFok.mk' m0 m1 i0 i1
    · exact rf_l1 s hs _ _ _ _ _ _ _ _ _ m0 m1 s.size _ _ _ _ i0 i1 (by omega) (by omega)
  have h11 : ∀ (x7 x19 : Int), 0 ≤ x7 → x7 ≤ s.size → RFok s (strconv_readFloat.j11 (k + 3) s x2 x3 x4 x5 x6 x7 x8 x9 x16 x17 x19) := by
    intro x7 x19 i0 i1
    rw [strconv_readFloat.j11]
    repeat' split
    all_goals first | exact h12 _ _ _ i0 i1 | (exfalso; omega)
  have h10 : ∀ b, (b = true → x7 < s.size) → RFok s (strconv_readFloat.j10 (k + 4) s x2 x3 x4 x5 x6 x7 x8 x9 x10 x16 x17 b) := by
    intro b hb
    rw [strconv_readFloat.j10]
    rw [w64_id (x := x7 + 1) (by omega) (by omega), w64_id (x := x7 + 1 + 1) (by omega) (by omega)]
    split
    · have hlt := hb ‹_›
      repeat' split
      all_goals first | exact RFok.mk' m0 m1 (by omega) (by omega) | exact h11 _ _ (by omega) (by omega) | (exfalso; omega)
    · split
      · exact RFok.mk' m0 m1 i0 i1
      · exact rf_j15 s hs _ (by omega) _ _ _ _ _ _ _ _ _ _ m0 m1 i0 i1
  rw [strconv_readFloat.j9]
  repeat' split
  all_goals first | exact h10 _ (fun _ => ‹_›) | exact h10 _ (fun h => by cases h) | (exfalso; omega)
theorem rf_j7 (s : ByteArray) (hs : s.size ≤ 1000000) (k : Nat) (hk : 4 * s.size + 22 ≤ k) (x2 x3 : Int) (x4 x5 x6 : Bool) (x7 : Int) (x8 x9 : Bool) (x10 x12 : Int) (x13 x14 : Bool) (x15 x16 x17 : Int) (m0 : 0 ≤ x2) (m1 : x2 < 18446744073709551616) (i0 : 0 ≤ x7) (i1 : x7 ≤ s.size) :
    RFok s (strconv_readFloat.j7 k s x2 x3 x4 x5 x6 x7 x8 x9 x10 x12 x13 x14 x15 x16 x17) := by
  obtain ⟨k, rfl⟩ : ∃ j, k = j + 2 := ⟨k - 2, by omega⟩
  have h8 : ∀ x17, RFok s (strconv_readFloat.j8 (k + 1) s x2 x3 x4 x5 x6 x7 x8 x9 x10 x12 x16 x17) := by
    intro x17
    rw [strconv_readFloat.j8]
    split
    · exact rf_j9 s hs _ (by omega) _ _ _ _ _ _ _ _ _ _ _ _ m0 m1 i0 i1
    · exact rf_j9 s hs _ (by omega) _ _ _ _ _ _ _ _ _ _ _ _ m0 m1 i0 i1
  rw [strconv_readFloat.j7]
  repeat' split
  all_goals first | exact h8 _ | exact RFok.mk' m0 m1 i0 i1
theorem u64w_bd (x : Int) : 0 ≤ IntKind.u64.wrap x ∧ IntKind.u64.wrap x < 18446744073709551616 := by
  rw [IntKind.wrap_u64]; omega
theorem rf_l0 (s : ByteArray) (hs : s.size ≤ 1000000) (x3 : Int) (x4 x6 x8 : Bool) (x10 x11 x12 : Int) : ∀ (n k : Nat) (x2 : Int) (x5 : Bool) (x7 : Int) (x9 x13 x14 : Bool) (x15 x16 x17 : Int), 0 ≤ x2 → x2 < 18446744073709551616 → 0 ≤ x7 → x7 ≤ s.size → (s.size : Int) ≤ x7 + n → 4 * s.size + 3 * n + 27 ≤ k →
    RFok s (strconv_readFloat.l0 k s x2 x3 x4 x5 x6 x7 x8 x9 x10 x11 x12 x13 x14 x15 x16 x17) := by
  intro n
  induction n with
  | zero =>
    intro k x2 x5 x7 x9 x13 x14 x15 x16 x17 m0 m1 i0 i1 h2 hk
    obtain ⟨k, rfl⟩ : ∃ j, k = j + 1 := ⟨k - 1, by omega⟩
    rw [strconv_readFloat.l0, if_neg (by omega)]
    exact rf_j7 s hs k (by omega) _ _ _ _ _ _ _ _ _ _ _ _ _ _ _ m0 m1 i0 i1
  | succ n ih =>
    intro k x2 x5 x7 x9 x13 x14 x15 x16 x17 m0 m1 i0 i1 h2 hk
    obtain ⟨k, rfl⟩ : ∃ j, k = j + 3 := ⟨k - 3, by omega⟩
    by_cases hlt : x7 < s.size
    · have hw : wrap64 (x7 + 1) = x7 + 1 := w64_id (by omega) (by omega)
      have h5 : ∀ (y14 : Bool) x18 b, RFok s (strconv_readFloat.j5 (k + 1) s x2 x3 x4 x5 x6 x7 x8 x9 x10 x11 x12 x13 y14 x15 x16 x17 x18 b) := by
        intro y14 x18 b
        rw [strconv_readFloat.j5, hw]
        repeat' split
        all_goals first | exact ih _ _ _ _ _ _ _ _ _ _ m0 m1 (by omega) (by omega) (by omega) (by omega) | exact ih _ _ _ _ _ _ _ _ _ _ (u64w_bd _).1 (u64w_bd _).2 (by omega) (by omega) (by omega) (by omega)
      have h6 : ∀ (y14 : Bool) x18 b, RFok s (strconv_readFloat.j6 (k + 1) s x2 x3 x4 x5 x6 x7 x8 x9 x10 x11 x12 x13 y14 x15 x16 x17 x18 b) := by
        intro y14 x18 b
        rw [strconv_readFloat.j6, hw]
        repeat' split
        all_goals first | exact ih _ _ _ _ _ _ _ _ _ _ m0 m1 (by omega) (by omega) (by omega) (by omega) | exact ih _ _ _ _ _ _ _ _ _ _ (u64w_bd _).1 (u64w_bd _).2 (by omega) (by omega) (by omega) (by omega) | exact rf_j7 s hs _ (by omega) _ _ _ _ _ _ _ _ _ _ _ _ _ _ _ m0 m1 i0 i1
      have h4 : ∀ (y14 : Bool) x18 b, RFok s (strconv_readFloat.j4 (k + 2) s x2 x3 x4 x5 x6 x7 x8 x9 x10 x11 x12 x13 y14 x15 x16 x17 x18 b) := by
        intro y14 x18 b
        rw [strconv_readFloat.j4]
        repeat' split
        all_goals first | exact h5 _ _ _ | exact h6 _ _ _
      rw [strconv_readFloat.l0, hw]
      repeat' split
      all_goals first | exact h4 _ _ _ | exact ih _ _ _ _ _ _ _ _ _ _ m0 m1 (by omega) (by omega) (by omega) (by omega) | exact rf_j7 s hs _ (by omega) _ _ _ _ _ _ _ _ _ _ _ _ _ _ _ m0 m1 i0 i1 | (exfalso; omega)
    · rw [strconv_readFloat.l0, if_neg hlt]
      exact rf_j7 s hs _ (by omega) _ _ _ _ _ _ _ _ _ _ _ _ _ _ _ m0 m1 i0 i1
theorem rf_safe (s : ByteArray) (hs : s.size ≤ 1000000) : RFok s (strconv_readFloat.f (7 * s.size + 40) s) := by
  obtain ⟨k, hk⟩ : ∃ k, 7 * s.size + 40 = k + 3 := ⟨7 * s.size + 37, by omega⟩
  rw [hk]
  have h2 : ∀ x4 x6 (x7 x10 x11 x12 : Int), 0 ≤ x7 → x7 ≤ s.size → RFok s (strconv_readFloat.j2 (k + 1) s 0 0 x4 false x6 x7 false false x10 x11 x12) := by
    intro x4 x6 x7 x10 x11 x12 i0 i1
    rw [strconv_readFloat.j2]
    exact rf_l0 s hs _ _ _ _ _ _ _ s.size _ _ _ _ _ _ _ _ _ _ (by omega) (by omega) i0 i1 (by omega) (by omega)
  have h1 : ∀ x4 (x7 : Int) b, 0 ≤ x7 → x7 ≤ s.size → (b = true → x7 + 2 ≤ s.size) → RFok s (strconv_readFloat.j1 (k + 2) s 0 0 x4 false false x7 false false 10 19 101 b) := by
    intro x4 x7 b i0 i1 hb
    rw [strconv_readFloat.j1]
    split
    · have := hb ‹_›
      rw [w64_id (x := x7 + 2) (by omega) (by omega)]
      exact h2 _ _ _ _ _ _ (by omega) (by omega)
    · exact h2 _ _ _ _ _ _ i0 i1
  have h0 : ∀ x4 (x7 : Int), 0 ≤ x7 → x7 ≤ s.size → RFok s (strconv_readFloat.j0 (k + 3) s 0 0 x4 false false x7 false false) := by
    intro x4 x7 i0 i1
    rw [strconv_readFloat.j0]
    rw [w64_id (x := x7 + 2) (by omega) (by omega), w64_id (x := x7 + 1) (by omega) (by omega)]
    repeat' split
    all_goals first | exact h1 _ _ _ i0 i1 (fun _ => by omega) | exact h1 _ _ _ i0 i1 (fun h => by cases h) | (exfalso; omega)
  rw [strconv_readFloat.f]
  repeat' split
  all_goals first | exact RFok.mk' (by omega) (by omega) (by omega) (by omega) | exact h0 _ _ (by omega) (by omega) | (exfalso; omega)
end Go.Proofs.YtfkpbkjokapijaaGreatFmt.PQ
namespace Go.Proofs.YtfkpbkjokapijaaGreatFmt.PQ
open Go.RowKit Go.Proofs.YtfkpbkjokapijaaGreatFmtW.PrintWords Go.Proofs.YtfkpbkjokapijaaGreatFmtW.PrintMore
set_option linter.unusedVariables false
set_option linter.unusedSimpArgs false

theorem cp_l0 (s p : ByteArray) (hs : s.size ≤ 1000000) (x5 : Int) (h5s : x5 ≤ s.size) (h5p : x5 ≤ p.size) : ∀ (n k : Nat) (x6 : Int), 0 ≤ x6 → x6 ≤ 1000000 → x5 ≤ x6 + n → 2 * n + 1 ≤ k → ∃ r, strconv_commonPrefixLenIgnoreCase.l0 k s p x5 x6 = some r := by
  intro n
  induction n with
  | zero =>
    intro k x6 h0 h1 h2 hk
    obtain ⟨k, rfl⟩ : ∃ j, k = j + 1 := ⟨k - 1, by omega⟩
    rw [strconv_commonPrefixLenIgnoreCase.l0, if_neg (by omega)]
    exact ⟨_, rfl⟩
  | succ n ih =>
    intro k x6 h0 h1 h2 hk
    obtain ⟨k, rfl⟩ : ∃ j, k = j + 2 := ⟨k - 2, by omega⟩
    by_cases hlt : x6 < x5
    · have hj : ∀ x7 b, ∃ r, strconv_commonPrefixLenIgnoreCase.j1 (k + 1) s p x5 x6 x7 b = some r := by
        intro x7 b
        rw [strconv_commonPrefixLenIgnoreCase.j1, w64_id (x := x6 + 1) (by omega) (by omega)]
        repeat' split
        all_goals first | exact ih _ _ (by omega) (by omega) (by omega) (by omega) | exact ⟨_, rfl⟩ | (exfalso; omega)
      rw [strconv_commonPrefixLenIgnoreCase.l0]
      repeat' split
      all_goals first | exact hj _ _ | exact ⟨_, rfl⟩ | (exfalso; omega)
    · rw [strconv_commonPrefixLenIgnoreCase.l0, if_neg hlt]
      exact ⟨_, rfl⟩
theorem cp_f (s p : ByteArray) (hs : s.size ≤ 1000000) (k : Nat) (hk : 2 * s.size + 3 ≤ k) : ∃ r, strconv_commonPrefixLenIgnoreCase.f k s p = some r := by
  rw [strconv_commonPrefixLenIgnoreCase.f]
  refine cp_l0 s p hs _ ?_ ?_ s.size k 0 (by omega) (by omega) ?_ (by omega)
  · unfold mn; split <;> omega
  · unfold mn; split <;> omega
  · unfold mn; split <;> omega
theorem inf_f (x : Int) : ∃ r, strconv_inf.f x = some r := by unfold strconv_inf.f; split <;> exact ⟨_, rfl⟩
theorem sp_j4 (k : Nat) (x5 x6 x7 : Int) (b : Bool) : ∃ x n ok, strconv_special.j4 (k + 1) x5 x6 x7 b = some (x, n, ok) := by
  obtain ⟨r, hr⟩ := inf_f x5
  rw [strconv_special.j4]
  simp only [hr, Option.bind_some]
  repeat' split
  all_goals exact ⟨_, _, _, rfl⟩
theorem sp_j3 (s : ByteArray) (hs : s.size ≤ 1000000) (k : Nat) (hk : 2 * s.size + 5 ≤ k) (x5 x6 : Int) : ∃ x n ok, strconv_special.j3 k s x5 x6 = some (x, n, ok) := by
  obtain ⟨k, rfl⟩ : ∃ j, k = j + 2 := ⟨k - 2, by omega⟩
  obtain ⟨r, hr⟩ := cp_f s (⟨#[105, 110, 102, 105, 110, 105, 116, 121]⟩ : ByteArray) hs (k + 1) (by omega)
  rw [strconv_special.j3]
  simp only [hr, Option.bind_some]
  split
  · exact sp_j4 _ _ _ _ _
  · exact sp_j4 _ _ _ _ _
theorem special_safe (s : ByteArray) (hs : s.size ≤ 1000000) : ∃ x n ok, strconv_special.f (2 * s.size + 20) s = some (x, n, ok) := by
  obtain ⟨k, hk⟩ : ∃ k, 2 * s.size + 20 = k + 3 := ⟨2 * s.size + 17, by omega⟩
  rw [hk]
  have h2 : ∀ b, ∃ x n ok, strconv_special.j2 (k + 1) s b = some (x, n, ok) := by
    intro b
    obtain ⟨r, hr⟩ := cp_f s (⟨#[110, 97, 110]⟩ : ByteArray) hs k (by omega)
    rw [strconv_special.j2]
    simp only [hr, Option.bind_some, strconv_nan.f]
    repeat' split
    all_goals exact ⟨_, _, _, rfl⟩
  have h1 : ∀ x5 x6 x12 b, ∃ x n ok, strconv_special.j1 (k + 2) s x5 x6 x12 b = some (x, n, ok) := by
    intro x5 x6 x12 b
    rw [strconv_special.j1]
    repeat' split
    all_goals first | exact sp_j3 s hs _ (by omega) _ _ | exact h2 _
  have h0 : ∀ x5 x6 x12 b, 1 ≤ s.size → ∃ x n ok, strconv_special.j0 (k + 3) s x5 x6 x12 b = some (x, n, ok) := by
    intro x5 x6 x12 b h
    have he : (s.extract 1 s.size).size ≤ s.size := by rw [ByteArray.size_extract]; omega
    rw [strconv_special.j0]
    repeat' split
    all_goals first | exact h1 _ _ _ _ | exact sp_j3 _ (by omega) _ (by omega) _ _ | (exfalso; omega)
  rw [strconv_special.f]
  repeat' split
  all_goals first | exact ⟨_, _, _, rfl⟩ | exact h0 _ _ _ _ (by omega) | (exfalso; omega)
end Go.Proofs.YtfkpbkjokapijaaGreatFmt.PQ
