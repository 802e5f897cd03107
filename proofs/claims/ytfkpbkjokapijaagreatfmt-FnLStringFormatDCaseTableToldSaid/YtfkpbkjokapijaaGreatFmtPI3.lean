/- strconv.ParseInt at base 0: whether it errs hangs on the text alone. -/
import Derived.Test.YtfkpbkjokapijaaGreatFmtPI2
import Derived.Test.YtfkpbkjokapijaaGreatFmtPF
namespace Go.Proofs.YtfkpbkjokapijaaGreatFmt.PQ
open Go.RowKit Go.Proofs.YtfkpbkjokapijaaGreatFmtW.PrintWords
set_option linter.unusedVariables false
set_option linter.unusedSimpArgs false

theorem pi32_any (s : ByteArray) (hs : s.size ≤ 1000000) : ∃ er', (er' = none ∨ er' = some 1 ∨ er' = some 2) ∧ ∀ w : World, Calls Tryz.prog 32 #[.string s, .int .i64 0, .int .i64 64] w fun en w' => (∃ v, en = .returned (.tuple #[.int .i64 v, errW er'])) ∧ Below w.heap.size w w' := by
  by_cases h0 : s.size = 0
  · exact ⟨some 2, .inr (.inr rfl), fun w => pi_empty s (ByteArray.size_eq_zero_iff.mp h0) w⟩
  obtain ⟨t, neg, ht, hsign⟩ : ∃ (t : ByteArray) (neg : Bool), t.size ≤ s.size ∧ (bt s 0 = 43 ∧ t = s.extract 1 s.size ∧ neg = false ∨ bt s 0 = 45 ∧ t = s.extract 1 s.size ∧ neg = true ∨ bt s 0 ≠ 43 ∧ bt s 0 ≠ 45 ∧ t = s ∧ neg = false) := by
    by_cases h1 : bt s 0 = 43
    · exact ⟨_, _, by rw [ByteArray.size_extract]; omega, .inl ⟨h1, rfl, rfl⟩⟩
    · by_cases h2 : bt s 0 = 45
      · exact ⟨_, _, by rw [ByteArray.size_extract]; omega, .inr (.inl ⟨h2, rfl, rfl⟩)⟩
      · exact ⟨s, _, Nat.le_refl _, .inr (.inr ⟨h1, h2, rfl, rfl⟩)⟩
  obtain ⟨v, er, her, v0, v1, H⟩ := pu_any t (by omega)
  exact pi_walk s t (by omega) neg hsign v er her v0 v1 H
theorem pi19_any (s : ByteArray) (hs : s.size ≤ 1000000) : ∃ ok : Bool, ∀ w : World, Errs w → Calls Tryz.prog 19 #[.string s, .int .i64 0, .int .i64 64] w fun en w' => (∃ v ev, en = .returned (.tuple #[.int .i64 v, ev]) ∧ evOk ok ev) ∧ Below w.heap.size w w' := by
  obtain ⟨er, her, H⟩ := pi32_any s hs
  cases er with
  | none =>
    rw [errW_none] at H
    replace H := Aside0.mk H
    refine ⟨true, fun w hE => ?_⟩
    go_enter Tryz.func19, Tryz.ntmps19
    go_wp2_with (first | (go_at_call 32; ((with_reducible refine (H.out _).mono ?_); rintro e w' ⟨⟨x, rfl⟩, hB⟩)))
    go_ret2
    exact ⟨⟨_, _, rfl, rfl⟩, hB⟩
  | some c =>
    have hc : c = 1 ∨ c = 2 := by
      rcases her with h | h | h
      · cases h
      · exact .inl (Option.some.inj h)
      · exact .inr (Option.some.inj h)
    rw [errW_some] at H
    replace H := Aside0.mk H
    replace hc := Aside0.mk hc
    refine ⟨false, fun w hE => ?_⟩
    clear her
    go_enter Tryz.func19, Tryz.ntmps19
    go_wp2_with (first | (go_at_call 32; ((with_reducible refine (H.out _).mono ?_); rintro e w' ⟨⟨x, rfl⟩, hB⟩)) | (go_at_call 33; ((with_reducible refine (toError_any _ _ _ _ c hc.out hs _ (hE.below hB)).mono ?_); rintro e w2 ⟨⟨p, rfl⟩, hB2⟩)))
    go_ret2
    exact ⟨⟨_, _, rfl, _, rfl⟩, below_then hB hB.size hB2⟩
end Go.Proofs.YtfkpbkjokapijaaGreatFmt.PQ
