/- The lifted law: every input, under the listed variables, fmt's text told. -/
import Derived.Test.YtfkpbkjokapijaaGreatFmtTop0
import Derived.Test.YtfkpbkjokapijaaGreatFmtLaw
import Derived.Test.YtfkpbkjokapijaaGreatFmtRune
import Derived.Test.YtfkpbkjokapijaaGreatFmtToldT
import Derived.Test.YtfkpbkjokapijaaGreatFmtFmD
import Derived.Test.YtfkpbkjokapijaaGreatFmtFmI
import Derived.Test.YtfkpbkjokapijaaGreatFmtFm8
import Derived.Test.YtfkpbkjokapijaaGreatFmtFmM
import Derived.ProofKit
import Derived.Lay
import Derived.LaidMore
import Derived.Stop.Joined
import Derived.Stop.JoinedAt
import Derived.Stop.JoinedTold
/- The law over every world in which the variables lie: it returns true. -/
namespace Go.Proofs.YtfkpbkjokapijaaGreatFmt.PQ
open Go.RowKit Go.Proofs.YtfkpbkjokapijaaGreatFmtW.PrintWords Go.Extern.Stop Go.Stop Go.Extern
set_option linter.unusedVariables false
set_option linter.unusedSimpArgs false

theorem padL_any (s : ByteArray) (hs : s.size ≤ 65536) (w : World) : Calls Tryz.prog 7 #[.string s, .int .i64 8] w fun e w' => e = .returned (.string ⟨(FmtText.blanks false 8 s.data.toList).toArray⟩) ∧ Below w.heap.size w w' :=
  n005_152_zzPadLeft.calls _ s 8 _ w (padL_f s (by omega))
theorem padR_any (s : ByteArray) (hs : s.size ≤ 65536) (w : World) : Calls Tryz.prog 8 #[.string s, .int .i64 8] w fun e w' => e = .returned (.string ⟨(FmtText.blanks true 8 s.data.toList).toArray⟩) ∧ Below w.heap.size w w' :=
  n005_152_zzPadRight.calls _ s 8 _ w (padR_f s (by omega))
theorem blanks_size (m : Bool) (s : ByteArray) (hs : s.size ≤ 65536) : (⟨(FmtText.blanks m 8 s.data.toList).toArray⟩ : ByteArray).size ≤ 1000000 := by
  have hb := FmtText.blanks_length_le m 8 s.data.toList
  rw [byt_len] at hb
  have e : (⟨(FmtText.blanks m 8 s.data.toList).toArray⟩ : ByteArray).size = (FmtText.blanks m 8 s.data.toList).length := by simp [ByteArray.size]
  omega
theorem fm_d (T : Nat → Int) (F : Interp) (s : ByteArray) (ok : Bool) (hP : PN T s ok) (R : ByteArray) (hR : ans F fS fD s ok = R) (hz : R.size ≤ 1000000) : FM T F ⟨#[37, 100]⟩ s R := by
  intro w blk hF hT hE harg
  refine fmt_d s R hz w (fun w1 hB => ?_) blk harg
  rw [← hR]
  exact value_any T F fS fD s ok false false 0 100 (.inl rfl) (.inl rfl) (.inl rfl) hP (fun w => text_S w) (fun w => text_D w) w1 (ans_bel hB hF) (hT.below hB) (hE.below hB)
theorem fm_i (T : Nat → Int) (F : Interp) (s : ByteArray) (ok : Bool) (hP : PN T s ok) (R : ByteArray) (hR : ans F fS fD s ok = R) (hz : R.size ≤ 1000000) : FM T F ⟨#[37, 105]⟩ s R := by
  intro w blk hF hT hE harg
  refine fmt_i s R hz w (fun w1 hB => ?_) blk harg
  rw [← hR]
  exact value_any T F fS fD s ok false false 0 105 (.inr rfl) (.inl rfl) (.inl rfl) hP (fun w => text_S w) (fun w => text_D w) w1 (ans_bel hB hF) (hT.below hB) (hE.below hB)
theorem fm_8 (T : Nat → Int) (F : Interp) (s : ByteArray) (ok : Bool) (hP : PN T s ok) (R : ByteArray) (hR : ans F f8S f8D s ok = R) (hz : R.size ≤ 1000000) : FM T F ⟨#[37, 56, 100]⟩ s R := by
  intro w blk hF hT hE harg
  refine fmt_8 s R hz w (fun w1 hB => ?_) blk harg
  rw [← hR]
  exact value_any T F f8S f8D s ok false true 8 100 (.inl rfl) (.inr (.inl rfl)) (.inr (.inl rfl)) hP (fun w => text_8S w) (fun w => text_8D w) w1 (ans_bel hB hF) (hT.below hB) (hE.below hB)
theorem fm_m (T : Nat → Int) (F : Interp) (s : ByteArray) (ok : Bool) (hP : PN T s ok) (R : ByteArray) (hR : ans F fm8S fm8D s ok = R) (hz : R.size ≤ 1000000) : FM T F ⟨#[37, 45, 56, 100]⟩ s R := by
  intro w blk hF hT hE harg
  refine fmt_m s R hz w (fun w1 hB => ?_) blk harg
  rw [← hR]
  exact value_any T F fm8S fm8D s ok true true 8 100 (.inl rfl) (.inr (.inr rfl)) (.inr (.inr rfl)) hP (fun w => text_m8S w) (fun w => text_m8D w) w1 (ans_bel hB hF) (hT.below hB) (hE.below hB)

/-- The law, in every world in which the variables lie. -/
theorem law_true (F : Interp) (s : ByteArray) (w : World) (hF : F.told.answers w.tape) (hT : Tabs P10 w) (hE : Errs w) : Calls Tryz.prog 3 #[.string s] w fun e w' => e = .returned (.bool true) ∧ Below w.heap.size w w' := by
  by_cases h1 : 1048576 < s.size
  · exact law_huge s h1 w
  by_cases h2 : 65536 < s.size
  · exact law_big s (by omega) h2 w
  have hs : s.size ≤ 65536 := by omega
  obtain ⟨ok, hP⟩ := pn10_any P10 s (by omega)
  cases ok with
  | true =>
    exact law_yes P10 F.told s _ _ hs (fm_d P10 F.told s true hP s (told_S F s (by omega)) (by omega)) (fm_i P10 F.told s true hP s (told_S F s (by omega)) (by omega)) (fm_8 P10 F.told s true hP _ (told_8S F s (by omega)) (blanks_size false s hs)) (fm_m P10 F.told s true hP _ (told_m8S F s (by omega)) (blanks_size true s hs)) hP
      (fun w => padL_any s hs w) (fun w => padR_any s hs w) w hF hT hE
  | false =>
    exact law_no P10 F.told s hs (fm_d P10 F.told s false hP _ (told_D F) (by decide)) (fm_i P10 F.told s false hP _ (told_D F) (by decide)) (fm_8 P10 F.told s false hP _ (told_8D F) (by decide)) (fm_m P10 F.told s false hP _ (told_m8D F) (by decide)) hP w hF hT hE
end Go.Proofs.YtfkpbkjokapijaaGreatFmt.PQ
namespace Go.Proofs.YtfkpbkjokapijaaGreatFmt
set_option linter.unusedVariables false
set_option linter.unusedSimpArgs false
open Go.ChangeShapes Go.WideShapes Go.ChangeAt Go.RowKit Go.Kit Go.Lib
open Go.ChangeMaps (open_string shut_string)
open Go.Extern.Stop Go.Stop Go.Extern

theorem ownK : ownKnob Tryz.prog.godebug = none := by kernel_rfl
theorem no_handles : (Rows.fnLStringFormatDCaseTableRow.laid.filter fun x => x.2.handleName?.isSome) = [] := by kernel_rfl
theorem laid_plain (W : World) (h : laidMetH Tryz.prog Rows.fnLStringFormatDCaseTableRow.laid W) : laidMet Tryz.prog Rows.fnLStringFormatDCaseTableRow.laid W := by
  unfold laidMetH at h
  rw [no_handles] at h
  exact h
theorem laid_back (W : World) (h : laidMet Tryz.prog Rows.fnLStringFormatDCaseTableRow.laid W) : laidMetH Tryz.prog Rows.fnLStringFormatDCaseTableRow.laid W := by
  unfold laidMetH
  rw [no_handles]
  exact h
set_option maxRecDepth 1000000 in
set_option maxHeartbeats 4000000 in
theorem laid_start (os : Os) (args : Array Value) : laidMet Tryz.prog Rows.fnLStringFormatDCaseTableRow.laid ((World.laidAll Tryz.prog os Rows.fnLStringFormatDCaseTableRow.laid).forCall (fun _ _ => 0) ⟨#[], args, []⟩).memory :=
  laidMet_laidAll _ (by kernel_rfl) (by kernel_rfl)
set_option maxRecDepth 1000000 in
set_option maxHeartbeats 4000000 in
theorem shape_start (os : Os) : ((World.laidAll Tryz.prog os Rows.fnLStringFormatDCaseTableRow.laid).forCall (fun _ _ => 0) ⟨#[], #[.string ⟨#[]⟩], []⟩).Shaped Tryz.prog :=
  World.shaped_of_ZipB (by kernel_rfl) (by kernel_rfl)
set_option maxRecDepth 1000000 in
set_option maxHeartbeats 4000000 in
theorem t_lifted (os : Os) (started : os.Started) (H : Type) (enc : TypeId × Value → H) :
    ReturnsInTold none {} Tryz.checked os 3 .any Input.okWide ((OpenSpec.ofChange Rows.fnLStringFormatDCaseTableSpec).preRow enc Tryz.prog Tryz.f3 [] false Rows.fnLStringFormatDCaseTableRow.laid) (fun F => ((OpenSpec.ofChange Rows.fnLStringFormatDCaseTableSpec).at F).post enc Tryz.prog Tryz.f3 false true false false) (aloneAtReturn Tryz.prog) nothingAlways := by
  refine returnsInTold_of_row (C := Tryz.checked) (s := OpenSpec.ofChange Rows.fnLStringFormatDCaseTableSpec) (by kernel_rfl) ownK started (by kernel_rfl) Tryz.func3
    (fun F => ?_) ?_
  · have hok : Input.okWideB Tryz.checked.prog ((World.laidAll Tryz.prog os Rows.fnLStringFormatDCaseTableRow.laid).forCall (fun _ _ => 0) ⟨#[], #[.string ⟨#[]⟩], []⟩) 3 ⟨#[], #[.string ⟨#[]⟩], []⟩ = true := by kernel_rfl
    exact ⟨World.laidAll Tryz.prog os Rows.fnLStringFormatDCaseTableRow.laid, F.over fun _ _ => 0, ⟨#[], #[.string ⟨#[]⟩], []⟩, World.laidAll_os _ _ _, shape_start os, (Input.okWide_of_okWideB (base := 0) hok).1, (Input.okWide_of_okWideB hok).2,
      OpenSpec.preRow_of_B rfl 8 (by kernel_rfl) (by kernel_rfl) (laid_back _ (laid_start os _)), by
        simp only [Assume.holds]
        exact ⟨by simp, by simp, (fun h => by cases h), by simp, by simp⟩, F.over_answers _⟩
  intro F W base args ds gs before _ hF hval0 hW _ _ _ hL _
  have hval : ∀ (j : Nat) t v, Tryz.f3.params[j]? = some t → args[j]? = some v → Value.okWide Tryz.prog W .any base t v := hval0
  have hW' := hW
  obtain ⟨p, q, hA0, hV, rfl, hfz, hnd⟩ := hW
  have hA : DataW.TrodAll enc Tryz.prog W 0 (fun _ => true) true Tryz.f3.params.toList args.toList ds p := hA0
  rw [Tryz.params3] at hA hval
  obtain ⟨v0, d0, rfl, rfl, h0⟩ := trodAll_one hA
  obtain ⟨rfl, rfl⟩ := trodVars_none hV
  obtain ⟨s, rfl, rfl, rfl, ws⟩ := open_string Tryz.underlying9 (hval 0 9 v0 rfl rfl) h0
  clear hA0 hval0
  obtain ⟨hT, hE⟩ := PQ.tabs_of W (laid_plain W hL)
  refine (PQ.law_true F s W hF hT hE).mono ?_
  rintro e W' ⟨rfl, bel⟩
  refine ⟨_, rfl, _, _, _, [], [], [], hW', ?_, ?_, rfl, bel.frame _, fun h => by cases h⟩
  · exact trodAll_mk1 (shut_bool Tryz.underlying4 _)
  · exact trodAll_mk1 (shut_string Tryz.underlying9 ws)
end Go.Proofs.YtfkpbkjokapijaaGreatFmt
