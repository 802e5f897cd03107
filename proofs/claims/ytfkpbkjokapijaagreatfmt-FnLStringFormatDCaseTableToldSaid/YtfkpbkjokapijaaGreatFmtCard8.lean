/- The told and tied card of FnLStringFormatDCaseTable holds: at every string the law returns true; the input reads as it did. -/
import Derived.Test.YtfkpbkjokapijaaGreatFmtLift
import Derived.Test.YtfkpbkjokapijaaGreatFmtTie
import Derived.Test.YtfkpbkjokapijaaGreatFmtCards
import Derived.SevenTiedAt
namespace Go.Proofs.YtfkpbkjokapijaaGreatFmt
set_option linter.unusedVariables false
set_option linter.unusedSimpArgs false
open Go.Extern.Stop Go.Stop Go.Extern

theorem laidOutK : laidOutB Tryz.pinned.checked.prog = true := by kernel_rfl
theorem stopsK : Tryz.pinned.checked.prog.stops = ["fmt.Sprintf, its operands' methods called", "fmt.Sprint"] := by kernel_rfl
theorem stopKnobsK : Tryz.pinned.checked.prog.stopKnobs = [] := by kernel_rfl
theorem quietK (os : Os) : Stop.quiet Tryz.pinned.checked.prog os := by
  intro k hk
  rw [stopKnobsK] at hk
  cases hk
set_option maxRecDepth 1000000 in
theorem dCaseTable_told : Rows.FnLStringFormatDCaseTableToldSaid :=
  Claim7.holds_of_told_tied_any_at .later 3 Tryz.f3 "fmt.Sprintf, its operands' methods called" ["fmt.Sprint"] [] _ _ _ _ _ (by kernel_rfl) rfl rfl rfl laidOutK (by kernel_rfl) rfl ⟨rfl, rfl, rfl, rfl, rfl, rfl, rfl⟩ rfl rfl (by kernel_rfl) (by kernel_rfl) Tryz.func3 (by kernel_rfl)
    (of_decide_eq_true (by kernel_rfl)) (by unfold Func.isWrapper; first | (rw [if_pos (by decide +kernel)]; kernel_rfl) | (rw [if_neg (by decide +kernel)]; exact ⟨rfl, rfl⟩)) stopsK.symm rfl stopKnobsK.symm (by kernel_rfl)
    (by kernel_rfl) (by kernel_rfl) (by kernel_rfl) (by kernel_rfl) (by kernel_rfl) (by kernel_rfl) (by kernel_rfl) (by kernel_rfl) (by kernel_rfl) rfl (by kernel_rfl) rfl rfl
    rfl rfl
    rfl (by kernel_rfl) (by kernel_rfl) (by kernel_rfl) (by decide) (by kernel_rfl) fnLStringFormatDCaseTable_row_tie
    (OpenClaim.moreEntering_of (by kernel_rfl) (by kernel_rfl) (by kernel_rfl) (by kernel_rfl) (by kernel_rfl) (by kernel_rfl) (by kernel_rfl) (by kernel_rfl) (by kernel_rfl) (by kernel_rfl))
    ⟨_, WideRow.started_initial, quietK _⟩
    (fun os started _ H enc _ => t_lifted os started H enc)
#print axioms dCaseTable_told
end Go.Proofs.YtfkpbkjokapijaaGreatFmt
