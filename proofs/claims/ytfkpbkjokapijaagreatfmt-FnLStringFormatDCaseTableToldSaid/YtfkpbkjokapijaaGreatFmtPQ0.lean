/- The words that the walks of the leaves use, and the shape of the library's own errors. -/
import Derived.Test.YtfkpbkjokapijaaGreatFmtProg
import Derived.WalkKit
import Derived.WalkMore
import Derived.KernelRfl
import Derived.RowKit3
import Derived.Deep.LoopGhost
import Derived.Deep.QuietTactic
import Derived.BigQuiet
import Derived.Deep.DeepCutAuto
import Derived.Deep.CutBlock
import Derived.Laws.BytesArg
import Derived.Laws.MakeOwn
import Derived.Lib.AppendStr
import Derived.Laws.Externs
import Derived.Test.YtfkpbkjokapijaaGreatFmtWWords
import Derived.Test.YtfkpbkjokapijaaGreatFmtWLast
import Derived.Test.YtfkpbkjokapijaaGreatFmtWMini
namespace Go.Proofs.YtfkpbkjokapijaaGreatFmt.PQ
set_option linter.unusedVariables false
set_option linter.unusedSimpArgs false
open Go.RowKit Go.Proofs.YtfkpbkjokapijaaGreatFmtW.PrintWords Go.Proofs.YtfkpbkjokapijaaGreatFmtW.PrintLast Go.Proofs.YtfkpbkjokapijaaGreatFmtW.PrintMore

def errW : Option Int → Value
  | none => .nilIface
  | some c => .iface 74 (.int .i64 c)
theorem errW_none : errW none = .nilIface := rfl
theorem errW_some (c : Int) : errW (some c) = .iface 74 (.int .i64 c) := rfl

theorem info5 : (Tryz.prog.info? 5).map (fun i => (i.zero, i.size, i.bytes)) = some (some (.int .u8 0), 1, 1) := by kernel_rfl

/-- float64frombits: the word as it is. -/
@[go_sem] theorem frombits70 (n : Int) (w : World) : (callFunc 70 #[.int .u64 n]).run Tryz.prog w = .ok (.value (.float .f64 n.toNat)) w :=
  (run_callFunc_extern (e := Extern.MathFloatBits.float64frombits) Tryz.func70 (by kernel_rfl) (by kernel_rfl) (by kernel_rfl) (by kernel_rfl) #[.int .u64 n] w).trans rfl

end Go.Proofs.YtfkpbkjokapijaaGreatFmt.PQ
