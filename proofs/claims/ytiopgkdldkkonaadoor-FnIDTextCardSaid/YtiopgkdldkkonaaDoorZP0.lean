/-
  PRINTED by print.py out of the translation (function bodies, their contracts), mended by hand where it did not build. Not trusted: Lean checks it.
-/
import Derived.Test.YtiopgkdldkkonaaDoorProg
import Derived.Below
import Derived.Deep.Draws
import Derived.Deep.AppendLies
import Derived.Maps.AppendAt
import Derived.OwnWalk
import Derived.Laws.BytesArg
import Derived.Laws.MakeOwn
import Derived.Laws.OwnMore
import Derived.Deep.OwnRows
import Derived.Tactics
import Derived.Lib.ConvBytes
import Derived.Laws.Slices
import Derived.WalkKit
import Derived.KernelRfl
import Derived.RowKit3
import Derived.Deep.LoopGhost
import Derived.Deep.QuietTactic
import Derived.BigQuiet
import Derived.WideLaws
import Derived.Deep.DeepCutAuto
import Derived.Deep.CutBlock
import Derived.Deep.RegionHeld3
import Derived.Laws.Rows
import Derived.Lib.AppendStr
import Derived.ArgAppend
import Derived.Laws.IdiomCopy
import Derived.OrdersHeld
import Derived.Laws.BitsLemmas
import Derived.RowKit
import Derived.Test.YtiopgkdldkkonaaDoorWWords
import Derived.Test.YtiopgkdldkkonaaDoorWLast
import Derived.Test.YtiopgkdldkkonaaDoorWTab
import Derived.Test.YtiopgkdldkkonaaDoorWQPut
import Derived.Test.YtiopgkdldkkonaaDoorWApart
import Derived.Test.YtiopgkdldkkonaaDoorWArr
import Derived.Test.YtiopgkdldkkonaaDoorWZeros
import Derived.Test.YtiopgkdldkkonaaDoorWFoot
import Derived.Test.YtiopgkdldkkonaaDoorWKept
import Derived.Test.YtiopgkdldkkonaaDoorWShare
import Derived.Test.YtiopgkdldkkonaaDoorWN
import Derived.Test.YtiopgkdldkkonaaDoorWRepsOne
import Derived.Test.YtiopgkdldkkonaaDoorWGuard
import Derived.Test.YtiopgkdldkkonaaDoorWNEv
import Derived.Test.YtiopgkdldkkonaaDoorWMore
namespace Go.Proofs.YtiopgkdldkkonaaDoor.Pn
open Go.RowKit Go.Proofs.YtiopgkdldkkonaaDoorW.PrintWords Go.Proofs.YtiopgkdldkkonaaDoorW.PrintLast Go.Proofs.YtiopgkdldkkonaaDoorW.PrintMore
attribute [local go_sem] max2_int min2_int max_two min_two max_three min_three max_four min_four   -- for this text's walks alone
set_option linter.unusedVariables false
set_option linter.unusedSimpArgs false



def errW : Option Int → Value
  | none => .nilIface
  | some c => .iface 0 (.int .i64 c)
theorem errW_none : errW none = .nilIface := rfl
theorem errW_some (c : Int) : errW (some c) = .iface 0 (.int .i64 c) := rfl

theorem info5 : (Tryd.prog.info? 5).map (fun i => (i.zero, i.size, i.bytes)) = some (some (.int .u8 0), 1, 1) := by kernel_rfl
theorem info9 : (Tryd.prog.info? 9).map (fun i => (i.zero, i.size, i.bytes)) = some (some (.string ⟨#[]⟩), 1, 16) := by kernel_rfl
theorem info84 : (Tryd.prog.info? 84).map (fun i => (i.zero, i.size, i.bytes)) = some (some (.int .u32 0), 1, 4) := by kernel_rfl
-- the values' own types

end Go.Proofs.YtiopgkdldkkonaaDoor.Pn
