/-
  A slice of numbers among the arguments: what the walk wants of it, and that it reads behind the call as it did.
-/
import Derived.Test.YtiopgkdldkkonaaDoorZE
import Derived.Test.YtiopgkdldkkonaaDoorTie
import Derived.Test.YtiopgkdldkkonaaDoorCards
import Derived.ProofKit
import Derived.OpenShut
import Derived.Deep.DeepHandedRow
import Derived.Lib.LaidTab
namespace Go.Proofs.YtiopgkdldkkonaaDoor
open Go.ChangeShapes Go.WideShapes Go.ChangeAt Go.RowKit Go.Proofs.YtiopgkdldkkonaaDoorW.PrintWords Go.Proofs.YtiopgkdldkkonaaDoor.Num
set_option linter.unusedVariables false

theorem own : ownKnob Tryd.prog.godebug = none := by kernel_rfl
theorem cells60 : Tryd.prog.cellsOf 60 = 1 := by kernel_rfl
theorem cells117 : Tryd.prog.cellsOf 117 = 20 := by kernel_rfl
theorem gPow : Tryd.prog.globalNamed "internal/strconv.uint64pow10" = some 1 := by kernel_rfl
theorem gPowType : (Tryd.prog.globals[1]?).map (·.type) = some 117 := by kernel_rfl

theorem laid_tail {P : Program} {W : World} {x : String × DataW Unit} {rest : List (String × DataW Unit)} (h : laidMet P (x :: rest) W) : laidMet P rest W := by
  obtain ⟨ps, ⟨g, t, cs, fuel, p, q, _, _, _, _, hr, he⟩, hn, hm⟩ := h
  subst he
  exact ⟨q, hr, (List.nodup_append.1 hn).2.1, fun b off hb => hm b off (List.mem_append_right _ hb)⟩

section
variable {H : Type} {enc : TypeId × Value → H} {W : World}
end
end Go.Proofs.YtiopgkdldkkonaaDoor
