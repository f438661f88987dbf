/-
  A load that is not to be taken first in a region that draws its order.
-/
import Derived.Test.YtbacakdpfiiblaaGreatGeoM
namespace Go.Proofs.YtbacakdpfiiblaaGreat.geo
set_option linter.unusedVariables false

/-- A load, under another name: the walk of a region looks for loads by name, and would take this one first. -/
def lateLoad (t : TypeId) (p : Operand) : Op := Op.load t p
@[go_sem] theorem lateLoad_eq (t : TypeId) (p : Operand) : lateLoad t p = Op.load t p := rfl
end Go.Proofs.YtbacakdpfiiblaaGreat.geo
