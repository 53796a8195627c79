/- The plain law WalkQueues. No condition. -/
import Derived.Test.YtomhpfgibekmfaaWz
namespace Go.Proofs.Ytomhpfgibekmfaa.Pure
open Go.RowKit Go.Proofs.Ytomhpfgibekmfaa.P
set_option linter.unusedVariables false
theorem WalkQueues (deep : Bool) (l : List Pth) (pops : List Bool) (wl : ∀ x ∈ l, ∀ z ∈ x, z.size ≤ maxLen) (wp : ∀ x ∈ pops, True) : gessolaw15_WalkQueues.f deep l pops = some true := rfl
end Go.Proofs.Ytomhpfgibekmfaa.Pure
