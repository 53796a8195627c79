/- The plain law WalkSorts. No condition. -/
import Derived.Test.YtomhpfgibekmfaaWs
namespace Go.Proofs.Ytomhpfgibekmfaa.Pure
open Go.RowKit Go.Proofs.Ytomhpfgibekmfaa.P
set_option linter.unusedVariables false
theorem WalkSorts (l : List Pth) (deep : Bool) (wl : ∀ x ∈ l, ∀ z ∈ x, z.size ≤ maxLen) : gessolaw15_WalkSorts.f l deep = some true := rfl
end Go.Proofs.Ytomhpfgibekmfaa.Pure
