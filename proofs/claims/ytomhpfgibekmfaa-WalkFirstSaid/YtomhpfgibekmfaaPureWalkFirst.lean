/- The plain law WalkFirst. No condition. -/
import Derived.Test.YtomhpfgibekmfaaWq
namespace Go.Proofs.Ytomhpfgibekmfaa.Pure
open Go.RowKit Go.Proofs.Ytomhpfgibekmfaa.P
set_option linter.unusedVariables false
theorem WalkFirst (deep : Bool) (l : List Pth) (wl : ∀ x ∈ l, ∀ z ∈ x, z.size ≤ maxLen) : gessolaw15_WalkFirst.f deep l = some true := rfl
end Go.Proofs.Ytomhpfgibekmfaa.Pure
