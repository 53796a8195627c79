/- The plain law WalkOrder. No condition. -/
import Derived.Test.YtomhpfgibekmfaaWo
namespace Go.Proofs.Ytomhpfgibekmfaa.Pure
open Go.RowKit Go.Proofs.Ytomhpfgibekmfaa.P
set_option linter.unusedVariables false
theorem WalkOrder (a b c : Pth) (wa : ∀ x ∈ a, x.size ≤ maxLen) (wb : ∀ x ∈ b, x.size ≤ maxLen) (wc : ∀ x ∈ c, x.size ≤ maxLen) : gessolaw15_WalkOrder.f a b c = some true := rfl
end Go.Proofs.Ytomhpfgibekmfaa.Pure
