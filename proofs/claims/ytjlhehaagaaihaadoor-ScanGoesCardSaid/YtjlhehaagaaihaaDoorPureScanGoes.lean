/- The plain law ScanGoes. No condition. -/
import Derived.Test.YtjlhehaagaaihaaDoorLg
namespace Go.Proofs.YtjlhehaagaaihaaDoor.Pure
open Go.RowKit Go.Proofs.YtjlhehaagaaihaaDoor.P

theorem ScanGoes (s b : Int) (a x : List Int) (wa : ∀ z ∈ a, (Lit.int .u8 z).wf = true) (wx : ∀ z ∈ x, (Lit.int .u8 z).wf = true) : gessolaw02_ScanGoes.f s b a x = some true := if_pos ⟨allb_bytes (Bytes.of a wa), allb_bytes (Bytes.of x wx)⟩
end Go.Proofs.YtjlhehaagaaihaaDoor.Pure
