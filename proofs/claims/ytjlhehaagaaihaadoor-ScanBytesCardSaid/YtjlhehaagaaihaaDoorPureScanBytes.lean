/- The plain law ScanBytes. No condition. -/
import Derived.Test.YtjlhehaagaaihaaDoorLb
namespace Go.Proofs.YtjlhehaagaaihaaDoor.Pure
open Go.RowKit Go.Proofs.YtjlhehaagaaihaaDoor.P

theorem ScanBytes (a : List Int) (wa : ∀ x ∈ a, (Lit.int .u8 x).wf = true) : gessolaw02_ScanBytes.f a = some true := if_pos (allb_bytes (Bytes.of a wa))
end Go.Proofs.YtjlhehaagaaihaaDoor.Pure
