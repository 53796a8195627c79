/- The plain law ScanOpens. No condition. -/
import Derived.Test.YtjlhehaagaaihaaDoorLo
namespace Go.Proofs.YtjlhehaagaaihaaDoor.Pure
open Go.RowKit Go.Proofs.YtjlhehaagaaihaaDoor.P

theorem ScanOpens (a : List Int) (wa : ∀ x ∈ a, (Lit.int .u8 x).wf = true) : gessolaw02_ScanOpens.f a = some true := if_pos (allb_bytes (Bytes.of a wa))
end Go.Proofs.YtjlhehaagaaihaaDoor.Pure
