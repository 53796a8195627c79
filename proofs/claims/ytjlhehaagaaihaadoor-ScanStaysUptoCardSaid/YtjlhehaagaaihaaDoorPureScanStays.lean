/- The plain law ScanStays. No condition. -/
import Derived.Test.YtjlhehaagaaihaaDoorLs
namespace Go.Proofs.YtjlhehaagaaihaaDoor.Pure
open Go.RowKit Go.Proofs.YtjlhehaagaaihaaDoor.P

theorem ScanStays (a b : List Int) (wa : ∀ x ∈ a, (Lit.int .u8 x).wf = true) (wb : ∀ x ∈ b, (Lit.int .u8 x).wf = true) (h : (a.map fun _ => 1).sum + 1 + ((b.map fun _ => 1).sum + 1) ≤ 1048576) : gessolaw02_ScanStays.f a b = some true := by
  rw [ones_sum, ones_sum] at h
  exact if_pos ⟨allb_bytes (Bytes.of a wa), allb_bytes (Bytes.of b wb), by omega⟩
end Go.Proofs.YtjlhehaagaaihaaDoor.Pure
