/- The plain law ScanCuts. No condition. -/
import Derived.Test.YtjlhehaagaaihaaDoorLc
namespace Go.Proofs.YtjlhehaagaaihaaDoor.Pure
open Go.RowKit Go.Proofs.YtjlhehaagaaihaaDoor.P

theorem ScanCuts (a : List Int) (b : Int) (wa : ∀ x ∈ a, (Lit.int .u8 x).wf = true) (wb : (Lit.int .u16 b).wf = true) (h : (a.map fun _ => 1).sum + 1 + 1 ≤ 1048576) : gessolaw02_ScanCuts.f a b = some true := by
  rw [ones_sum] at h
  have hb := bounds_u16 wb
  exact if_pos ⟨allb_bytes (Bytes.of a wa), by omega, by omega, by omega⟩
end Go.Proofs.YtjlhehaagaaihaaDoor.Pure
