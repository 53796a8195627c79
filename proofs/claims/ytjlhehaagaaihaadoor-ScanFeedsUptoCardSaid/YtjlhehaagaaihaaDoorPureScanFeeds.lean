/- The plain law ScanFeeds. No condition. -/
import Derived.Test.YtjlhehaagaaihaaDoorLf
namespace Go.Proofs.YtjlhehaagaaihaaDoor.Pure
open Go.RowKit Go.Proofs.YtjlhehaagaaihaaDoor.P

theorem bulk_rows : ∀ l : List (List Int), (l.map fun x => (x.map fun _ => 1).sum + 1).sum = l.flatten.length + l.length
  | [] => rfl
  | x :: l => by
    rw [List.map_cons, List.sum_cons, bulk_rows l, ones_sum, List.flatten_cons, List.length_append, List.length_cons]
    omega
theorem ScanFeeds (l : List (List Int)) (wl : ∀ x ∈ l, ∀ z ∈ x, (Lit.int .u8 z).wf = true) (h : (l.map fun x => (x.map fun _ => 1).sum + 1).sum + 1 ≤ 1048576) : gessolaw02_ScanFeeds.f l = some true := by
  rw [bulk_rows] at h
  exact if_pos ⟨fun x hx => allb_bytes (Bytes.of x (wl x hx)), by omega, by omega⟩
end Go.Proofs.YtjlhehaagaaihaaDoor.Pure
