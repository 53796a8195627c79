/- The plain law CodeBytes. No condition. -/
import Derived.Test.YtjlhehaagaaihaaDoorPx24
import Derived.Test.YtjlhehaagaaihaaDoorMb
namespace Go.Proofs.YtjlhehaagaaihaaDoor.Pure
open Go.RowKit Go.Proofs.YtjlhehaagaaihaaDoor.P Go.Proofs.YtjlhehaagaaihaaDoorW.PrintWords Go.Proofs.YtjlhehaagaaihaaDoorW.PrintLast
set_option linter.unusedSimpArgs false

theorem awake_ev : Ev (fun k => gessolaw01_awake.f k) true := Ev.of gessolaw01_awake.mono (k := 10) (by decide +kernel)
theorem CodeBytes : gessolaw01_CodeBytes.Pure := by
  intro l hm hl hw
  have h0 : ∀ x ∈ l, 0 ≤ x := fun x hx => (bounds_u32 (hw x hx)).1
  suffices h : Ev (fun k => gessolaw01_CodeBytes.f k l) true from h.rounds
  unfold gessolaw01_CodeBytes.f
  simp only [Option.bind_some, List.nil_append, List.length_nil, Nat.zero_add, if_pos (show l.length < 35184372088832 by omega)]
  refine Ev.bind (cbytes_ev l h0 (by omega)) (Ev.bind (rbytes_ev l h0 (by omega)) ?_)
  simp only [if_true]
  refine Ev.bind (same_ev l (by omega)) ?_
  simp only [if_true]
  exact Ev.bind awake_ev (Ev.now _)
end Go.Proofs.YtjlhehaagaaihaaDoor.Pure
