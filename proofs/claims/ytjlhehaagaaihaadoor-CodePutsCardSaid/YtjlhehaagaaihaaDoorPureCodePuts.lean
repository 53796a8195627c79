/- The plain law CodePuts. No condition. -/
import Derived.Test.YtjlhehaagaaihaaDoorPx21
import Derived.Test.YtjlhehaagaaihaaDoorMa
namespace Go.Proofs.YtjlhehaagaaihaaDoor.Pure
open Go.RowKit Go.Proofs.YtjlhehaagaaihaaDoor.P Go.Proofs.YtjlhehaagaaihaaDoorW.PrintWords Go.Proofs.YtjlhehaagaaihaaDoorW.PrintLast

theorem awake_ev : Ev (fun k => gessolaw01_awake.f k) true := Ev.of gessolaw01_awake.mono (k := 10) (by decide +kernel)
theorem CodePuts : gessolaw01_CodePuts.Pure := by
  intro c hw
  have h0 : 0 ≤ c := (bounds_u32 hw).1
  suffices h : Ev (fun k => gessolaw01_CodePuts.f k c) true from h.rounds
  unfold gessolaw01_CodePuts.f
  refine Ev.bind (cput_ev c h0) ?_
  simp only [put_f c h0, is_f c h0, wid_f c h0, Option.bind_some, if_true]
  by_cases h : isC c
  · simp only [if_pos h, decide_eq_true h]
    simp only [beq_self_eq_true, if_true]
    refine Ev.bind (width_ev c h0) ?_
    simp only [if_true]
    exact Ev.bind awake_ev (Ev.now _)
  · simp only [if_neg h, decide_eq_false h]
    simp only [show ((2 : Int) == 0) = false from rfl, beq_self_eq_true, if_true, show ¬ ((2 : Int) = 0) by decide, if_false]
    refine Ev.bind (width_ev c h0) ?_
    simp only [if_true]
    exact Ev.bind awake_ev (Ev.now _)
end Go.Proofs.YtjlhehaagaaihaaDoor.Pure
