/- Pack: Num lays every number, and Number reads every bytes, as the document says. No condition. -/
import Derived.Test.YtejbkjbldmaodaaN
import Derived.Test.YtejbkjbldmaodaaPx10
namespace Go.Proofs.Ytejbkjbldmaodaa.Pure
open Go.RowKit Go.Proofs.Ytejbkjbldmaodaa.P Go.Proofs.YtejbkjbldmaodaaW.PrintWords Go.Proofs.YtejbkjbldmaodaaW.PrintLast

theorem PackNumbers : gessolaw11_PackNumbers.Pure := by
  intro n b hn _ hl hw
  have hb := Bytes.of b hw
  have hn' := bounds_u64 hn
  refine Ev.rounds ?_
  unfold gessolaw11_PackNumbers.f
  refine Ev.bind (number_ev b hb (by omega)) (Ev.bind (refnumber_ev b hb) (Ev.bind (num_ev n hn'.1 hn'.2) (Ev.bind (refnum_ev n hn'.1 hn'.2) ?_)))
  simp only [if_true]
  exact Ev.bind awake_ev (Ev.now _)

end Go.Proofs.Ytejbkjbldmaodaa.Pure
