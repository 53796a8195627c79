/- The plain law CodeOnes. No condition. -/
import Derived.Test.YtjlhehaagaaihaaDoorPx18
import Derived.Test.YtjlhehaagaaihaaDoorMd
namespace Go.Proofs.YtjlhehaagaaihaaDoor.Pure
open Go.RowKit Go.Proofs.YtjlhehaagaaihaaDoor.P Go.Proofs.YtjlhehaagaaihaaDoorW.PrintWords Go.Proofs.YtjlhehaagaaihaaDoorW.PrintLast
set_option linter.unusedSimpArgs false

theorem awake_ev : Ev (fun k => gessolaw01_awake.f k) true := Ev.of gessolaw01_awake.mono (k := 10) (by decide +kernel)
theorem CodeOnes : gessolaw01_CodeOnes.Pure := by
  intro l hm hl hw
  have hb := Bytes.of l hw
  suffices h : Ev (fun k => gessolaw01_CodeOnes.f k l) true from h.rounds
  unfold gessolaw01_CodeOnes.f
  simp only [Option.bind_some, List.nil_append, List.length_nil, Nat.zero_add, if_pos (show l.length < 140737488355328 by omega), one_f hb]
  refine Ev.bind (ref_one l hb (by omega)) ?_
  simp only [if_true]
  obtain ⟨cs, r, hc, he, hr⟩ := parts _ l (Nat.le_refl _) hb
  have hb' := hb
  rw [he] at hb'
  have hl' : (encs cs ++ r).length < 4611686018427387904 := by rw [← he]; omega
  rw [he]
  refine Ev.bind (cfault_ev cs r hc hr hb' hl') (Ev.bind (rfault_ev cs r hc hr hb' hl') ?_)
  simp only [if_true]
  exact Ev.bind awake_ev (Ev.now _)
end Go.Proofs.YtjlhehaagaaihaaDoor.Pure
