/- The plain law CodeCodes. No condition. -/
import Derived.Test.YtjlhehaagaaihaaDoorPx17
import Derived.Test.YtjlhehaagaaihaaDoorMe
namespace Go.Proofs.YtjlhehaagaaihaaDoor.Pure
open Go.RowKit Go.Proofs.YtjlhehaagaaihaaDoor.P Go.Proofs.YtjlhehaagaaihaaDoorW.PrintWords Go.Proofs.YtjlhehaagaaihaaDoorW.PrintLast
set_option linter.unusedSimpArgs false

theorem awake_ev : Ev (fun k => gessolaw01_awake.f k) true := Ev.of gessolaw01_awake.mono (k := 10) (by decide +kernel)
theorem codes_ev (l : List Int) (hb : Bytes l) (hl : l.length ≤ 1048576) : Ev (fun k => gessolaw01_CodeCodes.f k l) true := by
  obtain ⟨cs, r, hc, he, hr⟩ := parts _ l (Nat.le_refl _) hb
  have hcl := encs_ge cs hc
  have hlen := congrArg List.length he
  rw [List.length_append] at hlen
  have h1 := codes_parts cs r hc hr (by rw [← he]; exact hb) (by omega)
  have h2 := rcodes_parts cs r hc hr (by rw [← he]; exact hb) (by rw [← he]; omega) (by omega)
  rw [← he] at h1 h2
  unfold gessolaw01_CodeCodes.f
  simp only [Option.bind_some, List.nil_append, List.length_nil, Nat.zero_add, if_pos (show l.length < 140737488355328 by omega), h1]
  refine Ev.bind h2 ?_
  by_cases h : r = []
  · simp only [if_pos h]
    refine Ev.bind (same_ev cs (by omega)) ?_
    simp only [if_true]
    exact Ev.bind awake_ev (Ev.now _)
  · simp only [if_neg h]
    refine Ev.bind (same_ev [] (by simp)) ?_
    simp only [if_true]
    exact Ev.bind awake_ev (Ev.now _)
theorem CodeCodes (l : List Int) (wa : ∀ x ∈ l, (Lit.int .u8 x).wf = true) (h : (l.map fun _ => 1).sum + 1 ≤ 1048576) : ∃ k, gessolaw01_CodeCodes.f k l = some true :=
  (codes_ev l (Bytes.of l wa) (by rw [ones] at h; omega)).rounds
end Go.Proofs.YtjlhehaagaaihaaDoor.Pure
