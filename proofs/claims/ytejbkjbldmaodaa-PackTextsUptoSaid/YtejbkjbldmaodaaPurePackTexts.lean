/- Pack: texts are packed, and bytes are texts, or none, as the document says. Condition: the bulk, as the statement has it. -/
import Derived.Test.YtejbkjbldmaodaaO
import Derived.Test.YtejbkjbldmaodaaPx21
namespace Go.Proofs.Ytejbkjbldmaodaa.Pure
open Go.RowKit Go.Proofs.Ytejbkjbldmaodaa.P Go.Proofs.YtejbkjbldmaodaaW.PrintWords Go.Proofs.YtejbkjbldmaodaaW.PrintLast

theorem PackTexts (a0 : List ByteArray) (a1 : List Int) (_w0 : ∀ x ∈ a0, x.size ≤ maxLen) (w1 : ∀ x ∈ a1, (Lit.int .u8 x).wf = true) (hb : (a0.map (fun s => s.size + 1)).sum + 1 + ((a1.map (fun _ => 1)).sum + 1) ≤ 1048576) : ∃ k, gessolaw11_PackTexts.f k a0 a1 = some true := by
  obtain ⟨h1, h2, h3⟩ := bulk_texts a0
  rw [ones] at hb
  have hy := Bytes.of a1 w1
  have hs : size63 a0 := fun s hs => by have := h3 s hs; omega
  have hl := told_length a1
  refine Ev.rounds ?_
  unfold gessolaw11_PackTexts.f
  refine Ev.bind (texts_ev a0 (by omega) hs (by omega)) (Ev.bind (reftexts_ev a0 (by omega) hs (by omega)) (Ev.bind (strings_ev a1 hy (by omega)) (Ev.bind (refstrings_ev a1 hy (by omega)) ?_)))
  simp only [if_true]
  refine Ev.bind (sames_ev _ (by simp only [List.length_map]; omega)) ?_
  simp only [if_true]
  exact Ev.bind awake_ev (Ev.now _)

end Go.Proofs.Ytejbkjbldmaodaa.Pure
