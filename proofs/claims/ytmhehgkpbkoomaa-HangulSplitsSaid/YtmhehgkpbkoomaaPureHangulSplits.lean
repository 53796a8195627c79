/- Hangul: Is and Split tell of every number what the document's Is and Split tell. No condition. -/
import Derived.Test.YtmhehgkpbkoomaaM
namespace Go.Proofs.Ytmhehgkpbkoomaa.Pure
open Go.RowKit Go.Proofs.Ytmhehgkpbkoomaa.P Go.Proofs.YtmhehgkpbkoomaaW.PrintWords Go.Proofs.YtmhehgkpbkoomaaW.PrintLast

theorem is_eq (a : Int) : hangul_Is.f a = gessoref04_Is.f a := rfl

theorem is_some (a : Int) : ∃ b, gessoref04_Is.f a = some b := by unfold gessoref04_Is.f; split <;> exact ⟨_, rfl⟩

theorem refsplit (a : Int) : gessoref04_Split.f a = hangul_Split.f a := by
  unfold gessoref04_Split.f hangul_Split.f
  by_cases h0 : 44032 ≤ a
  · by_cases h1 : a ≤ 55203
    · rw [if_pos h0, if_pos h1, if_pos ((isB_iff a).2 ⟨h0, h1⟩)]
    · rw [if_pos h0, if_neg h1, if_neg (fun h => h1 ((isB_iff a).1 h).2)]
  · rw [if_neg h0, if_neg (fun h => h0 ((isB_iff a).1 h).1)]

theorem split_some (a : Int) : ∃ r, hangul_Split.f a = some r := by unfold hangul_Split.f; repeat (first | exact ⟨_, rfl⟩ | split)

theorem HangulSplits : gessolaw04_HangulSplits.Pure := by
  intro a _
  unfold gessolaw04_HangulSplits.f
  rw [refsplit, is_eq, awake_ok]
  obtain ⟨r, hr⟩ := split_some a
  obtain ⟨b, hb⟩ := is_some a
  rw [hr, hb]
  simp

end Go.Proofs.Ytmhehgkpbkoomaa.Pure
