/- Hangul: what is joined is a syllable, and the two are its beginning and its end, for every two numbers. No condition. -/
import Derived.Test.YtmhehgkpbkoomaaM
import Derived.Test.YtmhehgkpbkoomaaPx
namespace Go.Proofs.Ytmhehgkpbkoomaa.Pure
open Go.RowKit Go.Proofs.Ytmhehgkpbkoomaa.P Go.Proofs.YtmhehgkpbkoomaaW.PrintWords Go.Proofs.YtmhehgkpbkoomaaW.PrintLast

theorem HangulOnly : gessolaw04_HangulOnly.Pure := by
  intro a b ha hb
  have ha := bounds_u32 ha
  have hb := bounds_u32 hb
  unfold gessolaw04_HangulOnly.f
  rw [join_eq a b ha hb, awake_ok]
  by_cases h : (4352 ≤ a ∧ a < 4371) ∧ (4449 ≤ b ∧ b < 4470)
  · rw [if_pos h]
    simp only [Option.bind_some, if_true]
    rw [split_yes _ (by omega)]
    simp only [Option.bind_some, if_true]
    rw [if_pos (by omega), if_pos (by omega), if_pos (by omega)]
  · rw [if_neg h]
    by_cases h1 : (44032 ≤ a ∧ a ≤ 55203) ∧ (a - 44032) % 28 = 0 ∧ (4520 ≤ b ∧ b < 4547)
    · rw [if_pos h1]
      simp only [Option.bind_some, if_true]
      rw [split_yes _ (by omega)]
      simp only [Option.bind_some, if_true]
      rw [if_neg (by omega)]
      have e := put_eq (4352 + (a + (b - 4519) - 44032) / 28 / 21) (4449 + (a + (b - 4519) - 44032) / 28 % 21) 0 (by omega) (by omega) (by omega)
      rw [if_pos ⟨by omega, by omega, .inl rfl⟩, if_pos rfl] at e
      rw [e]
      simp only [Option.bind_some, if_true]
      rw [if_pos (by omega), if_pos (by omega)]
    · rw [if_neg h1]
      simp

end Go.Proofs.Ytmhehgkpbkoomaa.Pure
