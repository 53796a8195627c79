/- Hangul: a syllable's parts and those of the next one, for every number. No condition. -/
import Derived.Test.YtmhehgkpbkoomaaM
import Derived.Test.YtmhehgkpbkoomaaPx
namespace Go.Proofs.Ytmhehgkpbkoomaa.Pure
open Go.RowKit Go.Proofs.Ytmhehgkpbkoomaa.P Go.Proofs.YtmhehgkpbkoomaaW.PrintWords Go.Proofs.YtmhehgkpbkoomaaW.PrintLast

theorem row_core (n : Int) (h0 : 0 ≤ n) (h1 : n < 11171) (k : Nat) :
    ((hangul_Split.f (44032 + n)).bind fun bt142 => ((hangul_Split.f ((44032 + n) + 1)).bind fun bt146 => (if bt142.2.2.2 = true then (gessolaw04_HangulRow.j0 (k + 1) bt142.1 bt142.2.1 bt142.2.2.1 bt146.1 bt146.2.1 bt146.2.2.1 (!bt146.2.2.2)) else (gessolaw04_HangulRow.j0 (k + 1) bt142.1 bt142.2.1 bt142.2.2.1 bt146.1 bt146.2.1 bt146.2.2.1 true)))) = some true := by
  rw [split_yes (44032 + n) (by omega), split_yes (44032 + n + 1) (by omega)]
  simp only [Option.bind_some, if_true, Bool.not_true, gessolaw04_HangulRow.j0, awake_ok]
  rw [if_neg (by decide)]
  have e0 : 44032 + n - 44032 = n := by omega
  have e1 : 44032 + n + 1 - 44032 = n + 1 := by omega
  rw [e0, e1]
  by_cases a : n % 28 = 0
  · have a1 : ¬ (n + 1) % 28 = 0 := by omega
    rw [if_pos a, if_neg a1, if_pos rfl, if_pos (by omega), if_pos (by omega), if_pos (by omega)]
  · rw [if_neg a, if_neg (by omega)]
    by_cases b : n % 28 < 27
    · have a1 : ¬ (n + 1) % 28 = 0 := by omega
      rw [if_neg a1, if_pos (by omega), if_pos (by omega), if_pos (by omega), if_pos (by omega)]
    · have a1 : (n + 1) % 28 = 0 := by omega
      rw [if_pos a1, if_neg (by omega)]
      by_cases c : n / 28 % 21 < 20
      · rw [if_pos (by omega), if_pos (by omega), if_pos (by omega), if_pos rfl]
      · rw [if_neg (by omega), if_pos (by omega), if_pos (by omega), if_pos rfl]

theorem HangulRow : gessolaw04_HangulRow.Pure := by
  intro n hn
  refine ⟨1, ?_⟩
  exact row_core (n % 4294967296 % 11171) (by omega) (by omega) 0

end Go.Proofs.Ytmhehgkpbkoomaa.Pure
