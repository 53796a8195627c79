/- Hangul: Join tells of every two numbers what the document's Join tells. No condition. -/
import Derived.Test.YtmhehgkpbkoomaaPureHangulPuts
import Derived.Test.YtmhehgkpbkoomaaPureHangulSplits
namespace Go.Proofs.Ytmhehgkpbkoomaa.Pure
open Go.RowKit Go.Proofs.Ytmhehgkpbkoomaa.P Go.Proofs.YtmhehgkpbkoomaaW.PrintWords Go.Proofs.YtmhehgkpbkoomaaW.PrintLast

theorem join_some (a b : Int) : ∃ r, hangul_Join.f a b = some r := by
  unfold hangul_Join.f
  obtain ⟨r, hr⟩ := put_some a b 0
  rw [hr]
  simp only [Option.bind_some]
  repeat (first | exact ⟨_, rfl⟩ | split)

theorem refjoin (k : Nat) (a b : Int) (ha : 0 ≤ a ∧ a ≤ 4294967295) (hb : 0 ≤ b ∧ b ≤ 4294967295) :
    gessoref04_Join.f (k + 2) a b = hangul_Join.f a b := by
  rw [join_eq a b ha hb]
  unfold gessoref04_Join.f
  rw [isL_eq, isV_eq]
  simp only [Option.bind_some, gessoref04_Join.j0, decide_eq_true_eq]
  by_cases h0 : 4352 ≤ a ∧ a < 4371
  · rw [if_pos h0]
    by_cases h1 : 4449 ≤ b ∧ b < 4470
    · rw [if_pos h1, refput k a b 0 ha hb (by omega)]
      have e := put_eq a b 0 ha hb (by omega)
      rw [if_pos ⟨h0, h1, .inl rfl⟩, if_pos rfl, Int.add_zero] at e
      rw [e, if_pos ⟨h0, h1⟩]
      rfl
    · rw [if_neg h1, if_neg (fun h => h1 h.2), refsplit, split_no a (by omega), if_neg (by omega)]
      rfl
  · rw [if_neg h0, if_neg (by decide), if_neg (fun h => h0 h.1), refsplit]
    by_cases h2 : 44032 ≤ a ∧ a ≤ 55203
    · rw [split_yes a h2]
      simp only [Option.bind_some, if_true]
      by_cases h3 : (a - 44032) % 28 = 0
      · rw [if_pos h3, if_pos rfl, isT_eq]
        simp only [Option.bind_some, decide_eq_true_eq]
        by_cases h4 : 4520 ≤ b ∧ b < 4547
        · rw [if_pos h4, if_pos ⟨h2, h3, h4⟩, refput k _ _ b (by omega) (by omega) hb, put_eq _ _ b (by omega) (by omega) hb, if_pos ⟨by omega, by omega, .inr h4⟩, if_neg (by omega)]
          simp only [Option.bind_some, Option.some.injEq, Prod.mk.injEq, and_true]
          omega
        · rw [if_neg h4, if_neg (fun h => h4 h.2.2)]
      · rw [if_neg h3, if_neg (by omega), if_neg (fun h => h3 h.2.1)]
    · rw [split_no a h2, if_neg (fun h => h2 h.1)]
      rfl

theorem HangulJoins : gessolaw04_HangulJoins.Pure := by
  intro a b ha hb
  refine ⟨2, ?_⟩
  unfold gessolaw04_HangulJoins.f
  rw [refjoin 0 a b (bounds_u32 ha) (bounds_u32 hb), awake_ok]
  obtain ⟨r, hr⟩ := join_some a b
  rw [hr]
  simp

end Go.Proofs.Ytmhehgkpbkoomaa.Pure
