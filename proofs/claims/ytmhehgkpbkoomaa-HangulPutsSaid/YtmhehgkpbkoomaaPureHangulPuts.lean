/- Hangul: Put tells of every three numbers what the document's Put tells. No condition. -/
import Derived.Test.YtmhehgkpbkoomaaM
import Derived.Test.YtmhehgkpbkoomaaPx
namespace Go.Proofs.Ytmhehgkpbkoomaa.Pure
open Go.RowKit Go.Proofs.Ytmhehgkpbkoomaa.P Go.Proofs.YtmhehgkpbkoomaaW.PrintWords Go.Proofs.YtmhehgkpbkoomaaW.PrintLast

theorem isL_eq (a : Int) : gessoref04_isL.f a = some (decide (4352 ≤ a ∧ a < 4371)) := by
  unfold gessoref04_isL.f; split <;> simp <;> omega
theorem isV_eq (a : Int) : gessoref04_isV.f a = some (decide (4449 ≤ a ∧ a < 4470)) := by
  unfold gessoref04_isV.f; split <;> simp <;> omega
theorem isT_eq (a : Int) : gessoref04_isT.f a = some (decide (4520 ≤ a ∧ a < 4547)) := by
  unfold gessoref04_isT.f; split <;> simp <;> omega

theorem refput (k : Nat) (l v t : Int) (hl : 0 ≤ l ∧ l ≤ 4294967295) (hv : 0 ≤ v ∧ v ≤ 4294967295) (ht : 0 ≤ t ∧ t ≤ 4294967295) :
    gessoref04_Put.f (k + 1) l v t = hangul_Put.f l v t := by
  rw [put_eq l v t hl hv ht]
  unfold gessoref04_Put.f
  rw [isL_eq, isV_eq, isT_eq]
  simp only [Option.bind_some, gessoref04_Put.j0, decide_eq_true_eq]
  by_cases h0 : 4352 ≤ l ∧ l < 4371
  · rw [if_pos h0]
    by_cases h1 : 4449 ≤ v ∧ v < 4470
    · rw [if_pos h1]
      by_cases h2 : t = 0
      · rw [if_pos h2, if_neg (by simp), if_pos h2, if_pos ⟨h0, h1, .inl h2⟩, if_pos h2]
        simp only [Option.some.injEq, Prod.mk.injEq, and_true]
        omega
      · rw [if_neg h2]
        by_cases h3 : 4520 ≤ t ∧ t < 4547
        · rw [if_neg (by simp; omega), if_neg h2, if_pos ⟨h0, h1, .inr h3⟩, if_neg h2]
          simp only [Option.some.injEq, Prod.mk.injEq, and_true]
          omega
        · rw [if_pos (by simp; omega), if_neg (fun h => h.2.2.elim h2 h3)]
    · rw [if_neg h1, if_pos trivial, if_neg (fun h => h1 h.2.1)]
  · rw [if_neg h0, if_pos trivial, if_neg (fun h => h0 h.1)]

theorem put_some (l v t : Int) : ∃ r, hangul_Put.f l v t = some r := by unfold hangul_Put.f; repeat (first | exact ⟨_, rfl⟩ | split)

theorem HangulPuts : gessolaw04_HangulPuts.Pure := by
  intro l v t hl hv ht
  refine ⟨1, ?_⟩
  unfold gessolaw04_HangulPuts.f
  rw [refput 0 l v t (bounds_u32 hl) (bounds_u32 hv) (bounds_u32 ht), awake_ok]
  obtain ⟨r, hr⟩ := put_some l v t
  rw [hr]
  simp

end Go.Proofs.Ytmhehgkpbkoomaa.Pure
