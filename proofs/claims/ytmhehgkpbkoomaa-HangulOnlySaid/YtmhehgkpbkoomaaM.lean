/- Plain facts on the numbers of syllables: what Split, Put and Join come to. No condition. -/
import Derived.Test.YtmhehgkpbkoomaaPx1
import Derived.OpenShut
namespace Go.Proofs.Ytmhehgkpbkoomaa.Pure
open Go.RowKit Go.Proofs.Ytmhehgkpbkoomaa.P Go.Proofs.YtmhehgkpbkoomaaW.PrintWords Go.Proofs.YtmhehgkpbkoomaaW.PrintLast

theorem awake_ok : gessolaw04_awake.f = some true := by rfl

theorem isB_iff (a : Int) : isB a = true ↔ 44032 ≤ a ∧ a ≤ 55203 := by simp [isB]

theorem hasL (c : Int) (h0 : 0 ≤ c) (h1 : c ≤ 4294967295) : hasB 4352 19 c = true ↔ 4352 ≤ c ∧ c < 4371 := by
  simp only [hasB, decide_eq_true_eq]; omega
theorem hasV (c : Int) (h0 : 0 ≤ c) (h1 : c ≤ 4294967295) : hasB 4449 21 c = true ↔ 4449 ≤ c ∧ c < 4470 := by
  simp only [hasB, decide_eq_true_eq]; omega
theorem hasT (c : Int) (h0 : 0 ≤ c) (h1 : c ≤ 4294967295) : hasB 4520 27 c = true ↔ 4520 ≤ c ∧ c < 4547 := by
  simp only [hasB, decide_eq_true_eq]; omega

/-- What Put comes to, in words without wraps. -/
theorem put_eq (l v t : Int) (hl : 0 ≤ l ∧ l ≤ 4294967295) (hv : 0 ≤ v ∧ v ≤ 4294967295) (ht : 0 ≤ t ∧ t ≤ 4294967295) :
    hangul_Put.f l v t = some (if (4352 ≤ l ∧ l < 4371) ∧ (4449 ≤ v ∧ v < 4470) ∧ (t = 0 ∨ (4520 ≤ t ∧ t < 4547)) then
      (44032 + ((l - 4352) * 21 + (v - 4449)) * 28 + (if t = 0 then 0 else t - 4519), 0) else (0, 2)) := by
  unfold hangul_Put.f
  by_cases h0 : 4352 ≤ l ∧ l < 4371
  · rw [if_pos ((hasL l hl.1 hl.2).2 h0)]
    by_cases h1 : 4449 ≤ v ∧ v < 4470
    · rw [if_pos ((hasV v hv.1 hv.2).2 h1)]
      by_cases h2 : t = 0
      · rw [if_pos h2, if_pos ⟨h0, h1, .inl h2⟩, if_pos h2]
        simp only [Option.some.injEq, Prod.mk.injEq, and_true]
        omega
      · rw [if_neg h2]
        by_cases h3 : 4520 ≤ t ∧ t < 4547
        · rw [if_pos ((hasT t ht.1 ht.2).2 h3), if_pos ⟨h0, h1, .inr h3⟩, if_neg h2]
          simp only [Option.some.injEq, Prod.mk.injEq, and_true]
          omega
        · rw [if_neg (fun h => h3 ((hasT t ht.1 ht.2).1 h)), if_neg (fun h => h.2.2.elim h2 h3)]
    · rw [if_neg (fun h => h1 ((hasV v hv.1 hv.2).1 h)), if_neg (fun h => h1 h.2.1)]
  · rw [if_neg (fun h => h0 ((hasL l hl.1 hl.2).1 h)), if_neg (fun h => h0 h.1)]

theorem split_yes (c : Int) (h : 44032 ≤ c ∧ c ≤ 55203) :
    hangul_Split.f c = some (4352 + (c - 44032) / 28 / 21, 4449 + (c - 44032) / 28 % 21, if (c - 44032) % 28 = 0 then 0 else 4519 + (c - 44032) % 28, true) := by
  unfold hangul_Split.f
  rw [if_pos ((isB_iff c).2 h)]
  split <;> rfl

theorem split_no (c : Int) (h : ¬ (44032 ≤ c ∧ c ≤ 55203)) : hangul_Split.f c = some (0, 0, 0, false) := by
  unfold hangul_Split.f
  rw [if_neg (fun h' => h ((isB_iff c).1 h'))]

/-- What Join comes to. -/
theorem join_eq (a b : Int) (ha : 0 ≤ a ∧ a ≤ 4294967295) (hb : 0 ≤ b ∧ b ≤ 4294967295) :
    hangul_Join.f a b = some (if (4352 ≤ a ∧ a < 4371) ∧ (4449 ≤ b ∧ b < 4470) then (44032 + ((a - 4352) * 21 + (b - 4449)) * 28, true)
      else if (44032 ≤ a ∧ a ≤ 55203) ∧ (a - 44032) % 28 = 0 ∧ (4520 ≤ b ∧ b < 4547) then (a + (b - 4519), true) else (0, false)) := by
  unfold hangul_Join.f
  by_cases h : (4352 ≤ a ∧ a < 4371) ∧ (4449 ≤ b ∧ b < 4470)
  · have e := put_eq a b 0 ha hb (by omega)
    rw [if_pos ⟨h.1, h.2, .inl rfl⟩, if_pos rfl, Int.add_zero] at e
    rw [e, if_pos h]
    rfl
  · have e := put_eq a b 0 ha hb (by omega)
    rw [if_neg (fun h' => h ⟨h'.1, h'.2.1⟩)] at e
    rw [e, if_neg h]
    simp only [Option.bind_some]
    rw [if_neg (by omega)]
    by_cases h1 : 44032 ≤ a ∧ a ≤ 55203
    · rw [if_pos ((isB_iff a).2 h1)]
      by_cases h2 : (a - 44032) % 28 = 0
      · rw [if_pos h2]
        by_cases h3 : 4520 ≤ b ∧ b < 4547
        · rw [if_pos ((hasT b hb.1 hb.2).2 h3), if_pos ⟨h1, h2, h3⟩]
          simp only [Option.some.injEq, Prod.mk.injEq, and_true]
          omega
        · rw [if_neg (fun h' => h3 ((hasT b hb.1 hb.2).1 h')), if_neg (fun h' => h3 h'.2.2)]
      · rw [if_neg h2, if_neg (fun h' => h2 h'.2.1)]
    · rw [if_neg (fun h' => h1 ((isB_iff a).1 h')), if_neg (fun h' => h1 h'.1)]

end Go.Proofs.Ytmhehgkpbkoomaa.Pure
