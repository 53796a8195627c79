/- The plain law WalkLess. No condition. -/
import Derived.Test.YtomhpfgibekmfaaMw
namespace Go.Proofs.Ytomhpfgibekmfaa.Pure
open Go.RowKit Go.Proofs.Ytomhpfgibekmfaa.P Go.Proofs.YtomhpfgibekmfaaW.PrintWords Go.Proofs.YtomhpfgibekmfaaW.PrintLast
set_option linter.unusedSimpArgs false
set_option linter.unusedVariables false
theorem txt_length (l : Pth) : (txt l).length = (l.map fun s => s.size + 1).sum := by
  induction l with
  | nil => rfl
  | cons x l ih =>
    rw [List.map_cons, List.sum_cons, ← ih, size_list]
    show ((47 :: x.data.toList) ++ txt l).length = _
    rw [List.length_append, List.length_cons]
theorem names_le (l : Pth) : l.length ≤ (l.map fun s => s.size + 1).sum := by
  induction l with
  | nil => exact Nat.le_refl _
  | cons x l ih =>
    rw [List.map_cons, List.sum_cons, List.length_cons]
    omega
theorem WalkLess (a b : Pth) (wa : ∀ x ∈ a, x.size ≤ maxLen) (wb : ∀ x ∈ b, x.size ≤ maxLen) (h : (a.map fun s => s.size + 1).sum + 1 + ((b.map fun s => s.size + 1).sum + 1) ≤ 1048576) : ∃ k, gessolaw15_WalkLess.f k a b = some true := by
  have ha := names_le a
  have hb := names_le b
  have hj0 : Ev (fun k => gessolaw15_WalkLess.j0 k a b true) true := by
    refine Ev.step (f := fun k => (gessolaw15_awake.f k).bind fun t => some t) (fun k => by rw [gessolaw15_WalkLess.j0, if_pos rfl]) ?_
    exact Ev.bind awake_ev (Ev.now _)
  have hj1 : Ev (fun k => gessolaw15_WalkLess.j0 k a b false) true := by
    obtain ⟨r, h1, h2⟩ := rtext_loop a (by omega) a.length 0 ⟨#[]⟩ (by omega) (by omega) (by rw [List.drop_zero, txt_length]; show 0 + _ ≤ _; omega)
    rw [List.drop_zero] at h2
    have ht : (txt a).length ≤ 1048576 := by rw [txt_length]; omega
    have hjt := joined_txt a
    have hjl : (joined a).length ≤ 140737488355328 := by
      have h3 := congrArg List.length hjt
      rw [List.length_cons] at h3
      split at h3
      · have h4 : ([47] : List UInt8).length = 1 := rfl
        omega
      · omega
    have hw : walk_Text.f a = some (⟨#[47]⟩ ++ ⟨(joined a).toArray⟩) := if_pos ⟨by omega, hjl⟩
    have heq : ((⟨#[47]⟩ : ByteArray) ++ ⟨(joined a).toArray⟩).toList = r.toList := by
      rw [ByteArray.toList_eq, ByteArray.toList_eq, data_app, h2]
      show 47 :: joined a = _
      rw [hjt]
      rfl
    refine Ev.step (f := fun k => (walk_Less.f k a b).bind fun t170 => ((gessoref15_Less.f k a b).bind fun t171 => (if (t170 == t171) = true then ((walk_Deeper.f k a b).bind fun t172 => ((gessoref15_Deeper.f k a b).bind fun t173 => (if (t172 == t173) = true then ((walk_Text.f a).bind fun t174 => ((gessoref15_Text.f k a).bind fun t175 => (if t174.toList = t175.toList then ((gessolaw15_awake.f k).bind fun t176 => (some t176)) else (none)))) else (none)))) else (none)))) (fun k => by rw [gessolaw15_WalkLess.j0, if_neg (by decide)]) ?_
    refine Ev.bind (less_ev a b (by omega)) (Ev.bind (rless_ev a b (by omega)) ?_)
    simp only [beq_self_eq_true, if_true]
    refine Ev.bind (deeper_ev a b (by omega)) (Ev.bind (rdeeper_ev a b (by omega)) ?_)
    simp only [beq_self_eq_true, if_true, hw, Option.bind_some]
    refine Ev.bind h1 ?_
    simp only [heq, if_true]
    exact Ev.bind awake_ev (Ev.now _)
  unfold gessolaw15_WalkLess.f
  by_cases h1 : (a.length : Int) > 1000
  · simp only [if_pos h1]
    exact hj0.rounds
  · simp only [if_neg h1]
    by_cases h2 : (b.length : Int) > 1000
    · simp only [decide_eq_true h2]
      exact hj0.rounds
    · simp only [decide_eq_false h2]
      exact hj1.rounds
end Go.Proofs.Ytomhpfgibekmfaa.Pure
