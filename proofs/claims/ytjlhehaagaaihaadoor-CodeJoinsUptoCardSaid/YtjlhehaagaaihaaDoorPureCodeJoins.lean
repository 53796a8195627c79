/- The plain law CodeJoins. No condition. -/
import Derived.Test.YtjlhehaagaaihaaDoorPx19
import Derived.Test.YtjlhehaagaaihaaDoorMd
namespace Go.Proofs.YtjlhehaagaaihaaDoor.Pure
open Go.RowKit Go.Proofs.YtjlhehaagaaihaaDoor.P Go.Proofs.YtjlhehaagaaihaaDoorW.PrintWords Go.Proofs.YtjlhehaagaaihaaDoorW.PrintLast
set_option linter.unusedSimpArgs false

theorem awake_ev : Ev (fun k => gessolaw01_awake.f k) true := Ev.of gessolaw01_awake.mono (k := 10) (by decide +kernel)
theorem encs_append (a b : List Int) : encs (a ++ b) = encs a ++ encs b := by simp [encs]
theorem allC_append {a b : List Int} (h : allC a) (k : allC b) : allC (a ++ b) := fun x hx => (List.mem_append.1 hx).elim (h x) (k x)
theorem joins (a b : List Int) (ha : Bytes a) (hb : Bytes b) (hl : a.length + b.length < 140737488355328) : Ev (fun k => gessolaw01_CodeJoins.f k a b) true := by
  obtain ⟨cs, r, hc, he, hr⟩ := parts _ a (Nat.le_refl _) ha
  obtain ⟨ds, t, hd, hf, ht⟩ := parts _ b (Nat.le_refl _) hb
  obtain ⟨es, u, hu, hg, hv⟩ := parts _ (r ++ b) (Nat.le_refl _) (by rw [he] at ha; exact (fun x hx => (List.mem_append.1 hx).elim (fun h => ha x (by simp [h])) (hb x)))
  have ea : Ev (fun k => code_Fault.f k a) (flt cs r) := by
    have := cfault_ev cs r hc hr (by rw [← he]; exact ha) (by rw [← he]; omega)
    rwa [← he] at this
  have eb : Ev (fun k => code_Fault.f k b) (flt ds t) := by
    have := cfault_ev ds t hd ht (by rw [← hf]; exact hb) (by rw [← hf]; omega)
    rwa [← hf] at this
  have hab : Bytes (a ++ b) := ha.append hb
  have hall : ∀ xs w, allC xs → a ++ b = encs xs ++ w → (w = [] ∨ (w ≠ [] ∧ one4 w = (0, 0))) → Ev (fun k => code_Fault.f k (a ++ b)) (flt xs w) := fun xs w hx e hw => by
    have := cfault_ev xs w hx hw (by rw [← e]; exact hab) (by rw [← e, List.length_append]; omega)
    rwa [← e] at this
  have la : a.length = (encs cs).length + r.length := by rw [he, List.length_append]
  unfold gessolaw01_CodeJoins.f
  refine Ev.bind ea (Ev.bind eb ?_)
  simp only [Option.bind_some, List.nil_append, List.length_nil, Nat.zero_add, if_pos (show a.length < 140737488355328 by omega), if_pos hl]
  by_cases h1 : r = []
  · subst h1
    simp only [List.append_nil] at he
    have e2 : a ++ b = encs (cs ++ ds) ++ t := by rw [encs_append, List.append_assoc, ← hf, ← he]
    refine Ev.bind (hall _ t (allC_append hc hd) e2 ht) ?_
    simp only [flt, if_true]
    by_cases h2 : t = []
    · simp only [if_pos h2, decide_eq_true (show (-1 : Int) < 0 by decide), show (-1 : Int) < 0 by decide, if_true]
      refine Ev.step (fun k => by simp only [gessolaw01_CodeJoins.j0, if_true]; rfl) ?_
      exact Ev.bind awake_ev (Ev.now _)
    · simp only [if_neg h2, decide_eq_false (show ¬ ((encs ds).length : Int) < 0 by omega), show (-1 : Int) < 0 by decide, if_true]
      refine Ev.step (f := fun k => (gessolaw01_awake.f k).bind fun t242 => some t242) (fun k => ?_) (Ev.bind awake_ev (Ev.now _))
      simp only [gessolaw01_CodeJoins.j0, Bool.false_eq_true, if_false, show (-1 : Int) < 0 by decide, if_true]
      rw [if_pos]
      rw [w64 (by omega) (by have := congrArg List.length hf; rw [List.length_append] at this; omega), encs_append, List.length_append, he]
      omega
  · have e2 : a ++ b = encs (cs ++ es) ++ u := by rw [encs_append, List.append_assoc, ← hg, ← List.append_assoc, ← he]
    refine Ev.bind (hall _ u (allC_append hc hu) e2 hv) ?_
    simp only [flt, if_neg h1]
    simp only [if_neg (show ¬ ((encs cs).length : Int) < 0 by omega)]
    refine Ev.step (f := fun k => (gessolaw01_awake.f k).bind fun t242 => some t242) (fun k => ?_) (Ev.bind awake_ev (Ev.now _))
    simp only [gessolaw01_CodeJoins.j0, Bool.false_eq_true, if_false, if_neg (show ¬ ((encs cs).length : Int) < 0 by omega)]
    by_cases h3 : u = []
    · rw [if_pos h3, if_neg (by omega), if_pos rfl]
    · rw [if_neg h3, if_pos (by rw [encs_append, List.length_append]; omega)]
theorem CodeJoins (a b : List Int) (wa : ∀ x ∈ a, (Lit.int .u8 x).wf = true) (wb : ∀ x ∈ b, (Lit.int .u8 x).wf = true) (h : (a.map fun _ => 1).sum + 1 + ((b.map fun _ => 1).sum + 1) ≤ 1048576) : ∃ k, gessolaw01_CodeJoins.f k a b = some true :=
  (joins a b (Bytes.of a wa) (Bytes.of b wb) (by have ones : ∀ l : List Int, (l.map (fun _ => 1)).sum = l.length := (fun l => by induction l with
    | nil => rfl
    | cons x l ih => simp [ih]; omega)
                                                 rw [ones, ones] at h; omega)).rounds
end Go.Proofs.YtjlhehaagaaihaaDoor.Pure
