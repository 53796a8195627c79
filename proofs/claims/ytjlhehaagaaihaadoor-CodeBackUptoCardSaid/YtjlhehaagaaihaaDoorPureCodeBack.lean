/- The plain law CodeBack. No condition. -/
import Derived.Test.YtjlhehaagaaihaaDoorPx4
import Derived.Test.YtjlhehaagaaihaaDoorMe
namespace Go.Proofs.YtjlhehaagaaihaaDoor.Pure
open Go.RowKit Go.Proofs.YtjlhehaagaaihaaDoor.P Go.Proofs.YtjlhehaagaaihaaDoorW.PrintWords Go.Proofs.YtjlhehaagaaihaaDoorW.PrintLast
set_option linter.unusedSimpArgs false

theorem awake_ev : Ev (fun k => gessolaw01_awake.f k) true := Ev.of gessolaw01_awake.mono (k := 10) (by decide +kernel)
theorem isC_pos {cs : List Int} (h : allC cs) : ∀ x ∈ cs, 0 ≤ x := fun x hx => (h x hx).1
theorem raw_ev (l : List Int) (hb : Bytes l) (hl : l.length ≤ 1048576) : Ev (fun k => gessolaw01_CodeBack.j0 k l false) true := by
  obtain ⟨cs, r, hc, he, hr⟩ := parts _ l (Nat.le_refl _) hb
  have hcl := encs_ge cs hc
  have hlen := congrArg List.length he
  rw [List.length_append] at hlen
  have h1 := codes_parts cs r hc hr (by rw [← he]; exact hb) (by omega)
  have h2 := cfault_ev cs r hc hr (by rw [← he]; exact hb) (by rw [← he]; omega)
  rw [← he] at h1 h2
  refine Ev.step (fun k => by rw [gessolaw01_CodeBack.j0, if_neg (by decide), h1, Option.bind_some]) ?_
  by_cases h : r = []
  · subst h
    rw [List.append_nil] at he
    simp only [if_true]
    refine Ev.bind (cbytes_ev cs (isC_pos hc) (by omega)) ?_
    simp only [told, if_pos hc, if_true, he]
    exact Ev.bind awake_ev (Ev.now _)
  · simp only [if_neg h]
    refine Ev.bind (cbytes_ev [] (by simp) (by simp)) ?_
    have e : told [] = ([], 0) := by simp [told, allC, encs]
    rw [e]
    simp only [show ¬ ((6 : Int) = 0) by decide, if_false, if_true, List.length_nil, Int.natCast_zero]
    refine Ev.bind h2 ?_
    simp only [flt, if_neg h, if_pos (show ((encs cs).length : Int) ≥ 0 by omega)]
    exact Ev.bind awake_ev (Ev.now _)
theorem back_ev (l m : List Int) (h0 : ∀ x ∈ l, 0 ≤ x) (hb : Bytes m) (hl : l.length ≤ 1048576) (hm : m.length ≤ 1048576) : Ev (fun k => gessolaw01_CodeBack.f k l m) true := by
  unfold gessolaw01_CodeBack.f
  refine Ev.bind (cbytes_ev l h0 (by omega)) ?_
  unfold told
  by_cases h : allC l
  · have hcl := encs_length l
    have h1 := codes_parts l [] h (.inl rfl) (by rw [List.append_nil]; exact encs_bytes l) (by omega)
    have h2 := cfault_ev l [] h (.inl rfl) (by rw [List.append_nil]; exact encs_bytes l) (by rw [List.append_nil]; omega)
    rw [List.append_nil] at h1 h2
    simp only [if_pos h, h1, Option.bind_some, if_true]
    refine Ev.bind (same_ev l (by omega)) ?_
    simp only [if_true]
    refine Ev.bind h2 ?_
    simp only [flt, if_true]
    exact raw_ev m hb hm
  · have h1 := codes_parts [] [] (by simp [allC]) (.inl rfl) (by simp [encs, Bytes]) (by simp)
    simp only [encs, List.flatMap_nil, List.append_nil, if_true] at h1
    simp only [if_neg h, h1, Option.bind_some, show ¬ ((2 : Int) = 0) by decide, if_false, if_true, List.length_nil, Int.natCast_zero]
    exact raw_ev m hb hm
theorem CodeBack (l m : List Int) (wa : ∀ x ∈ l, (Lit.int .u32 x).wf = true) (wb : ∀ x ∈ m, (Lit.int .u8 x).wf = true) (h : (l.map fun _ => 1).sum + 1 + ((m.map fun _ => 1).sum + 1) ≤ 1048576) : ∃ k, gessolaw01_CodeBack.f k l m = some true :=
  (back_ev l m (fun x hx => (bounds_u32 (wa x hx)).1) (Bytes.of m wb) (by rw [ones, ones] at h; omega) (by rw [ones, ones] at h; omega)).rounds
end Go.Proofs.YtjlhehaagaaihaaDoor.Pure
