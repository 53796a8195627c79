/- Pack: bytes are the fields that the document says, or none, and what is told is the asker's own. Condition: the bulk, as the statement has it. -/
import Derived.Test.YtejbkjbldmaodaaO
import Derived.Test.YtejbkjbldmaodaaPx13
namespace Go.Proofs.Ytejbkjbldmaodaa.Pure
open Go.RowKit Go.Proofs.Ytejbkjbldmaodaa.P Go.Proofs.YtejbkjbldmaodaaW.PrintWords Go.Proofs.YtejbkjbldmaodaaW.PrintLast

theorem map_set_len (x : List (List Int)) (i : Nat) (r : List Int) (h : r.length = (x.getD i []).length) : (x.set i r).map List.length = x.map List.length := by
  rw [List.map_set, h]
  apply List.ext_getElem?
  intro j
  rw [List.getElem?_set]
  by_cases e : i = j
  · subst e
    by_cases hl : i < x.length
    · simp [hl]
    · simp [hl]
  · simp [e]
theorem len_at (x : List (List Int)) (S : List Nat) (hS : x.map List.length = S) (i : Nat) (h : i < x.length) : (x.getD i []).length = S.getD i 0 := by
  subst hS
  simp [h]

theorem row_loop (b : List Int) (S : List Nat) (i : Nat) (hi : i < S.length) (hS : S.length ≤ 1048576) (hm : S.getD i 0 ≤ 4194304) (next : ∀ x : List (List Int), x.map List.length = S → Ev (fun k => gessolaw11_PackUnpacks.l0 k b b x true ((i + 1 : Nat) : Int)) true) :
    ∀ (d j : Nat) (x : List (List Int)), x.map List.length = S → S.getD i 0 - j = d → j ≤ S.getD i 0 → Ev (fun k => gessolaw11_PackUnpacks.l1 k b b x true (i : Int) (j : Int)) true := by
  intro d
  induction d with
  | zero =>
    intro j x hx hd hj
    have hlen : x.length = S.length := by rw [← hx, List.length_map]
    have hr := len_at x S hx i (by omega)
    refine Ev.step (f := fun k => gessolaw11_PackUnpacks.l0 k b b x true ((i + 1 : Nat) : Int)) (fun k => ?_) (next x hx)
    simp only [gessolaw11_PackUnpacks.l1]
    rw [if_pos (by omega), if_pos (by omega), rd1_nat, if_neg (by omega), w64 (by omega) (by omega)]
    rfl
  | succ d ih =>
    intro j x hx hd hj
    have hlen : x.length = S.length := by rw [← hx, List.length_map]
    have hr := len_at x S hx i (by omega)
    refine Ev.step (f := fun k => gessolaw11_PackUnpacks.l1 k b b (x.set i ((x.getD i []).set j (((rd (x.getD i []) (j : Int)) + 1) % 256))) true (i : Int) ((j + 1 : Nat) : Int)) (fun k => ?_) (ih (j + 1) _ (by rw [map_set_len _ _ _ (by simp only [List.length_set]), hx]) (by omega) (by omega))
    simp only [gessolaw11_PackUnpacks.l1]
    rw [if_pos (by omega), if_pos (by omega), rd1_nat, if_pos (by omega), if_pos (by omega), w64 (by omega) (by omega)]
    rfl

theorem rows_loop (b : List Int) (S : List Nat) (hS : S.length ≤ 1048576) (hm : ∀ i, S.getD i 0 ≤ 4194304) :
    ∀ (d i : Nat) (x : List (List Int)), x.map List.length = S → S.length - i = d → i ≤ S.length → Ev (fun k => gessolaw11_PackUnpacks.l0 k b b x true (i : Int)) true := by
  intro d
  induction d with
  | zero =>
    intro i x hx hd hi
    have hlen : x.length = S.length := by rw [← hx, List.length_map]
    refine Ev.step (f := fun k => (gessolaw11_awake.f k).bind fun t => some t) (fun k => ?_) (Ev.bind awake_ev (Ev.now _))
    simp only [gessolaw11_PackUnpacks.l0]
    rw [if_neg (by omega), if_pos trivial, if_pos trivial]
  | succ d ih =>
    intro i x hx hd hi
    have hlen : x.length = S.length := by rw [← hx, List.length_map]
    refine Ev.step (f := fun k => gessolaw11_PackUnpacks.l1 k b b x true (i : Int) ((0 : Nat) : Int)) (fun k => ?_) (row_loop b S i (by omega) hS (hm i) (fun y hy => ih (i + 1) y hy (by omega) (by omega)) (S.getD i 0) 0 x hx (by omega) (by omega))
    simp only [gessolaw11_PackUnpacks.l0]
    rw [if_pos (by omega)]
    rfl

theorem told_rows (b : List Int) (hb : Bytes b) : ∀ i, ((told [] (U b)).1.map List.length).getD i 0 ≤ b.length + 1024 := by
  intro i
  cases h : U b with
  | none => simp [told]
  | some l =>
    have hm := (pk_U _ b l rfl hb h).2
    simp only [told, List.nil_append]
    by_cases hi : i < l.length
    · rw [getD_lt _ _ _ (by simpa using hi)]
      have := hm l[i] (List.getElem_mem hi)
      simp
      omega
    · simp [hi]

theorem PackUnpacks (a0 : List Int) (w0 : ∀ x ∈ a0, (Lit.int .u8 x).wf = true) (hb : (a0.map (fun _ => 1)).sum + 1 ≤ 1048576) : ∃ k, gessolaw11_PackUnpacks.f k a0 = some true := by
  rw [ones] at hb
  have hy := Bytes.of a0 w0
  have htl := told_length a0
  refine Ev.rounds ?_
  unfold gessolaw11_PackUnpacks.f
  simp only [Option.bind_some, List.length_nil, List.nil_append]
  simp only [if_pos (show 0 + a0.length < 140737488355328 by omega)]
  refine Ev.bind (unpack_ev a0 hy (by omega)) (Ev.bind (refunpack_ev a0 hy (by omega)) ?_)
  have hbt : ∀ x ∈ (told [] (U a0)).1, Bytes x := by
    cases h : U a0 with
    | none => simp [told]
    | some l => simpa [told] using U_bytes hy h
  refine Ev.bind (same_ev _ _ (by omega) hbt hbt) ?_
  simp only [decide_true, if_true, beq_self_eq_true]
  refine Ev.step (f := fun k => gessolaw11_PackUnpacks.l0 k a0 a0 (told [] (U a0)).1 true ((0 : Nat) : Int)) (fun k => rfl) ?_
  exact rows_loop a0 _ (by rw [List.length_map]; omega) (fun i => by have := told_rows a0 hy i; omega) _ 0 _ rfl rfl (by omega)

end Go.Proofs.Ytejbkjbldmaodaa.Pure
