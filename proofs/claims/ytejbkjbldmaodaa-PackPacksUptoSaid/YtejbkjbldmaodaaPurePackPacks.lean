/- Pack: fields are packed as the document says, or it is told why not, and they stay as they are. Condition: the bulk, as the statement has it. -/
import Derived.Test.YtejbkjbldmaodaaN
import Derived.Test.YtejbkjbldmaodaaPx7
namespace Go.Proofs.Ytejbkjbldmaodaa.Pure
open Go.RowKit Go.Proofs.Ytejbkjbldmaodaa.P Go.Proofs.YtejbkjbldmaodaaW.PrintWords Go.Proofs.YtejbkjbldmaodaaW.PrintLast

theorem packs_loop (l : List (List Int)) (hb : ∀ x ∈ l, Bytes x) (h1 : (pk l).length ≤ 2097152) (h2 : l.length ≤ 1048576) (h3 : ∀ x ∈ l, x.length ≤ 1048576) : ∀ (d i : Nat), l.length - i = d → i ≤ l.length →
    Ev (fun k => gessolaw11_PackPacks.l0 k l (l.take i) (i : Int)) true := by
  intro d
  induction d with
  | zero =>
    intro i hd hi
    refine Ev.step (f := fun k => (pack_Pack.f k l).bind fun bt151 => ((gessoref11_Pack.f k l).bind fun bt155 => (if (strOfNums bt151.1).toList = (strOfNums bt155.1).toList then (if bt151.2 = bt155.2 then ((gessolaw11_sameFields.f k l l).bind fun t159 => (if t159 = true then ((gessolaw11_awake.f k).bind fun t160 => (some t160)) else (none))) else (none)) else (none)))) (fun k => ?_) ?_
    · rw [List.take_of_length_le (by omega)]
      simp only [gessolaw11_PackPacks.l0]
      rw [if_neg (by omega)]
    · refine Ev.bind (pack_ev l (by omega) (fun _ => by omega)) (Ev.bind (refpack_ev l (by omega) (by omega)) ?_)
      simp only [if_true]
      refine Ev.bind (same_ev l l (by omega) hb hb) ?_
      simp only [decide_true, if_true]
      exact Ev.bind awake_ev (Ev.now _)
  | succ d ih =>
    intro i hd hi
    have hlt : i < l.length := by omega
    have hx := h3 (l.getD i []) (by rw [getD_lt l [] i hlt]; exact List.getElem_mem hlt)
    refine Ev.step (f := fun k => gessolaw11_PackPacks.l0 k l (l.take (i + 1)) ((i + 1 : Nat) : Int)) (fun k => ?_) (ih (i + 1) (by omega) (by omega))
    simp only [gessolaw11_PackPacks.l0]
    rw [if_pos (by omega), rd1_nat]
    simp only [Option.bind_some, List.length_nil, List.nil_append]
    rw [if_pos (by omega), if_pos (by omega), if_pos (by rw [List.length_take]; omega), w64 (by omega) (by omega)]
    rw [List.take_succ_eq_append_getElem hlt, getD_lt l [] i hlt]
    rfl

theorem PackPacks (a0 : List (List Int)) (w0 : ∀ x ∈ a0, ∀ y ∈ x, (Lit.int .u8 y).wf = true) (hb : (a0.map (fun l => (l.map (fun _ => 1)).sum + 1)).sum + 1 ≤ 1048576) : ∃ k, gessolaw11_PackPacks.f k a0 = some true := by
  obtain ⟨h1, h2, h3⟩ := bulk_rows a0
  have := packs_loop a0 (rows_bytes w0) (by omega) (by omega) (fun x hx => by have := h3 x hx; omega) a0.length 0 (by omega) (by omega)
  refine Ev.rounds (Ev.congr (f := fun k => gessolaw11_PackPacks.l0 k a0 [] 0) (fun k => rfl) (by simpa using this))

end Go.Proofs.Ytejbkjbldmaodaa.Pure
