/- Pack: fields that are packed are unpacked as they were, and bytes that are unpacked are packed so. Condition: the bulk, as the statement has it. -/
import Derived.Test.YtejbkjbldmaodaaO
import Derived.Test.YtejbkjbldmaodaaPx14
namespace Go.Proofs.Ytejbkjbldmaodaa.Pure
open Go.RowKit Go.Proofs.Ytejbkjbldmaodaa.P Go.Proofs.YtejbkjbldmaodaaW.PrintWords Go.Proofs.YtejbkjbldmaodaaW.PrintLast

theorem back_j (b : List Int) (hy : Bytes b) (hl : b.length ≤ 1048576) : Ev (fun k => gessolaw11_PackBack.j0 k b false) true := by
  refine Ev.step (f := fun k => (pack_Unpack.f k b).bind fun bt256 => ((pack_Pack.f k bt256.1).bind fun bt260 => (if bt256.2 = 0 then (if bt260.2 = 0 then (if (strOfNums bt260.1).toList = (strOfNums b).toList then ((gessolaw11_awake.f k).bind fun t264 => (some t264)) else (if bt256.2 = 4 then (if (bt256.1.length : Int) = 0 then ((gessolaw11_awake.f k).bind fun t265 => (some t265)) else (none)) else (none))) else (if bt256.2 = 4 then (if (bt256.1.length : Int) = 0 then ((gessolaw11_awake.f k).bind fun t266 => (some t266)) else (none)) else (none))) else (if bt256.2 = 4 then (if (bt256.1.length : Int) = 0 then ((gessolaw11_awake.f k).bind fun t267 => (some t267)) else (none)) else (none))))) (fun k => ?_) ?_
  · simp only [gessolaw11_PackBack.j0]
    rw [if_neg (by decide)]
  · refine Ev.bind (unpack_ev b hy (by omega)) ?_
    cases h : U b with
    | none =>
      simp only [told]
      refine Ev.bind (pack_ev [] (by decide) (fun _ => by decide)) ?_
      simp
      exact awake_ev
    | some m =>
      simp only [told, List.nil_append]
      obtain ⟨e, hm⟩ := pk_U _ b m rfl hy h
      have hml := unp_length _ _ _ h
      refine Ev.bind (pack_ev m (by omega) (fun _ => by rw [e]; omega)) ?_
      rw [longs_of hm]
      simp only [Bool.false_eq_true, if_false, if_true, e]
      exact Ev.bind awake_ev (Ev.now _)

theorem PackBack (a0 : List (List Int)) (a1 : List Int) (w0 : ∀ x ∈ a0, ∀ y ∈ x, (Lit.int .u8 y).wf = true) (w1 : ∀ x ∈ a1, (Lit.int .u8 x).wf = true) (hb : (a0.map (fun l => (l.map (fun _ => 1)).sum + 1)).sum + 1 + ((a1.map (fun _ => 1)).sum + 1) ≤ 1048576) : ∃ k, gessolaw11_PackBack.f k a0 a1 = some true := by
  obtain ⟨h1, h2, h3⟩ := bulk_rows a0
  rw [ones a1] at hb
  have hr := rows_bytes w0
  have hj := back_j a1 (Bytes.of a1 w1) (by omega)
  refine Ev.rounds ?_
  unfold gessolaw11_PackBack.f
  refine Ev.bind (pack_ev a0 (by omega) (fun _ => by omega)) ?_
  cases hlg : longs a0 with
  | true =>
    simp only [if_true]
    refine Ev.bind (unpack_ev [] (fun x hx => by simp at hx) (by decide)) ?_
    exact hj
  | false =>
    simp only [Bool.false_eq_true, if_false]
    have hn := no_long hlg
    refine Ev.bind (unpack_ev (pk a0) (pk_bytes hr hn) (by omega)) ?_
    rw [U_pk' a0 hn]
    simp only [told, List.nil_append, if_true]
    refine Ev.bind (same_ev a0 a0 (by omega) hr hr) ?_
    simp only [decide_true, if_true]
    exact hj

end Go.Proofs.Ytejbkjbldmaodaa.Pure
