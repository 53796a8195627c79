/- The given statement PackJoinsUptoSaid: for every input of bulk at most 1048576 the law returns true, and its arguments read afterwards as they did. Condition: the bulk, as the statement has it. -/
import Derived.Test.YtejbkjbldmaodaaRows
import Derived.Test.YtejbkjbldmaodaaPx15
import Derived.Test.YtejbkjbldmaodaaOp
import Derived.Test.YtejbkjbldmaodaaPurePackJoins
import Derived.WalkKit
import Derived.ProofKit
import Derived.OpenShut
import Derived.ShutString
import Derived.ChangeOld
import Derived.Below
import Derived.SizedLaws
import Derived.JoinedCond
namespace Go.Proofs.Ytejbkjbldmaodaa.packJoins
open Go.ChangeShapes Go.WideShapes Go.ChangeAt Go.RowKit Go.Proofs.YtejbkjbldmaodaaW.PrintWords
open Go.ChangeMaps (open_string shut_string)
set_option linter.unusedVariables false
set_option linter.unusedSimpArgs false
theorem own : ownKnob Try.prog.godebug = none := by kernel_rfl
theorem laidOut : laidOutB Try.prog = true := by kernel_rfl

theorem contract (H : Type) (enc : TypeId × Value → H) (W : World) (base : Nat) (args : Array Value) (ds gs : List (DataW H)) (before : List MemPlace)
    (hval0 : ∀ (j : Nat) t v, Try.f7.params[j]? = some t → args[j]? = some v → Value.okWide Try.prog W .any base t v)
    (hW : DataW.Whole enc Try.prog Try.f7.params.toList Rows.packJoinsSpec.vars false W args.toList ds gs before) (hk : Rows.uptoSmall H (ds ++ gs) = true) :
    Calls Try.prog 7 args W fun e W' => ∃ v, e = .returned v ∧ Rows.packJoinsSpec.post enc Try.prog Try.f7 false true false false W args v W' := by
  have hval := hval0
  have hW' := hW
  obtain ⟨p, q, hA0, hV, rfl, hfz, hnd⟩ := hW
  have hA : DataW.TrodAll enc Try.prog W 0 (fun _ => true) true Try.f7.params.toList args.toList ds p := hA0
  rw [Try.params7] at hA hval
  obtain ⟨v0, vs0, d0, ds0, p0, q0, hargs, rfl, rfl, h0, r0⟩ := trodAll_cons hA
  obtain ⟨v1, vs1, d1, ds1, p1, q1, rfl, rfl, rfl, h1, r1⟩ := trodAll_cons r0
  obtain ⟨v2, vs2, d2, ds2, p2, q2, rfl, rfl, rfl, h2, r2⟩ := trodAll_cons r1
  obtain ⟨rfl, rfl, rfl⟩ := trodAll_nil r2
  obtain rfl : args = #[v0, v1, v2] := by cases args; simp_all
  obtain ⟨rfl, rfl⟩ := trodVars_none hV
  have hb := Op.bulk_small hk
  simp only [List.append_nil, List.cons_append, List.nil_append, Op.bulk_two] at hb
  have k0 := h0
  have lt0 : ∀ x ∈ p0, x.block < W.heap.size := by obtain ⟨m, hm⟩ := k0; exact DataW.trod_lt m _ _ _ hm
  obtain ⟨A0, a0, c0, rfl, hl0, hC0, w0, b0⟩ := Op.open_row (Op.reads_slice (Op.reads_slice (Op.reads_int Try.underlying5 (by kernel_rfl)) Try.underlying23 (by kernel_rfl)) Try.underlying22 (by kernel_rfl)) Try.underlying22 (hval 0 22 v0 rfl rfl) h0
  have k1 := h1
  have lt1 : ∀ x ∈ p1, x.block < W.heap.size := by obtain ⟨m, hm⟩ := k1; exact DataW.trod_lt m _ _ _ hm
  obtain ⟨A1, a1, c1, rfl, hl1, hC1, w1, b1⟩ := Op.open_row (Op.reads_slice (Op.reads_slice (Op.reads_int Try.underlying5 (by kernel_rfl)) Try.underlying23 (by kernel_rfl)) Try.underlying22 (by kernel_rfl)) Try.underlying22 (hval 1 22 v1 rfl rfl) h1
  obtain ⟨a2, rfl, rfl, rfl, w2⟩ := open_int Try.underlying45 (hval 2 45 v2 rfl rfl) h2
  obtain ⟨k, h⟩ := Pure.PackJoins a0 a1 a2 w0 w1 w2 (by simp only [Rows.uptoBulk, Rows.uptoBulkAll] at hb; omega)
  refine (P.gessolaw11_PackJoins.calls k _ _ _ a0 _ _ _ a1 a2 true W (Kd.V_mk hl0 (Kd.C_F (Kd.heap_slice 5 (Kd.heap_int .u8)) hC0)) (Kd.V_mk hl1 (Kd.C_F (Kd.heap_slice 5 (Kd.heap_int .u8)) hC1)) h).mono fun e W' ⟨he, bel0⟩ => ?_
  have bel : Below W.heap.size W W' := bel0
  subst he
  exact ⟨_, rfl, _, _, _, [], _, [], hW', trodAll_mk1 (shut_bool Try.underlying4 _), (trodAll_cons_mk (Below.trod laidOut (by kernel_rfl) (of_decide_eq_true (by kernel_rfl)) k0 bel lt0) (trodAll_cons_mk (Below.trod laidOut (by kernel_rfl) (of_decide_eq_true (by kernel_rfl)) k1 bel lt1) (trodAll_cons_mk (shut_int Try.underlying45 w2) trodAll_mk0))), rfl, bel.frame _, fun h => by cases h⟩

set_option maxRecDepth 100000 in
theorem lifted (os : Os) (started : os.Started) (H : Type) (enc : TypeId × Value → H) (F : Stop.Interp) :
    ReturnsInHanded {} Try.checked os 7 .any ((Rows.OpenSpec.upto Rows.packJoinsSpec).pre6 enc Try.prog Try.f7 Rows.packJoinsUptoRow.domain false) (((Rows.OpenSpec.upto Rows.packJoinsSpec).at F).post enc Try.prog Try.f7 false true false false) := by
  refine returnsInHanded_of_cond (C := Try.checked) (s := Rows.OpenSpec.upto Rows.packJoinsSpec) (k := Rows.uptoSmall) rfl own started (by kernel_rfl) Try.func7
    (OpenSpec.witness (enc := enc) (C := Try.checked) (s := Rows.OpenSpec.upto Rows.packJoinsSpec) (k := Rows.uptoSmall) rfl false ⟨#[], #[.slice none 0 0, .slice none 0 0, .int .u16 0], []⟩ 8 (by kernel_rfl) (by kernel_rfl) (by kernel_rfl)
      (x := ([.nil, .nil, .lit (.int .u16 0)], [], [])) (by kernel_rfl) rfl (by kernel_rfl)) ?_
  intro W base args ds gs before hval hW _ hk _
  exact contract H enc W base args ds gs before hval hW hk

theorem over : Rows.packJoinsUptoRow.holds Try.pinned (Rows.OpenSpec.upto Rows.packJoinsSpec) :=
  OpenClaim.holds_of_cond 7 Try.f7 rfl rfl rfl rfl rfl rfl rfl ⟨rfl, rfl, rfl, rfl, rfl⟩ rfl rfl rfl rfl rfl (by kernel_rfl) Try.func7 (by kernel_rfl)
    (of_decide_eq_true (by kernel_rfl)) (by unfold Func.isWrapper; first | (rw [if_pos (by decide +kernel)]; kernel_rfl) | (rw [if_neg (by decide +kernel)]; exact ⟨rfl, rfl⟩))
    (fun os started H enc _ F => lifted os started H enc F)
theorem proved : Rows.PackJoinsUptoSaid := over
#print axioms proved
end Go.Proofs.Ytejbkjbldmaodaa.packJoins
namespace Go.Proofs.Ytejbkjbldmaodaa
/-- The row, under a short name, for the claim. -/
theorem packJoins_holds : Rows.PackJoinsUptoSaid := packJoins.proved
end Go.Proofs.Ytejbkjbldmaodaa
