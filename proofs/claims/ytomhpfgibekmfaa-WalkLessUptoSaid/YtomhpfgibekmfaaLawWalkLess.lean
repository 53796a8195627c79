/- The given statement WalkLessUptoSaid: for every input of bulk at most 1048576 the law returns true, and its arguments read afterwards as they did. Condition: the bulk, as the statement has it. -/
import Derived.Test.YtomhpfgibekmfaaRows
import Derived.Test.YtomhpfgibekmfaaPx5
import Derived.Test.YtomhpfgibekmfaaOp
import Derived.Test.YtomhpfgibekmfaaPureWalkLess
import Derived.WalkKit
import Derived.ProofKit
import Derived.OpenShut
import Derived.ShutString
import Derived.ChangeOld
import Derived.Below
import Derived.SizedLaws
import Derived.JoinedCond
namespace Go.Proofs.Ytomhpfgibekmfaa.walkLess
open Go.ChangeShapes Go.WideShapes Go.ChangeAt Go.RowKit Go.Proofs.YtomhpfgibekmfaaW.PrintWords
open Go.ChangeMaps (open_string shut_string)
set_option linter.unusedVariables false
set_option linter.unusedSimpArgs false
theorem own : ownKnob Try.prog.godebug = none := by kernel_rfl
theorem laidOut : laidOutB Try.prog = true := by kernel_rfl

theorem contract (H : Type) (enc : TypeId × Value → H) (W : World) (base : Nat) (args : Array Value) (ds gs : List (DataW H)) (before : List MemPlace)
    (hval0 : ∀ (j : Nat) t v, Try.f3.params[j]? = some t → args[j]? = some v → Value.okWide Try.prog W .any base t v)
    (hW : DataW.Whole enc Try.prog Try.f3.params.toList Rows.walkLessSpec.vars false W args.toList ds gs before) (hk : Rows.uptoSmall H (ds ++ gs) = true) :
    Calls Try.prog 3 args W fun e W' => ∃ v, e = .returned v ∧ Rows.walkLessSpec.post enc Try.prog Try.f3 false true false false W args v W' := by
  have hval := hval0
  have hW' := hW
  obtain ⟨p, q, hA0, hV, rfl, hfz, hnd⟩ := hW
  have hA : DataW.TrodAll enc Try.prog W 0 (fun _ => true) true Try.f3.params.toList args.toList ds p := hA0
  rw [Try.params3] at hA hval
  obtain ⟨v0, vs0, d0, ds0, p0, q0, hargs, rfl, rfl, h0, r0⟩ := trodAll_cons hA
  obtain ⟨v1, vs1, d1, ds1, p1, q1, rfl, rfl, rfl, h1, r1⟩ := trodAll_cons r0
  obtain ⟨rfl, rfl, rfl⟩ := trodAll_nil r1
  obtain rfl : args = #[v0, v1] := by cases args; simp_all
  obtain ⟨rfl, rfl⟩ := trodVars_none hV
  have hb := Op.bulk_small hk
  simp only [List.append_nil, List.cons_append, List.nil_append, Op.bulk_two] at hb
  have k0 := h0
  have lt0 : ∀ x ∈ p0, x.block < W.heap.size := by obtain ⟨m, hm⟩ := k0; exact DataW.trod_lt m _ _ _ hm
  obtain ⟨A0, a0, c0, rfl, hl0, hC0, w0, b0⟩ := Op.open_row (Op.reads_slice (Op.reads_string Try.underlying9 (by kernel_rfl)) Try.underlying22 (by kernel_rfl)) Try.underlying22 (hval 0 22 v0 rfl rfl) h0
  have k1 := h1
  have lt1 : ∀ x ∈ p1, x.block < W.heap.size := by obtain ⟨m, hm⟩ := k1; exact DataW.trod_lt m _ _ _ hm
  obtain ⟨A1, a1, c1, rfl, hl1, hC1, w1, b1⟩ := Op.open_row (Op.reads_slice (Op.reads_string Try.underlying9 (by kernel_rfl)) Try.underlying22 (by kernel_rfl)) Try.underlying22 (hval 1 22 v1 rfl rfl) h1
  obtain ⟨k, h⟩ := Pure.WalkLess a0 a1 w0 w1 (by simp only [Rows.uptoBulk, Rows.uptoBulkAll] at hb; omega)
  refine (P.gessolaw15_WalkLess.calls k _ _ a0 _ _ a1 true W hC0 hl0 hC1 hl1 h).mono fun e W' ⟨he, bel0⟩ => ?_
  have bel : Below W.heap.size W W' := bel0
  subst he
  exact ⟨_, rfl, _, _, _, [], _, [], hW', trodAll_mk1 (shut_bool Try.underlying4 _), (trodAll_cons_mk (Below.trod laidOut (by kernel_rfl) (of_decide_eq_true (by kernel_rfl)) k0 bel lt0) (trodAll_cons_mk (Below.trod laidOut (by kernel_rfl) (of_decide_eq_true (by kernel_rfl)) k1 bel lt1) trodAll_mk0)), rfl, bel.frame _, fun h => by cases h⟩

set_option maxRecDepth 100000 in
theorem lifted (os : Os) (started : os.Started) (H : Type) (enc : TypeId × Value → H) (F : Stop.Interp) :
    ReturnsInHanded {} Try.checked os 3 .any ((Rows.OpenSpec.upto Rows.walkLessSpec).pre6 enc Try.prog Try.f3 Rows.walkLessUptoRow.domain false) (((Rows.OpenSpec.upto Rows.walkLessSpec).at F).post enc Try.prog Try.f3 false true false false) := by
  refine returnsInHanded_of_cond (C := Try.checked) (s := Rows.OpenSpec.upto Rows.walkLessSpec) (k := Rows.uptoSmall) rfl own started (by kernel_rfl) Try.func3
    (OpenSpec.witness (enc := enc) (C := Try.checked) (s := Rows.OpenSpec.upto Rows.walkLessSpec) (k := Rows.uptoSmall) rfl false ⟨#[], #[.slice none 0 0, .slice none 0 0], []⟩ 8 (by kernel_rfl) (by kernel_rfl) (by kernel_rfl)
      (x := ([.nil, .nil], [], [])) (by kernel_rfl) rfl (by kernel_rfl)) ?_
  intro W base args ds gs before hval hW _ hk _
  exact contract H enc W base args ds gs before hval hW hk

theorem over : Rows.walkLessUptoRow.holds Try.pinned (Rows.OpenSpec.upto Rows.walkLessSpec) :=
  OpenClaim.holds_of_cond 3 Try.f3 rfl rfl rfl rfl rfl rfl rfl ⟨rfl, rfl, rfl, rfl, rfl⟩ rfl rfl rfl rfl rfl (by kernel_rfl) Try.func3 (by kernel_rfl)
    (of_decide_eq_true (by kernel_rfl)) (by unfold Func.isWrapper; first | (rw [if_pos (by decide +kernel)]; kernel_rfl) | (rw [if_neg (by decide +kernel)]; exact ⟨rfl, rfl⟩))
    (fun os started H enc _ F => lifted os started H enc F)
theorem proved : Rows.WalkLessUptoSaid := over
#print axioms proved
end Go.Proofs.Ytomhpfgibekmfaa.walkLess
namespace Go.Proofs.Ytomhpfgibekmfaa
/-- The row, under a short name, for the claim. -/
theorem walkLess_holds : Rows.WalkLessUptoSaid := walkLess.proved
end Go.Proofs.Ytomhpfgibekmfaa
