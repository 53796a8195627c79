/- The given statement ScanGoesSaid: for every input the law returns true, and its arguments read afterwards as they did. No condition. -/
import Derived.Test.YtjlhehaagaaihaaDoorRows
import Derived.Test.YtjlhehaagaaihaaDoorLg
import Derived.Test.YtjlhehaagaaihaaDoorOp
import Derived.Test.YtjlhehaagaaihaaDoorPureScanGoes
import Derived.Test.YtjlhehaagaaihaaDoorKa
import Derived.WalkKit
import Derived.ProofKit
import Derived.OpenShut
import Derived.ShutString
import Derived.ChangeOld
import Derived.Below
import Derived.SizedLaws
import Derived.JoinedCond
import Derived.Lib.SmallJoins
namespace Go.Proofs.YtjlhehaagaaihaaDoor.scanGoes
open Go.ChangeShapes Go.WideShapes Go.ChangeAt Go.RowKit Go.Proofs.YtjlhehaagaaihaaDoorW.PrintWords
open Go.ChangeMaps (open_string shut_string)
set_option linter.unusedVariables false
set_option linter.unusedSimpArgs false
theorem own : ownKnob Tryd.prog.godebug = none := by kernel_rfl
theorem laidOut : laidOutB Tryd.prog = true := by kernel_rfl

theorem contract (H : Type) (enc : TypeId × Value → H) (W : World) (base : Nat) (args : Array Value) (ds gs : List (DataW H)) (before : List MemPlace)
    (hval0 : ∀ (j : Nat) t v, Tryd.f15.params[j]? = some t → args[j]? = some v → Value.okWide Tryd.prog W .any base t v)
    (hW : DataW.Whole enc Tryd.prog Tryd.f15.params.toList Rows.scanGoesSpec.vars false W args.toList ds gs before) (hT : P.Tabs W) :
    Calls Tryd.prog 15 args W fun e W' => ∃ v, e = .returned v ∧ Rows.scanGoesSpec.post enc Tryd.prog Tryd.f15 false true false false W args v W' := by
  have hval := hval0
  have hW' := hW
  obtain ⟨p, q, hA0, hV, rfl, hfz, hnd⟩ := hW
  have hA : DataW.TrodAll enc Tryd.prog W 0 (fun _ => true) true Tryd.f15.params.toList args.toList ds p := hA0
  rw [Tryd.params15] at hA hval
  obtain ⟨v0, vs0, d0, ds0, p0, q0, hargs, rfl, rfl, h0, r0⟩ := trodAll_cons hA
  obtain ⟨v1, vs1, d1, ds1, p1, q1, rfl, rfl, rfl, h1, r1⟩ := trodAll_cons r0
  obtain ⟨rfl, rfl, rfl⟩ := trodAll_nil r1
  obtain rfl : args = #[v0, v1] := by cases args; simp_all
  obtain ⟨rfl, rfl⟩ := trodVars_none hV
  have k0 := h0
  have lt0 : ∀ x ∈ p0, x.block < W.heap.size := by obtain ⟨m, hm⟩ := k0; exact DataW.trod_lt m _ _ _ hm
  obtain ⟨x00, x01, x02, y00, y01, y02, n0, rfl, rfl, rfl, t00, t01, t02⟩ := Go.Joins.open_agg3 Tryd.underlying59 (by kernel_rfl) (by kernel_rfl) (hval 0 59 v0 rfl rfl) h0
  obtain ⟨a00, e00, -, w00⟩ := DataW.trod_int Tryd.underlying3 t00
  obtain rfl := (List.cons.inj e00).1
  obtain ⟨a01, e01, -, w01⟩ := DataW.trod_int Tryd.underlying3 t01
  obtain rfl := (List.cons.inj e01).1
  obtain ⟨a02, ⟨A02, c02, e02, hl02, hC02⟩, w02, b02⟩ := (Op.reads_slice (Op.reads_int Tryd.underlying5 (by kernel_rfl)) Tryd.underlying23 (by kernel_rfl)).get t02
  obtain rfl := (List.cons.inj e02).1
  have k1 := h1
  have lt1 : ∀ x ∈ p1, x.block < W.heap.size := by obtain ⟨m, hm⟩ := k1; exact DataW.trod_lt m _ _ _ hm
  obtain ⟨A1, a1, c1, rfl, hl1, hC1, w1, b1⟩ := Op.open_row (Op.reads_slice (Op.reads_int Tryd.underlying5 (by kernel_rfl)) Tryd.underlying23 (by kernel_rfl)) Tryd.underlying23 (hval 1 23 v1 rfl rfl) h1
  have h := Pure.ScanGoes a00 a01 a02 a1 w02 w1
  refine (P.gessolaw02_ScanGoes.calls a00 a01 _ _ a02 _ _ a1 true W ⟨hT⟩ hC02 hl02 hC1 hl1 h).mono fun e W' ⟨he, bel0⟩ => ?_
  have bel : Below W.heap.size W W' := bel0
  subst he
  exact ⟨_, rfl, _, _, _, [], _, [], hW', trodAll_mk1 (shut_bool Tryd.underlying4 _), (trodAll_cons_mk (Below.trod laidOut (by kernel_rfl) (of_decide_eq_true (by kernel_rfl)) k0 bel lt0) (trodAll_cons_mk (Below.trod laidOut (by kernel_rfl) (of_decide_eq_true (by kernel_rfl)) k1 bel lt1) trodAll_mk0)), rfl, bel.frame _, fun h => by cases h⟩

theorem laid_met (os : Os) : laidMet Tryd.prog Rows.scanGoesRow.laid ((Door.laidWorld os).forCall (fun _ _ => 0) ⟨#[], #[.agg #[.int .i64 0, .int .i64 0, .slice none 0 0], .slice none 0 0], []⟩).memory :=
  laidMet_of_run' 8 (by kernel_rfl) (by kernel_rfl)
theorem reads (os : Os) {H : Type} (enc : TypeId × Value → H) : ∃ places, DataW.whole enc Tryd.prog ((Door.laidWorld os).forCall (fun _ _ => 0) ⟨#[], #[.agg #[.int .i64 0, .int .i64 0, .slice none 0 0], .slice none 0 0], []⟩).memory Tryd.f15.params.toList Rows.scanGoesSpec.vars false (#[.agg #[.int .i64 0, .int .i64 0, .slice none 0 0], .slice none 0 0] : Array Value).toList 8 = some ([.agg [.lit (.int .i64 0), .lit (.int .i64 0), .nil], .nil], [], places) :=
  ⟨[], by kernel_rfl⟩
set_option maxRecDepth 100000 in
theorem lifted (os : Os) (started : os.Started) (H : Type) (enc : TypeId × Value → H) (F : Stop.Interp) :
    ReturnsInHanded {} Tryd.checked os 15 .any (((OpenSpec.ofChange Rows.scanGoesSpec)).preRow enc Tryd.prog Tryd.f15 Rows.scanGoesRow.domain false Rows.scanGoesRow.laid) ((((OpenSpec.ofChange Rows.scanGoesSpec)).at F).post enc Tryd.prog Tryd.f15 false true false false) := by
  obtain ⟨places, hx⟩ := reads os enc
  refine returnsInHanded_of_row (C := Tryd.checked) (s := (OpenSpec.ofChange Rows.scanGoesSpec)) own started (by kernel_rfl) Tryd.func15
    (witness_row_at (enc := enc) (C := Tryd.checked) false (Door.laidWorld os) #[.agg #[.int .i64 0, .int .i64 0, .slice none 0 0], .slice none 0 0] rfl (by kernel_rfl) (by kernel_rfl) (by kernel_rfl)
      (OpenSpec.preRow_of_cond 8 hx (by kernel_rfl) (fun k hk => by cases hk) (by kernel_rfl) (laid_met os))) ?_
  intro W base args ds gs before hval hW _ hk _ hL _ _
  exact contract H enc W base args ds gs before hval hW (Door.tabs hL)
theorem over : Rows.ScanGoesSaid :=
  OpenClaim.holds_of_cond 15 Tryd.f15 rfl rfl rfl rfl rfl rfl rfl ⟨rfl, rfl, rfl, rfl, rfl⟩ rfl rfl rfl rfl rfl (by kernel_rfl) Tryd.func15 (by kernel_rfl)
    (of_decide_eq_true (by kernel_rfl)) (by unfold Func.isWrapper; first | (rw [if_pos (by decide +kernel)]; kernel_rfl) | (rw [if_neg (by decide +kernel)]; exact ⟨rfl, rfl⟩))
    (fun os started H enc _ F => by rw [OpenClaim.pre_eq_preRow]; exact lifted os started H enc F)
/-- No parameter wants a stand-in; the program's own looks are off: what the card asks. -/
theorem plain (f : FuncId) (fn : Func) (hf : Tryd.pinned.checked.prog.funcNamed "gesso/gessolaw02.ScanGoes" = some f) (hfn : Tryd.pinned.checked.prog.funcs[f]? = some fn) :
    false = Tryd.pinned.checked.prog.looks [] ∧ ∀ (j : Nat) t, fn.params[j]? = some t → Tryd.pinned.checked.prog.wantsStandIn t = false := by
  obtain rfl : f = 15 := Option.some.inj ((show Tryd.prog.funcNamed "gesso/gessolaw02.ScanGoes" = some 15 by kernel_rfl).symm.trans hf) |>.symm
  obtain rfl : fn = Tryd.f15 := (Option.some.inj (Tryd.func15.symm.trans hfn)).symm
  refine ⟨by kernel_rfl, fun j t ht => ?_⟩
  have h : (Tryd.f15.params.all fun t => Tryd.prog.wantsStandIn t == false) = true := by kernel_rfl
  exact beq_iff_eq.1 (Array.all_eq_true_iff_forall_mem.1 h t (Array.mem_of_getElem? ht))
theorem proved : Rows.ScanGoesCardSaid :=
  Claim7.holds_tied_plain_at .later [] _ _ _ _ over (fun _ h => by cases h) (by kernel_rfl) (fun _ h => by cases h) scanGoes_row_tie rfl ⟨rfl, rfl⟩ (by kernel_rfl) rfl plain (by kernel_rfl)
#print axioms proved
end Go.Proofs.YtjlhehaagaaihaaDoor.scanGoes
namespace Go.Proofs.YtjlhehaagaaihaaDoor
/-- The card, under a short name, for the claim. -/
theorem scanGoes_holds : Rows.ScanGoesCardSaid := scanGoes.proved
end Go.Proofs.YtjlhehaagaaihaaDoor
