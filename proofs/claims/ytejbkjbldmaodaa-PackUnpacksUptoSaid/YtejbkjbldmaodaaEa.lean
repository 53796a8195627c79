/- The contract of slices.Clone at []byte: what is told is a new row that reads as the old one. Condition: the row has fewer than 2^47 elements. -/
import Derived.Test.YtejbkjbldmaodaaPx0
import Derived.WalkSpells
namespace Go.Proofs.Ytejbkjbldmaodaa.P
open Go.RowKit Go.Proofs.YtejbkjbldmaodaaW.PrintWords Go.Proofs.YtejbkjbldmaodaaW.PrintLast Go.Proofs.YtejbkjbldmaodaaW.PrintMore
set_option linter.unusedVariables false
set_option linter.unusedSimpArgs false

def slices_Clone_byte_byte.f (l0 : List Int) : Option (List Int) := if l0.length < 140737488355328 then some l0 else none

set_option maxHeartbeats 2000000 in
theorem slices_Clone_byte_byte.calls (A0 : Option Addr) (c0 : Nat) (l0 : List Int) (r : List Int) (w : World) (hr0 : Kd.C (Kd.int .u8) w A0 l0.length l0) (hc0 : l0.length ≤ c0) (h : slices_Clone_byte_byte.f l0 = some r) :
    Calls Try.prog 28 #[.slice A0 l0.length c0] w fun e w' => ∃ v0_ : Value, e = .returned (v0_) ∧ Kd.R (Kd.int .u8) 5 w' w.heap.size (fun _ => True) v0_ r ∧ Below w.heap.size w w' := by
  unfold slices_Clone_byte_byte.f at h
  by_cases hlen : l0.length < 140737488355328
  · rw [if_pos hlen] at h
    obtain rfl := Option.some.inj h
    have HR0 := Aside0.mk hr0
    have HL := Aside0.mk hlen
    have HB := Aside0.mk (Below.refl w.heap.size w)
    clear hr0 hlen h
    cases A0 with
    | none =>
      have hl0 : l0 = [] := by
        by_cases hp : 0 < l0.length
        · obtain ⟨ad, he, _⟩ := HR0.out.2.2 hp
          cases he
        · exact List.eq_nil_of_length_eq_zero (by omega)
      subst hl0
      have heq := fun W => Lib.run_eql_slice_nil (P := Try.prog) W 23 5 none 0 c0 0 0 Try.underlying23
      go_enter Try.func28, Try.ntmps28
      go_wp2
      go_ret
      exact ⟨_, rfl, Kd.R_nil _ _ _ _ _, Below.refl _ _⟩
    | some ad =>
      have heq := fun W => Lib.run_eql_slice_nil (P := Try.prog) W 23 5 (some ad) l0.length c0 0 0 Try.underlying23
      go_enter Try.func28, Try.ntmps28
      go_wp2_with (first | ((with_reducible refine gate_dst (N := 5) rfl ?_); refine Kd.R_lit (Kd.int .u8) _ 5 ?hg (N := 5) ?hd (xs := ([] : List Int)) (inner := []) (ok := fun _ => True) (okp := fun _ => True) ?hr ?hp (fun _ hk => hk) trivial (Below.refl _ _) (Nat.le_refl _) (by simp) ?_; (case hd => rfl); (case hg => rfl); (case hr => first | (go_simp; done) | (go_simp; rfl)); (case hp => exact (Reps.none _ _)); intro v1 w1 ho hb1 hg_ hnew_; clear hg_ hnew_; have HO := Aside0.mk ho; have HB1 := Aside0.mk hb1; clear ho hb1) | ((with_reducible refine gate_builtin (b := .append) (xs := #[.tmp 5, .tmp 6]) rfl ?_); at_builtin; refine Kd.R_append_rows (Kd.int .u8) (w0 := w) w.heap.size rfl (.tmp 5) (.tmp 6) 23 5 (.int .u8 0) 1 rfl Try.underlying23 info5 rfl (by decide) (by omega) v1 [] l0 _ _ _ (fun _ => True) (fun _ => False) rfl rfl ?aO ?aR (fun _ _ h => h) (fun _ h => h.elim) ?aF ?aB ?aS ?aL ?_; (case aR => exact Kd.C_below HR0.out HB1.out); (case aB => exact HB1.out); (case aF => exact (fun k_ hk => trivial)); (case aO => exact HO.out); (case aS => exact (below_size HB1.out)); (case aL => have := HL.out; simp only [List.length_nil]; omega); intro v2 w2 ho hb hg hat; have HO2 := Aside0.mk ho; have HB2 := Aside0.mk hb; clear ho hb hg hat))
      go_ret
      exact ⟨_, rfl, by simpa using HO2.out, HB2.out⟩
  · rw [if_neg hlen] at h
    cases h

end Go.Proofs.Ytejbkjbldmaodaa.P
