/- Functions of the translated program as plain Lean functions, and proofs that their calls come to these. Written by a program of the session. No condition. -/
import Derived.Test.YtmhehgkpbkoomaaPx0
import Derived.Test.YtmhehgkpbkoomaaPx1
import Derived.Test.YtmhehgkpbkoomaaPx3
import Derived.Test.YtmhehgkpbkoomaaEa
namespace Go.Proofs.Ytmhehgkpbkoomaa.P
open Go.RowKit Go.Proofs.YtmhehgkpbkoomaaW.PrintWords Go.Proofs.YtmhehgkpbkoomaaW.PrintLast Go.Proofs.YtmhehgkpbkoomaaW.PrintMore
attribute [local go_sem] max2_int min2_int max_two min_two max_three min_three max_four min_four   -- for this text's walks alone
set_option linter.unusedVariables false
set_option linter.unusedSimpArgs false

/-! ### gessolaw04_HangulJoins: function 5 -/
def gessolaw04_HangulJoins.f (k : Nat) (a0 : Int) (a1 : Int) : Option (Bool) := (hangul_Join.f a0 a1).bind fun bt137 => ((gessoref04_Join.f k a0 a1).bind fun bt139 => (if bt137.1 = bt139.1 then (if (bt137.2 == bt139.2) = true then ((gessolaw04_awake.f).bind fun t141 => (some t141)) else (some false)) else (some false)))
theorem gessolaw04_HangulJoins.mono : ∀ a0 a1 k, LeO (gessolaw04_HangulJoins.f k a0 a1) (gessolaw04_HangulJoins.f (k + 1) a0 a1) := by
  intro a0 a1 k
  unfold gessolaw04_HangulJoins.f
  repeat' first
      | (with_reducible exact gessoref04_Join.mono _ _ _)
      | (with_reducible exact LeO.refl _)
      | (with_reducible exact LeO.none _)
      | (with_reducible refine LeO.ite ?_ ?_)
      | (with_reducible refine LeO.bind ?_ (fun _ => ?_))
      | exact gessoref04_Join.mono _ _ _
      | exact LeO.none _
      | refine LeO.ite ?_ ?_
      | refine LeO.bind ?_ (fun _ => ?_)
set_option maxHeartbeats 8000000 in
set_option maxRecDepth 100000 in
theorem gessolaw04_HangulJoins.calls (k : Nat) (a0 : Int) (a1 : Int) (r : Bool) (w : World) (h : gessolaw04_HangulJoins.f k a0 a1 = some r) :
    Calls Try.prog 5 #[.int .u32 a0, .int .u32 a1] w fun e w' => e = .returned (.bool r) ∧ Below w.heap.size w w' := by
  have HB := Aside0.mk (Below.refl w.heap.size w)
  have H : ((hangul_Join.f a0 a1).bind fun bt137 => ((gessoref04_Join.f k a0 a1).bind fun bt139 => (if bt137.1 = bt139.1 then (if (bt137.2 == bt139.2) = true then ((gessolaw04_awake.f).bind fun t141 => (some t141)) else (some false)) else (some false)))) = some r := h
  clear h
  replace H := Option.bind_eq_some_iff.mp H
  obtain ⟨⟨t137, t138⟩, A30, H⟩ := H
  replace H : ((gessoref04_Join.f k a0 a1).bind fun bt139 => (if t137 = bt139.1 then (if (t138 == bt139.2) = true then ((gessolaw04_awake.f).bind fun t141 => (some t141)) else (some false)) else (some false))) = some r := H
  have A3 := Aside0.mk A30
  clear A30
  replace H := Option.bind_eq_some_iff.mp H
  obtain ⟨⟨t139, t140⟩, A40, H⟩ := H
  replace H : (if t137 = t139 then (if (t138 == t140) = true then ((gessolaw04_awake.f).bind fun t141 => (some t141)) else (some false)) else (some false)) = some r := H
  have A4 := Aside0.mk A40
  clear A40
  by_cases c5 : t137 = t139
  · rw [if_pos c5] at H
    have c5b0 : (t137 == t139) = true := beq_iff_eq.mpr c5
    have c5b1 : (t137 != t139) = false := bne_eq_false_iff_eq.mpr c5
    clear c5
    by_cases c6 : (t138 == t140) = true
    · rw [if_pos c6] at H
      have c6b0 : (t138 == t140) = true := c6
      (try (have c6b1 : decide (t138 = t140) = true := by simpa using c6))
      (try (have c6b2 : (t138 == t140) = true := by simpa using c6))
      clear c6
      replace H := Option.bind_eq_some_iff.mp H
      obtain ⟨t141, A70, H⟩ := H
      replace H : (some t141) = some r := H
      have A7 := Aside0.mk A70
      clear A70
      obtain rfl := Option.some.inj H
      go_enter Try.func5, Try.ntmps5
      go_wp2_with (first | ((with_reducible refine gate_callee (f := 16) rfl ?_); refine goesL_ (some 12) rfl rfl Try.func16 (by kernel_rfl) rfl #[.int .u32 a0, .int .u32 a1] rfl (by (try simp only [List.map_toArray, List.map_cons, List.map_nil]); first | done | rfl | (simp only [List.length_drop, List.length_take]; rfl)) ?_; (with_reducible refine (hangul_Join.calls a0 a1 t137 t138 _ A3.out).mono ?_); rintro e w8 ⟨rfl, hb⟩; refine ⟨_, rfl, ?_⟩; have n0_ := Aside0.mk (below_step (by repeat (first | (with_reducible first | exact HB.out | apply below_alloc | apply pw_below_drewN | apply below_drew1) | exact HB.out)) hb); clear HB; have HB := n0_; clear n0_; (try clear hb); (try clear hb2); (try clear hk); (try clear hi)) | ((with_reducible refine gate_callee (f := 17) rfl ?_); refine goesL_ (some 18) rfl rfl Try.func17 (by kernel_rfl) rfl #[.int .u32 a0, .int .u32 a1] rfl (by (try simp only [List.map_toArray, List.map_cons, List.map_nil]); first | done | rfl | (simp only [List.length_drop, List.length_take]; rfl)) ?_; (with_reducible refine (gessoref04_Join.calls k a0 a1 t139 t140 _ A4.out).mono ?_); rintro e w' ⟨rfl, ⟨nd, rfl⟩⟩; refine ⟨_, rfl, ?_⟩) | (go_at_call 13; (with_reducible refine (gessolaw04_awake.calls  t141 _ A7.out).mono ?_); rintro e w9 ⟨rfl, hb⟩; have n0_ := Aside0.mk (below_step (by repeat (first | (with_reducible first | exact HB.out | apply below_alloc | apply pw_below_drewN | apply below_drew1) | exact HB.out)) hb); clear HB; have HB := n0_; clear n0_; (try clear hb); (try clear hb2); (try clear hk); (try clear hi)))
      go_ret
      exact ⟨by first | rfl | (simp [errW_none, errW_some] <;> rfl) | (simp [*, errW_none, errW_some] <;> rfl), by repeat (first | (with_reducible first | exact HB.out | apply below_alloc | apply pw_below_drewN | apply below_drew1) | exact HB.out)⟩
    · rw [if_neg c6] at H
      have c6b0 : (t138 == t140) = false := by simpa using c6
      (try (have c6b1 : decide (t138 = t140) = false := by simpa using c6))
      (try (have c6b2 : (t138 == t140) = false := by simpa using c6))
      (try (have c6b3 : ¬ (t138 = t140) := by simpa using c6))
      clear c6
      obtain rfl := Option.some.inj H
      go_enter Try.func5, Try.ntmps5
      go_wp2_with (first | ((with_reducible refine gate_callee (f := 16) rfl ?_); refine goesL_ (some 12) rfl rfl Try.func16 (by kernel_rfl) rfl #[.int .u32 a0, .int .u32 a1] rfl (by (try simp only [List.map_toArray, List.map_cons, List.map_nil]); first | done | rfl | (simp only [List.length_drop, List.length_take]; rfl)) ?_; (with_reducible refine (hangul_Join.calls a0 a1 t137 t138 _ A3.out).mono ?_); rintro e w10 ⟨rfl, hb⟩; refine ⟨_, rfl, ?_⟩; have n0_ := Aside0.mk (below_step (by repeat (first | (with_reducible first | exact HB.out | apply below_alloc | apply pw_below_drewN | apply below_drew1) | exact HB.out)) hb); clear HB; have HB := n0_; clear n0_; (try clear hb); (try clear hb2); (try clear hk); (try clear hi)) | ((with_reducible refine gate_callee (f := 17) rfl ?_); refine goesL_ (some 18) rfl rfl Try.func17 (by kernel_rfl) rfl #[.int .u32 a0, .int .u32 a1] rfl (by (try simp only [List.map_toArray, List.map_cons, List.map_nil]); first | done | rfl | (simp only [List.length_drop, List.length_take]; rfl)) ?_; (with_reducible refine (gessoref04_Join.calls k a0 a1 t139 t140 _ A4.out).mono ?_); rintro e w' ⟨rfl, ⟨nd, rfl⟩⟩; refine ⟨_, rfl, ?_⟩))
      go_ret
      exact ⟨by first | rfl | (simp [errW_none, errW_some] <;> rfl) | (simp [*, errW_none, errW_some] <;> rfl), by repeat (first | (with_reducible first | exact HB.out | apply below_alloc | apply pw_below_drewN | apply below_drew1) | exact HB.out)⟩
  · rw [if_neg c5] at H
    have c5b0 : (t137 == t139) = false := beq_eq_false_iff_ne.mpr c5
    have c5b1 : (t137 != t139) = true := bne_iff_ne.mpr c5
    obtain rfl := Option.some.inj H
    go_enter Try.func5, Try.ntmps5
    go_wp2_with (first | ((with_reducible refine gate_callee (f := 16) rfl ?_); refine goesL_ (some 12) rfl rfl Try.func16 (by kernel_rfl) rfl #[.int .u32 a0, .int .u32 a1] rfl (by (try simp only [List.map_toArray, List.map_cons, List.map_nil]); first | done | rfl | (simp only [List.length_drop, List.length_take]; rfl)) ?_; (with_reducible refine (hangul_Join.calls a0 a1 t137 t138 _ A3.out).mono ?_); rintro e w11 ⟨rfl, hb⟩; refine ⟨_, rfl, ?_⟩; have n0_ := Aside0.mk (below_step (by repeat (first | (with_reducible first | exact HB.out | apply below_alloc | apply pw_below_drewN | apply below_drew1) | exact HB.out)) hb); clear HB; have HB := n0_; clear n0_; (try clear hb); (try clear hb2); (try clear hk); (try clear hi)) | ((with_reducible refine gate_callee (f := 17) rfl ?_); refine goesL_ (some 18) rfl rfl Try.func17 (by kernel_rfl) rfl #[.int .u32 a0, .int .u32 a1] rfl (by (try simp only [List.map_toArray, List.map_cons, List.map_nil]); first | done | rfl | (simp only [List.length_drop, List.length_take]; rfl)) ?_; (with_reducible refine (gessoref04_Join.calls k a0 a1 t139 t140 _ A4.out).mono ?_); rintro e w' ⟨rfl, ⟨nd, rfl⟩⟩; refine ⟨_, rfl, ?_⟩))
    go_ret
    exact ⟨by first | rfl | (simp [errW_none, errW_some] <;> rfl) | (simp [*, errW_none, errW_some] <;> rfl), by repeat (first | (with_reducible first | exact HB.out | apply below_alloc | apply pw_below_drewN | apply below_drew1) | exact HB.out)⟩

/-- THE ONE PURE STATEMENT of gessolaw04_HangulJoins: yours. -/
def gessolaw04_HangulJoins.Pure : Prop := ∀ (a0 : Int) (a1 : Int), (Lit.int .u32 a0).wf = true → (Lit.int .u32 a1).wf = true → ∃ k, gessolaw04_HangulJoins.f k a0 a1 = some true
theorem gessolaw04_HangulJoins.walk (P : gessolaw04_HangulJoins.Pure) (a0 : Int) (a1 : Int) (w : World) (w0 : (Lit.int .u32 a0).wf = true) (w1 : (Lit.int .u32 a1).wf = true) :
    Calls Try.prog 5 #[.int .u32 a0, .int .u32 a1] w fun e w' => e = .returned (.bool true) ∧ Below w.heap.size w w' := by
  obtain ⟨k, h⟩ := P a0 a1 w0 w1
  refine (gessolaw04_HangulJoins.calls k a0 a1 true w h).mono ?_
  rintro e w' ⟨rfl, hd⟩
  exact ⟨rfl, hd⟩

-- NOT PRINTED: function 6 (gessolaw04_HangulBack)

end Go.Proofs.Ytmhehgkpbkoomaa.P
