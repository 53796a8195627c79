/- Functions of the translated program as plain Lean functions, and proofs that their calls come to these. Written by a program of the session. No condition. -/
import Derived.Test.YtmhehgkpbkoomaaPx0
import Derived.Test.YtmhehgkpbkoomaaEa
namespace Go.Proofs.Ytmhehgkpbkoomaa.P
open Go.RowKit Go.Proofs.YtmhehgkpbkoomaaW.PrintWords Go.Proofs.YtmhehgkpbkoomaaW.PrintLast Go.Proofs.YtmhehgkpbkoomaaW.PrintMore
attribute [local go_sem] max2_int min2_int max_two min_two max_three min_three max_four min_four   -- for this text's walks alone
set_option linter.unusedVariables false
set_option linter.unusedSimpArgs false

/-! ### hangul_Is: function 11 -/
def hangul_Is.f (a0 : Int) : Option (Bool) := if a0 ≥ 44032 then (some (decide (a0 ≤ 55203))) else (some false)
set_option maxHeartbeats 8000000 in
set_option maxRecDepth 100000 in
theorem hangul_Is.calls (a0 : Int) (r : Bool) (w : World) (h : hangul_Is.f a0 = some r) :
    Calls Try.prog 11 #[.int .u32 a0] w fun e w' => e = .returned (.bool r) ∧ Drawn0 w w' := by
  have H : (if a0 ≥ 44032 then (some (decide (a0 ≤ 55203))) else (some false)) = some r := h
  clear h
  by_cases c2 : a0 ≥ 44032
  · rw [if_pos c2] at H
    have c2b0 : decide (44032 ≤ a0) = true := decide_eq_true c2
    clear c2
    obtain rfl := Option.some.inj H
    go_enter Try.func11, Try.ntmps11
    go_wp2
    go_ret
    exact ⟨by first | rfl | (simp; done) | (simp [*]; done), by repeat (first | exact Drawn0.refl _ | apply Drawn0.step)⟩
  · rw [if_neg c2] at H
    have c2b0 : decide (44032 ≤ a0) = false := decide_eq_false c2
    clear c2
    obtain rfl := Option.some.inj H
    go_enter Try.func11, Try.ntmps11
    go_wp2
    go_ret
    exact ⟨by first | rfl | (simp; done) | (simp [*]; done), by repeat (first | exact Drawn0.refl _ | apply Drawn0.step)⟩

-- NOT PRINTED: function 18 (hangul_trail)

-- NOT PRINTED: function 19 (hangul_lead)

-- NOT PRINTED: function 20 (hangul_vowel)

-- by hand: function 9 (hangul_Split): YtmhehgkpbkoomaaEa

/-! ### gessoref04_Is: function 12 -/
def gessoref04_Is.f (a0 : Int) : Option (Bool) := if a0 ≥ 44032 then (some (decide (a0 ≤ 55203))) else (some false)
set_option maxHeartbeats 8000000 in
set_option maxRecDepth 100000 in
theorem gessoref04_Is.calls (a0 : Int) (r : Bool) (w : World) (h : gessoref04_Is.f a0 = some r) :
    Calls Try.prog 12 #[.int .u32 a0] w fun e w' => e = .returned (.bool r) ∧ Drawn0 w w' := by
  have H : (if a0 ≥ 44032 then (some (decide (a0 ≤ 55203))) else (some false)) = some r := h
  clear h
  by_cases c2 : a0 ≥ 44032
  · rw [if_pos c2] at H
    have c2b0 : decide (44032 ≤ a0) = true := decide_eq_true c2
    clear c2
    obtain rfl := Option.some.inj H
    go_enter Try.func12, Try.ntmps12
    go_wp2
    go_ret
    exact ⟨by first | rfl | (simp; done) | (simp [*]; done), by repeat (first | exact Drawn0.refl _ | apply Drawn0.step)⟩
  · rw [if_neg c2] at H
    have c2b0 : decide (44032 ≤ a0) = false := decide_eq_false c2
    clear c2
    obtain rfl := Option.some.inj H
    go_enter Try.func12, Try.ntmps12
    go_wp2
    go_ret
    exact ⟨by first | rfl | (simp; done) | (simp [*]; done), by repeat (first | exact Drawn0.refl _ | apply Drawn0.step)⟩

-- by hand: function 10 (gessoref04_Split): YtmhehgkpbkoomaaEa

-- NOT PRINTED: function 21 (hangul_row_has)

-- by hand: function 14 (hangul_Put): YtmhehgkpbkoomaaEa

-- by hand: function 16 (hangul_Join): YtmhehgkpbkoomaaEa

/-! ### gessolaw04_awake: function 13 -/
def gessolaw04_awake.f  : Option (Bool) := (hangul_Split.f 44033).bind fun bt101 => ((hangul_Join.f 44032 4520).bind fun bt105 => (if bt101.1 = 4352 then (if bt101.2.1 = 4449 then (if bt101.2.2.1 = 4520 then (if bt101.2.2.2 = true then (if bt105.1 = 44033 then (if bt105.2 = true then (some true) else (some false)) else (some false)) else (some false)) else (some false)) else (some false)) else (some false)))
set_option maxHeartbeats 8000000 in
set_option maxRecDepth 100000 in
theorem gessolaw04_awake.calls  (r : Bool) (w : World) (h : gessolaw04_awake.f  = some r) :
    Calls Try.prog 13 #[] w fun e w' => e = .returned (.bool r) ∧ Below w.heap.size w w' := by
  have HB := Aside0.mk (Below.refl w.heap.size w)
  have H : ((hangul_Split.f 44033).bind fun bt101 => ((hangul_Join.f 44032 4520).bind fun bt105 => (if bt101.1 = 4352 then (if bt101.2.1 = 4449 then (if bt101.2.2.1 = 4520 then (if bt101.2.2.2 = true then (if bt105.1 = 44033 then (if bt105.2 = true then (some true) else (some false)) else (some false)) else (some false)) else (some false)) else (some false)) else (some false)))) = some r := h
  clear h
  replace H := Option.bind_eq_some_iff.mp H
  obtain ⟨⟨t101, t102, t103, t104⟩, A10, H⟩ := H
  replace H : ((hangul_Join.f 44032 4520).bind fun bt105 => (if t101 = 4352 then (if t102 = 4449 then (if t103 = 4520 then (if t104 = true then (if bt105.1 = 44033 then (if bt105.2 = true then (some true) else (some false)) else (some false)) else (some false)) else (some false)) else (some false)) else (some false))) = some r := H
  have A1 := Aside0.mk A10
  clear A10
  replace H := Option.bind_eq_some_iff.mp H
  obtain ⟨⟨t105, t106⟩, A20, H⟩ := H
  replace H : (if t101 = 4352 then (if t102 = 4449 then (if t103 = 4520 then (if t104 = true then (if t105 = 44033 then (if t106 = true then (some true) else (some false)) else (some false)) else (some false)) else (some false)) else (some false)) else (some false)) = some r := H
  have A2 := Aside0.mk A20
  clear A20
  by_cases c3 : t101 = 4352
  · rw [if_pos c3] at H
    have c3b0 : (t101 == 4352) = true := beq_iff_eq.mpr c3
    have c3b1 : (t101 != 4352) = false := bne_eq_false_iff_eq.mpr c3
    clear c3
    by_cases c4 : t102 = 4449
    · rw [if_pos c4] at H
      have c4b0 : (t102 == 4449) = true := beq_iff_eq.mpr c4
      have c4b1 : (t102 != 4449) = false := bne_eq_false_iff_eq.mpr c4
      clear c4
      by_cases c5 : t103 = 4520
      · rw [if_pos c5] at H
        have c5b0 : (t103 == 4520) = true := beq_iff_eq.mpr c5
        have c5b1 : (t103 != 4520) = false := bne_eq_false_iff_eq.mpr c5
        clear c5
        by_cases c6 : t104 = true
        · subst c6
          have H1 : (if t105 = 44033 then (if t106 = true then (some true) else (some false)) else (some false)) = some r := by rw [if_pos rfl] at H; exact H
          clear H
          have H := H1
          clear H1
          by_cases c7 : t105 = 44033
          · rw [if_pos c7] at H
            have c7b0 : (t105 == 44033) = true := beq_iff_eq.mpr c7
            have c7b1 : (t105 != 44033) = false := bne_eq_false_iff_eq.mpr c7
            clear c7
            by_cases c8 : t106 = true
            · subst c8
              have H1 : (some true) = some r := by rw [if_pos rfl] at H; exact H
              clear H
              have H := H1
              clear H1
              obtain rfl := Option.some.inj H
              go_enter Try.func13, Try.ntmps13
              go_wp2_with (first | ((with_reducible refine gate_callee (f := 9) rfl ?_); refine goesL_ (some 8) rfl rfl Try.func9 (by kernel_rfl) rfl #[.int .u32 44033] rfl (by (try simp only [List.map_toArray, List.map_cons, List.map_nil]); first | done | rfl | (simp only [List.length_drop, List.length_take]; rfl)) ?_; (with_reducible refine (hangul_Split.calls 44033 t101 t102 t103 true _ A1.out).mono ?_); rintro e w9 ⟨rfl, hb⟩; refine ⟨_, rfl, ?_⟩; have n0_ := Aside0.mk (below_step (by repeat (first | (with_reducible first | exact HB.out | apply below_alloc | apply pw_below_drewN | apply below_drew1) | exact HB.out)) hb); clear HB; have HB := n0_; clear n0_; (try clear hb); (try clear hb2); (try clear hk); (try clear hi)) | ((with_reducible refine gate_callee (f := 16) rfl ?_); refine goesL_ (some 14) rfl rfl Try.func16 (by kernel_rfl) rfl #[.int .u32 44032, .int .u32 4520] rfl (by (try simp only [List.map_toArray, List.map_cons, List.map_nil]); first | done | rfl | (simp only [List.length_drop, List.length_take]; rfl)) ?_; (with_reducible refine (hangul_Join.calls 44032 4520 t105 true _ A2.out).mono ?_); rintro e w10 ⟨rfl, hb⟩; refine ⟨_, rfl, ?_⟩; have n0_ := Aside0.mk (below_step (by repeat (first | (with_reducible first | exact HB.out | apply below_alloc | apply pw_below_drewN | apply below_drew1) | exact HB.out)) hb); clear HB; have HB := n0_; clear n0_; (try clear hb); (try clear hb2); (try clear hk); (try clear hi)))
              go_ret
              exact ⟨by first | rfl | (simp [errW_none, errW_some] <;> rfl) | (simp [*, errW_none, errW_some] <;> rfl), by repeat (first | (with_reducible first | exact HB.out | apply below_alloc | apply pw_below_drewN | apply below_drew1) | exact HB.out)⟩
            · replace c8 := Bool.eq_false_iff.mpr c8
              subst c8
              have H1 : (some false) = some r := by rw [if_neg (show ¬ (false = true) by decide)] at H; exact H
              clear H
              have H := H1
              clear H1
              obtain rfl := Option.some.inj H
              go_enter Try.func13, Try.ntmps13
              go_wp2_with (first | ((with_reducible refine gate_callee (f := 9) rfl ?_); refine goesL_ (some 8) rfl rfl Try.func9 (by kernel_rfl) rfl #[.int .u32 44033] rfl (by (try simp only [List.map_toArray, List.map_cons, List.map_nil]); first | done | rfl | (simp only [List.length_drop, List.length_take]; rfl)) ?_; (with_reducible refine (hangul_Split.calls 44033 t101 t102 t103 true _ A1.out).mono ?_); rintro e w11 ⟨rfl, hb⟩; refine ⟨_, rfl, ?_⟩; have n0_ := Aside0.mk (below_step (by repeat (first | (with_reducible first | exact HB.out | apply below_alloc | apply pw_below_drewN | apply below_drew1) | exact HB.out)) hb); clear HB; have HB := n0_; clear n0_; (try clear hb); (try clear hb2); (try clear hk); (try clear hi)) | ((with_reducible refine gate_callee (f := 16) rfl ?_); refine goesL_ (some 14) rfl rfl Try.func16 (by kernel_rfl) rfl #[.int .u32 44032, .int .u32 4520] rfl (by (try simp only [List.map_toArray, List.map_cons, List.map_nil]); first | done | rfl | (simp only [List.length_drop, List.length_take]; rfl)) ?_; (with_reducible refine (hangul_Join.calls 44032 4520 t105 false _ A2.out).mono ?_); rintro e w12 ⟨rfl, hb⟩; refine ⟨_, rfl, ?_⟩; have n0_ := Aside0.mk (below_step (by repeat (first | (with_reducible first | exact HB.out | apply below_alloc | apply pw_below_drewN | apply below_drew1) | exact HB.out)) hb); clear HB; have HB := n0_; clear n0_; (try clear hb); (try clear hb2); (try clear hk); (try clear hi)))
              go_ret
              exact ⟨by first | rfl | (simp [errW_none, errW_some] <;> rfl) | (simp [*, errW_none, errW_some] <;> rfl), by repeat (first | (with_reducible first | exact HB.out | apply below_alloc | apply pw_below_drewN | apply below_drew1) | exact HB.out)⟩
          · rw [if_neg c7] at H
            have c7b0 : (t105 == 44033) = false := beq_eq_false_iff_ne.mpr c7
            have c7b1 : (t105 != 44033) = true := bne_iff_ne.mpr c7
            obtain rfl := Option.some.inj H
            go_enter Try.func13, Try.ntmps13
            go_wp2_with (first | ((with_reducible refine gate_callee (f := 9) rfl ?_); refine goesL_ (some 8) rfl rfl Try.func9 (by kernel_rfl) rfl #[.int .u32 44033] rfl (by (try simp only [List.map_toArray, List.map_cons, List.map_nil]); first | done | rfl | (simp only [List.length_drop, List.length_take]; rfl)) ?_; (with_reducible refine (hangul_Split.calls 44033 t101 t102 t103 true _ A1.out).mono ?_); rintro e w13 ⟨rfl, hb⟩; refine ⟨_, rfl, ?_⟩; have n0_ := Aside0.mk (below_step (by repeat (first | (with_reducible first | exact HB.out | apply below_alloc | apply pw_below_drewN | apply below_drew1) | exact HB.out)) hb); clear HB; have HB := n0_; clear n0_; (try clear hb); (try clear hb2); (try clear hk); (try clear hi)) | ((with_reducible refine gate_callee (f := 16) rfl ?_); refine goesL_ (some 14) rfl rfl Try.func16 (by kernel_rfl) rfl #[.int .u32 44032, .int .u32 4520] rfl (by (try simp only [List.map_toArray, List.map_cons, List.map_nil]); first | done | rfl | (simp only [List.length_drop, List.length_take]; rfl)) ?_; (with_reducible refine (hangul_Join.calls 44032 4520 t105 t106 _ A2.out).mono ?_); rintro e w14 ⟨rfl, hb⟩; refine ⟨_, rfl, ?_⟩; have n0_ := Aside0.mk (below_step (by repeat (first | (with_reducible first | exact HB.out | apply below_alloc | apply pw_below_drewN | apply below_drew1) | exact HB.out)) hb); clear HB; have HB := n0_; clear n0_; (try clear hb); (try clear hb2); (try clear hk); (try clear hi)))
            go_ret
            exact ⟨by first | rfl | (simp [errW_none, errW_some] <;> rfl) | (simp [*, errW_none, errW_some] <;> rfl), by repeat (first | (with_reducible first | exact HB.out | apply below_alloc | apply pw_below_drewN | apply below_drew1) | exact HB.out)⟩
        · replace c6 := Bool.eq_false_iff.mpr c6
          subst c6
          have H1 : (some false) = some r := by rw [if_neg (show ¬ (false = true) by decide)] at H; exact H
          clear H
          have H := H1
          clear H1
          obtain rfl := Option.some.inj H
          go_enter Try.func13, Try.ntmps13
          go_wp2_with (first | ((with_reducible refine gate_callee (f := 9) rfl ?_); refine goesL_ (some 8) rfl rfl Try.func9 (by kernel_rfl) rfl #[.int .u32 44033] rfl (by (try simp only [List.map_toArray, List.map_cons, List.map_nil]); first | done | rfl | (simp only [List.length_drop, List.length_take]; rfl)) ?_; (with_reducible refine (hangul_Split.calls 44033 t101 t102 t103 false _ A1.out).mono ?_); rintro e w15 ⟨rfl, hb⟩; refine ⟨_, rfl, ?_⟩; have n0_ := Aside0.mk (below_step (by repeat (first | (with_reducible first | exact HB.out | apply below_alloc | apply pw_below_drewN | apply below_drew1) | exact HB.out)) hb); clear HB; have HB := n0_; clear n0_; (try clear hb); (try clear hb2); (try clear hk); (try clear hi)) | ((with_reducible refine gate_callee (f := 16) rfl ?_); refine goesL_ (some 14) rfl rfl Try.func16 (by kernel_rfl) rfl #[.int .u32 44032, .int .u32 4520] rfl (by (try simp only [List.map_toArray, List.map_cons, List.map_nil]); first | done | rfl | (simp only [List.length_drop, List.length_take]; rfl)) ?_; (with_reducible refine (hangul_Join.calls 44032 4520 t105 t106 _ A2.out).mono ?_); rintro e w16 ⟨rfl, hb⟩; refine ⟨_, rfl, ?_⟩; have n0_ := Aside0.mk (below_step (by repeat (first | (with_reducible first | exact HB.out | apply below_alloc | apply pw_below_drewN | apply below_drew1) | exact HB.out)) hb); clear HB; have HB := n0_; clear n0_; (try clear hb); (try clear hb2); (try clear hk); (try clear hi)))
          go_ret
          exact ⟨by first | rfl | (simp [errW_none, errW_some] <;> rfl) | (simp [*, errW_none, errW_some] <;> rfl), by repeat (first | (with_reducible first | exact HB.out | apply below_alloc | apply pw_below_drewN | apply below_drew1) | exact HB.out)⟩
      · rw [if_neg c5] at H
        have c5b0 : (t103 == 4520) = false := beq_eq_false_iff_ne.mpr c5
        have c5b1 : (t103 != 4520) = true := bne_iff_ne.mpr c5
        obtain rfl := Option.some.inj H
        go_enter Try.func13, Try.ntmps13
        go_wp2_with (first | ((with_reducible refine gate_callee (f := 9) rfl ?_); refine goesL_ (some 8) rfl rfl Try.func9 (by kernel_rfl) rfl #[.int .u32 44033] rfl (by (try simp only [List.map_toArray, List.map_cons, List.map_nil]); first | done | rfl | (simp only [List.length_drop, List.length_take]; rfl)) ?_; (with_reducible refine (hangul_Split.calls 44033 t101 t102 t103 t104 _ A1.out).mono ?_); rintro e w17 ⟨rfl, hb⟩; refine ⟨_, rfl, ?_⟩; have n0_ := Aside0.mk (below_step (by repeat (first | (with_reducible first | exact HB.out | apply below_alloc | apply pw_below_drewN | apply below_drew1) | exact HB.out)) hb); clear HB; have HB := n0_; clear n0_; (try clear hb); (try clear hb2); (try clear hk); (try clear hi)) | ((with_reducible refine gate_callee (f := 16) rfl ?_); refine goesL_ (some 14) rfl rfl Try.func16 (by kernel_rfl) rfl #[.int .u32 44032, .int .u32 4520] rfl (by (try simp only [List.map_toArray, List.map_cons, List.map_nil]); first | done | rfl | (simp only [List.length_drop, List.length_take]; rfl)) ?_; (with_reducible refine (hangul_Join.calls 44032 4520 t105 t106 _ A2.out).mono ?_); rintro e w18 ⟨rfl, hb⟩; refine ⟨_, rfl, ?_⟩; have n0_ := Aside0.mk (below_step (by repeat (first | (with_reducible first | exact HB.out | apply below_alloc | apply pw_below_drewN | apply below_drew1) | exact HB.out)) hb); clear HB; have HB := n0_; clear n0_; (try clear hb); (try clear hb2); (try clear hk); (try clear hi)))
        go_ret
        exact ⟨by first | rfl | (simp [errW_none, errW_some] <;> rfl) | (simp [*, errW_none, errW_some] <;> rfl), by repeat (first | (with_reducible first | exact HB.out | apply below_alloc | apply pw_below_drewN | apply below_drew1) | exact HB.out)⟩
    · rw [if_neg c4] at H
      have c4b0 : (t102 == 4449) = false := beq_eq_false_iff_ne.mpr c4
      have c4b1 : (t102 != 4449) = true := bne_iff_ne.mpr c4
      obtain rfl := Option.some.inj H
      go_enter Try.func13, Try.ntmps13
      go_wp2_with (first | ((with_reducible refine gate_callee (f := 9) rfl ?_); refine goesL_ (some 8) rfl rfl Try.func9 (by kernel_rfl) rfl #[.int .u32 44033] rfl (by (try simp only [List.map_toArray, List.map_cons, List.map_nil]); first | done | rfl | (simp only [List.length_drop, List.length_take]; rfl)) ?_; (with_reducible refine (hangul_Split.calls 44033 t101 t102 t103 t104 _ A1.out).mono ?_); rintro e w19 ⟨rfl, hb⟩; refine ⟨_, rfl, ?_⟩; have n0_ := Aside0.mk (below_step (by repeat (first | (with_reducible first | exact HB.out | apply below_alloc | apply pw_below_drewN | apply below_drew1) | exact HB.out)) hb); clear HB; have HB := n0_; clear n0_; (try clear hb); (try clear hb2); (try clear hk); (try clear hi)) | ((with_reducible refine gate_callee (f := 16) rfl ?_); refine goesL_ (some 14) rfl rfl Try.func16 (by kernel_rfl) rfl #[.int .u32 44032, .int .u32 4520] rfl (by (try simp only [List.map_toArray, List.map_cons, List.map_nil]); first | done | rfl | (simp only [List.length_drop, List.length_take]; rfl)) ?_; (with_reducible refine (hangul_Join.calls 44032 4520 t105 t106 _ A2.out).mono ?_); rintro e w20 ⟨rfl, hb⟩; refine ⟨_, rfl, ?_⟩; have n0_ := Aside0.mk (below_step (by repeat (first | (with_reducible first | exact HB.out | apply below_alloc | apply pw_below_drewN | apply below_drew1) | exact HB.out)) hb); clear HB; have HB := n0_; clear n0_; (try clear hb); (try clear hb2); (try clear hk); (try clear hi)))
      go_ret
      exact ⟨by first | rfl | (simp [errW_none, errW_some] <;> rfl) | (simp [*, errW_none, errW_some] <;> rfl), by repeat (first | (with_reducible first | exact HB.out | apply below_alloc | apply pw_below_drewN | apply below_drew1) | exact HB.out)⟩
  · rw [if_neg c3] at H
    have c3b0 : (t101 == 4352) = false := beq_eq_false_iff_ne.mpr c3
    have c3b1 : (t101 != 4352) = true := bne_iff_ne.mpr c3
    obtain rfl := Option.some.inj H
    go_enter Try.func13, Try.ntmps13
    go_wp2_with (first | ((with_reducible refine gate_callee (f := 9) rfl ?_); refine goesL_ (some 8) rfl rfl Try.func9 (by kernel_rfl) rfl #[.int .u32 44033] rfl (by (try simp only [List.map_toArray, List.map_cons, List.map_nil]); first | done | rfl | (simp only [List.length_drop, List.length_take]; rfl)) ?_; (with_reducible refine (hangul_Split.calls 44033 t101 t102 t103 t104 _ A1.out).mono ?_); rintro e w21 ⟨rfl, hb⟩; refine ⟨_, rfl, ?_⟩; have n0_ := Aside0.mk (below_step (by repeat (first | (with_reducible first | exact HB.out | apply below_alloc | apply pw_below_drewN | apply below_drew1) | exact HB.out)) hb); clear HB; have HB := n0_; clear n0_; (try clear hb); (try clear hb2); (try clear hk); (try clear hi)) | ((with_reducible refine gate_callee (f := 16) rfl ?_); refine goesL_ (some 14) rfl rfl Try.func16 (by kernel_rfl) rfl #[.int .u32 44032, .int .u32 4520] rfl (by (try simp only [List.map_toArray, List.map_cons, List.map_nil]); first | done | rfl | (simp only [List.length_drop, List.length_take]; rfl)) ?_; (with_reducible refine (hangul_Join.calls 44032 4520 t105 t106 _ A2.out).mono ?_); rintro e w22 ⟨rfl, hb⟩; refine ⟨_, rfl, ?_⟩; have n0_ := Aside0.mk (below_step (by repeat (first | (with_reducible first | exact HB.out | apply below_alloc | apply pw_below_drewN | apply below_drew1) | exact HB.out)) hb); clear HB; have HB := n0_; clear n0_; (try clear hb); (try clear hb2); (try clear hk); (try clear hi)))
    go_ret
    exact ⟨by first | rfl | (simp [errW_none, errW_some] <;> rfl) | (simp [*, errW_none, errW_some] <;> rfl), by repeat (first | (with_reducible first | exact HB.out | apply below_alloc | apply pw_below_drewN | apply below_drew1) | exact HB.out)⟩

/-! ### gessolaw04_HangulSplits: function 3 -/
def gessolaw04_HangulSplits.f (a0 : Int) : Option (Bool) := (hangul_Split.f a0).bind fun bt107 => ((gessoref04_Split.f a0).bind fun bt111 => (if bt107.1 = bt111.1 then (if bt107.2.1 = bt111.2.1 then (if bt107.2.2.1 = bt111.2.2.1 then (if (bt107.2.2.2 == bt111.2.2.2) = true then ((hangul_Is.f a0).bind fun t115 => ((gessoref04_Is.f a0).bind fun t116 => (if (t115 == t116) = true then ((gessolaw04_awake.f).bind fun t117 => (some t117)) else (some false)))) else (some false)) else (some false)) else (some false)) else (some false)))
set_option maxHeartbeats 8000000 in
set_option maxRecDepth 100000 in
theorem gessolaw04_HangulSplits.calls (a0 : Int) (r : Bool) (w : World) (h : gessolaw04_HangulSplits.f a0 = some r) :
    Calls Try.prog 3 #[.int .u32 a0] w fun e w' => e = .returned (.bool r) ∧ Below w.heap.size w w' := by
  have HB := Aside0.mk (Below.refl w.heap.size w)
  have H : ((hangul_Split.f a0).bind fun bt107 => ((gessoref04_Split.f a0).bind fun bt111 => (if bt107.1 = bt111.1 then (if bt107.2.1 = bt111.2.1 then (if bt107.2.2.1 = bt111.2.2.1 then (if (bt107.2.2.2 == bt111.2.2.2) = true then ((hangul_Is.f a0).bind fun t115 => ((gessoref04_Is.f a0).bind fun t116 => (if (t115 == t116) = true then ((gessolaw04_awake.f).bind fun t117 => (some t117)) else (some false)))) else (some false)) else (some false)) else (some false)) else (some false)))) = some r := h
  clear h
  replace H := Option.bind_eq_some_iff.mp H
  obtain ⟨⟨t107, t108, t109, t110⟩, A20, H⟩ := H
  replace H : ((gessoref04_Split.f a0).bind fun bt111 => (if t107 = bt111.1 then (if t108 = bt111.2.1 then (if t109 = bt111.2.2.1 then (if (t110 == bt111.2.2.2) = true then ((hangul_Is.f a0).bind fun t115 => ((gessoref04_Is.f a0).bind fun t116 => (if (t115 == t116) = true then ((gessolaw04_awake.f).bind fun t117 => (some t117)) else (some false)))) else (some false)) else (some false)) else (some false)) else (some false))) = some r := H
  have A2 := Aside0.mk A20
  clear A20
  replace H := Option.bind_eq_some_iff.mp H
  obtain ⟨⟨t111, t112, t113, t114⟩, A30, H⟩ := H
  replace H : (if t107 = t111 then (if t108 = t112 then (if t109 = t113 then (if (t110 == t114) = true then ((hangul_Is.f a0).bind fun t115 => ((gessoref04_Is.f a0).bind fun t116 => (if (t115 == t116) = true then ((gessolaw04_awake.f).bind fun t117 => (some t117)) else (some false)))) else (some false)) else (some false)) else (some false)) else (some false)) = some r := H
  have A3 := Aside0.mk A30
  clear A30
  by_cases c4 : t107 = t111
  · rw [if_pos c4] at H
    have c4b0 : (t107 == t111) = true := beq_iff_eq.mpr c4
    have c4b1 : (t107 != t111) = false := bne_eq_false_iff_eq.mpr c4
    clear c4
    by_cases c5 : t108 = t112
    · rw [if_pos c5] at H
      have c5b0 : (t108 == t112) = true := beq_iff_eq.mpr c5
      have c5b1 : (t108 != t112) = false := bne_eq_false_iff_eq.mpr c5
      clear c5
      by_cases c6 : t109 = t113
      · rw [if_pos c6] at H
        have c6b0 : (t109 == t113) = true := beq_iff_eq.mpr c6
        have c6b1 : (t109 != t113) = false := bne_eq_false_iff_eq.mpr c6
        clear c6
        by_cases c7 : (t110 == t114) = true
        · rw [if_pos c7] at H
          have c7b0 : (t110 == t114) = true := c7
          (try (have c7b1 : decide (t110 = t114) = true := by simpa using c7))
          (try (have c7b2 : (t110 == t114) = true := by simpa using c7))
          clear c7
          replace H := Option.bind_eq_some_iff.mp H
          obtain ⟨t115, A80, H⟩ := H
          replace H : ((gessoref04_Is.f a0).bind fun t116 => (if (t115 == t116) = true then ((gessolaw04_awake.f).bind fun t117 => (some t117)) else (some false))) = some r := H
          have A8 := Aside0.mk A80
          clear A80
          replace H := Option.bind_eq_some_iff.mp H
          obtain ⟨t116, A90, H⟩ := H
          replace H : (if (t115 == t116) = true then ((gessolaw04_awake.f).bind fun t117 => (some t117)) else (some false)) = some r := H
          have A9 := Aside0.mk A90
          clear A90
          by_cases c10 : (t115 == t116) = true
          · rw [if_pos c10] at H
            have c10b0 : (t115 == t116) = true := c10
            (try (have c10b1 : decide (t115 = t116) = true := by simpa using c10))
            (try (have c10b2 : (t115 == t116) = true := by simpa using c10))
            clear c10
            replace H := Option.bind_eq_some_iff.mp H
            obtain ⟨t117, A110, H⟩ := H
            replace H : (some t117) = some r := H
            have A11 := Aside0.mk A110
            clear A110
            obtain rfl := Option.some.inj H
            go_enter Try.func3, Try.ntmps3
            go_wp2_with (first | ((with_reducible refine gate_callee (f := 9) rfl ?_); refine goesL_ (some 13) rfl rfl Try.func9 (by kernel_rfl) rfl #[.int .u32 a0] rfl (by (try simp only [List.map_toArray, List.map_cons, List.map_nil]); first | done | rfl | (simp only [List.length_drop, List.length_take]; rfl)) ?_; (with_reducible refine (hangul_Split.calls a0 t107 t108 t109 t110 _ A2.out).mono ?_); rintro e w12 ⟨rfl, hb⟩; refine ⟨_, rfl, ?_⟩; have n0_ := Aside0.mk (below_step (by repeat (first | (with_reducible first | exact HB.out | apply below_alloc | apply pw_below_drewN | apply below_drew1) | exact HB.out)) hb); clear HB; have HB := n0_; clear n0_; (try clear hb); (try clear hb2); (try clear hk); (try clear hi)) | ((with_reducible refine gate_callee (f := 10) rfl ?_); refine goesL_ (some 20) rfl rfl Try.func10 (by kernel_rfl) rfl #[.int .u32 a0] rfl (by (try simp only [List.map_toArray, List.map_cons, List.map_nil]); first | done | rfl | (simp only [List.length_drop, List.length_take]; rfl)) ?_; (with_reducible refine (gessoref04_Split.calls a0 t111 t112 t113 t114 _ A3.out).mono ?_); rintro e w' ⟨rfl, ⟨nd, rfl⟩⟩; refine ⟨_, rfl, ?_⟩) | (go_at_call 11; (with_reducible refine (hangul_Is.calls a0 t115 _ A8.out).mono ?_); rintro e w' ⟨rfl, ⟨nd, rfl⟩⟩) | (go_at_call 12; (with_reducible refine (gessoref04_Is.calls a0 t116 _ A9.out).mono ?_); rintro e w' ⟨rfl, ⟨nd, rfl⟩⟩) | (go_at_call 13; (with_reducible refine (gessolaw04_awake.calls  t117 _ A11.out).mono ?_); rintro e w13 ⟨rfl, hb⟩; have n0_ := Aside0.mk (below_step (by repeat (first | (with_reducible first | exact HB.out | apply below_alloc | apply pw_below_drewN | apply below_drew1) | exact HB.out)) hb); clear HB; have HB := n0_; clear n0_; (try clear hb); (try clear hb2); (try clear hk); (try clear hi)))
            go_ret
            exact ⟨by first | rfl | (simp [errW_none, errW_some] <;> rfl) | (simp [*, errW_none, errW_some] <;> rfl), by repeat (first | (with_reducible first | exact HB.out | apply below_alloc | apply pw_below_drewN | apply below_drew1) | exact HB.out)⟩
          · rw [if_neg c10] at H
            have c10b0 : (t115 == t116) = false := by simpa using c10
            (try (have c10b1 : decide (t115 = t116) = false := by simpa using c10))
            (try (have c10b2 : (t115 == t116) = false := by simpa using c10))
            (try (have c10b3 : ¬ (t115 = t116) := by simpa using c10))
            clear c10
            obtain rfl := Option.some.inj H
            go_enter Try.func3, Try.ntmps3
            go_wp2_with (first | ((with_reducible refine gate_callee (f := 9) rfl ?_); refine goesL_ (some 13) rfl rfl Try.func9 (by kernel_rfl) rfl #[.int .u32 a0] rfl (by (try simp only [List.map_toArray, List.map_cons, List.map_nil]); first | done | rfl | (simp only [List.length_drop, List.length_take]; rfl)) ?_; (with_reducible refine (hangul_Split.calls a0 t107 t108 t109 t110 _ A2.out).mono ?_); rintro e w14 ⟨rfl, hb⟩; refine ⟨_, rfl, ?_⟩; have n0_ := Aside0.mk (below_step (by repeat (first | (with_reducible first | exact HB.out | apply below_alloc | apply pw_below_drewN | apply below_drew1) | exact HB.out)) hb); clear HB; have HB := n0_; clear n0_; (try clear hb); (try clear hb2); (try clear hk); (try clear hi)) | ((with_reducible refine gate_callee (f := 10) rfl ?_); refine goesL_ (some 20) rfl rfl Try.func10 (by kernel_rfl) rfl #[.int .u32 a0] rfl (by (try simp only [List.map_toArray, List.map_cons, List.map_nil]); first | done | rfl | (simp only [List.length_drop, List.length_take]; rfl)) ?_; (with_reducible refine (gessoref04_Split.calls a0 t111 t112 t113 t114 _ A3.out).mono ?_); rintro e w' ⟨rfl, ⟨nd, rfl⟩⟩; refine ⟨_, rfl, ?_⟩) | (go_at_call 11; (with_reducible refine (hangul_Is.calls a0 t115 _ A8.out).mono ?_); rintro e w' ⟨rfl, ⟨nd, rfl⟩⟩) | (go_at_call 12; (with_reducible refine (gessoref04_Is.calls a0 t116 _ A9.out).mono ?_); rintro e w' ⟨rfl, ⟨nd, rfl⟩⟩))
            go_ret
            exact ⟨by first | rfl | (simp [errW_none, errW_some] <;> rfl) | (simp [*, errW_none, errW_some] <;> rfl), by repeat (first | (with_reducible first | exact HB.out | apply below_alloc | apply pw_below_drewN | apply below_drew1) | exact HB.out)⟩
        · rw [if_neg c7] at H
          have c7b0 : (t110 == t114) = false := by simpa using c7
          (try (have c7b1 : decide (t110 = t114) = false := by simpa using c7))
          (try (have c7b2 : (t110 == t114) = false := by simpa using c7))
          (try (have c7b3 : ¬ (t110 = t114) := by simpa using c7))
          clear c7
          obtain rfl := Option.some.inj H
          go_enter Try.func3, Try.ntmps3
          go_wp2_with (first | ((with_reducible refine gate_callee (f := 9) rfl ?_); refine goesL_ (some 13) rfl rfl Try.func9 (by kernel_rfl) rfl #[.int .u32 a0] rfl (by (try simp only [List.map_toArray, List.map_cons, List.map_nil]); first | done | rfl | (simp only [List.length_drop, List.length_take]; rfl)) ?_; (with_reducible refine (hangul_Split.calls a0 t107 t108 t109 t110 _ A2.out).mono ?_); rintro e w15 ⟨rfl, hb⟩; refine ⟨_, rfl, ?_⟩; have n0_ := Aside0.mk (below_step (by repeat (first | (with_reducible first | exact HB.out | apply below_alloc | apply pw_below_drewN | apply below_drew1) | exact HB.out)) hb); clear HB; have HB := n0_; clear n0_; (try clear hb); (try clear hb2); (try clear hk); (try clear hi)) | ((with_reducible refine gate_callee (f := 10) rfl ?_); refine goesL_ (some 20) rfl rfl Try.func10 (by kernel_rfl) rfl #[.int .u32 a0] rfl (by (try simp only [List.map_toArray, List.map_cons, List.map_nil]); first | done | rfl | (simp only [List.length_drop, List.length_take]; rfl)) ?_; (with_reducible refine (gessoref04_Split.calls a0 t111 t112 t113 t114 _ A3.out).mono ?_); rintro e w' ⟨rfl, ⟨nd, rfl⟩⟩; refine ⟨_, rfl, ?_⟩))
          go_ret
          exact ⟨by first | rfl | (simp [errW_none, errW_some] <;> rfl) | (simp [*, errW_none, errW_some] <;> rfl), by repeat (first | (with_reducible first | exact HB.out | apply below_alloc | apply pw_below_drewN | apply below_drew1) | exact HB.out)⟩
      · rw [if_neg c6] at H
        have c6b0 : (t109 == t113) = false := beq_eq_false_iff_ne.mpr c6
        have c6b1 : (t109 != t113) = true := bne_iff_ne.mpr c6
        obtain rfl := Option.some.inj H
        go_enter Try.func3, Try.ntmps3
        go_wp2_with (first | ((with_reducible refine gate_callee (f := 9) rfl ?_); refine goesL_ (some 13) rfl rfl Try.func9 (by kernel_rfl) rfl #[.int .u32 a0] rfl (by (try simp only [List.map_toArray, List.map_cons, List.map_nil]); first | done | rfl | (simp only [List.length_drop, List.length_take]; rfl)) ?_; (with_reducible refine (hangul_Split.calls a0 t107 t108 t109 t110 _ A2.out).mono ?_); rintro e w16 ⟨rfl, hb⟩; refine ⟨_, rfl, ?_⟩; have n0_ := Aside0.mk (below_step (by repeat (first | (with_reducible first | exact HB.out | apply below_alloc | apply pw_below_drewN | apply below_drew1) | exact HB.out)) hb); clear HB; have HB := n0_; clear n0_; (try clear hb); (try clear hb2); (try clear hk); (try clear hi)) | ((with_reducible refine gate_callee (f := 10) rfl ?_); refine goesL_ (some 20) rfl rfl Try.func10 (by kernel_rfl) rfl #[.int .u32 a0] rfl (by (try simp only [List.map_toArray, List.map_cons, List.map_nil]); first | done | rfl | (simp only [List.length_drop, List.length_take]; rfl)) ?_; (with_reducible refine (gessoref04_Split.calls a0 t111 t112 t113 t114 _ A3.out).mono ?_); rintro e w' ⟨rfl, ⟨nd, rfl⟩⟩; refine ⟨_, rfl, ?_⟩))
        go_ret
        exact ⟨by first | rfl | (simp [errW_none, errW_some] <;> rfl) | (simp [*, errW_none, errW_some] <;> rfl), by repeat (first | (with_reducible first | exact HB.out | apply below_alloc | apply pw_below_drewN | apply below_drew1) | exact HB.out)⟩
    · rw [if_neg c5] at H
      have c5b0 : (t108 == t112) = false := beq_eq_false_iff_ne.mpr c5
      have c5b1 : (t108 != t112) = true := bne_iff_ne.mpr c5
      obtain rfl := Option.some.inj H
      go_enter Try.func3, Try.ntmps3
      go_wp2_with (first | ((with_reducible refine gate_callee (f := 9) rfl ?_); refine goesL_ (some 13) rfl rfl Try.func9 (by kernel_rfl) rfl #[.int .u32 a0] rfl (by (try simp only [List.map_toArray, List.map_cons, List.map_nil]); first | done | rfl | (simp only [List.length_drop, List.length_take]; rfl)) ?_; (with_reducible refine (hangul_Split.calls a0 t107 t108 t109 t110 _ A2.out).mono ?_); rintro e w17 ⟨rfl, hb⟩; refine ⟨_, rfl, ?_⟩; have n0_ := Aside0.mk (below_step (by repeat (first | (with_reducible first | exact HB.out | apply below_alloc | apply pw_below_drewN | apply below_drew1) | exact HB.out)) hb); clear HB; have HB := n0_; clear n0_; (try clear hb); (try clear hb2); (try clear hk); (try clear hi)) | ((with_reducible refine gate_callee (f := 10) rfl ?_); refine goesL_ (some 20) rfl rfl Try.func10 (by kernel_rfl) rfl #[.int .u32 a0] rfl (by (try simp only [List.map_toArray, List.map_cons, List.map_nil]); first | done | rfl | (simp only [List.length_drop, List.length_take]; rfl)) ?_; (with_reducible refine (gessoref04_Split.calls a0 t111 t112 t113 t114 _ A3.out).mono ?_); rintro e w' ⟨rfl, ⟨nd, rfl⟩⟩; refine ⟨_, rfl, ?_⟩))
      go_ret
      exact ⟨by first | rfl | (simp [errW_none, errW_some] <;> rfl) | (simp [*, errW_none, errW_some] <;> rfl), by repeat (first | (with_reducible first | exact HB.out | apply below_alloc | apply pw_below_drewN | apply below_drew1) | exact HB.out)⟩
  · rw [if_neg c4] at H
    have c4b0 : (t107 == t111) = false := beq_eq_false_iff_ne.mpr c4
    have c4b1 : (t107 != t111) = true := bne_iff_ne.mpr c4
    obtain rfl := Option.some.inj H
    go_enter Try.func3, Try.ntmps3
    go_wp2_with (first | ((with_reducible refine gate_callee (f := 9) rfl ?_); refine goesL_ (some 13) rfl rfl Try.func9 (by kernel_rfl) rfl #[.int .u32 a0] rfl (by (try simp only [List.map_toArray, List.map_cons, List.map_nil]); first | done | rfl | (simp only [List.length_drop, List.length_take]; rfl)) ?_; (with_reducible refine (hangul_Split.calls a0 t107 t108 t109 t110 _ A2.out).mono ?_); rintro e w18 ⟨rfl, hb⟩; refine ⟨_, rfl, ?_⟩; have n0_ := Aside0.mk (below_step (by repeat (first | (with_reducible first | exact HB.out | apply below_alloc | apply pw_below_drewN | apply below_drew1) | exact HB.out)) hb); clear HB; have HB := n0_; clear n0_; (try clear hb); (try clear hb2); (try clear hk); (try clear hi)) | ((with_reducible refine gate_callee (f := 10) rfl ?_); refine goesL_ (some 20) rfl rfl Try.func10 (by kernel_rfl) rfl #[.int .u32 a0] rfl (by (try simp only [List.map_toArray, List.map_cons, List.map_nil]); first | done | rfl | (simp only [List.length_drop, List.length_take]; rfl)) ?_; (with_reducible refine (gessoref04_Split.calls a0 t111 t112 t113 t114 _ A3.out).mono ?_); rintro e w' ⟨rfl, ⟨nd, rfl⟩⟩; refine ⟨_, rfl, ?_⟩))
    go_ret
    exact ⟨by first | rfl | (simp [errW_none, errW_some] <;> rfl) | (simp [*, errW_none, errW_some] <;> rfl), by repeat (first | (with_reducible first | exact HB.out | apply below_alloc | apply pw_below_drewN | apply below_drew1) | exact HB.out)⟩

/-- THE ONE PURE STATEMENT of gessolaw04_HangulSplits: yours. -/
def gessolaw04_HangulSplits.Pure : Prop := ∀ (a0 : Int), (Lit.int .u32 a0).wf = true → gessolaw04_HangulSplits.f a0 = some true
theorem gessolaw04_HangulSplits.walk (P : gessolaw04_HangulSplits.Pure) (a0 : Int) (w : World) (w0 : (Lit.int .u32 a0).wf = true) :
    Calls Try.prog 3 #[.int .u32 a0] w fun e w' => e = .returned (.bool true) ∧ Below w.heap.size w w' := by
  have h := P a0 w0
  refine (gessolaw04_HangulSplits.calls a0 true w h).mono ?_
  rintro e w' ⟨rfl, hd⟩
  exact ⟨rfl, hd⟩

end Go.Proofs.Ytmhehgkpbkoomaa.P
