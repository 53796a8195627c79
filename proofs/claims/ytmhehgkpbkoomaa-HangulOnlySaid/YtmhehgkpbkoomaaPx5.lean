/- Functions of the translated program as plain Lean functions, and proofs that their calls come to these. Written by a program of the session. No condition. -/
import Derived.Test.YtmhehgkpbkoomaaPx0
import Derived.Test.YtmhehgkpbkoomaaPx1
import Derived.Test.YtmhehgkpbkoomaaEa
namespace Go.Proofs.Ytmhehgkpbkoomaa.P
open Go.RowKit Go.Proofs.YtmhehgkpbkoomaaW.PrintWords Go.Proofs.YtmhehgkpbkoomaaW.PrintLast Go.Proofs.YtmhehgkpbkoomaaW.PrintMore
attribute [local go_sem] max2_int min2_int max_two min_two max_three min_three max_four min_four   -- for this text's walks alone
set_option linter.unusedVariables false
set_option linter.unusedSimpArgs false

/-! ### gessolaw04_HangulRow: function 7 -/
def gessolaw04_HangulRow.j0 : Nat → Int → Int → Int → Int → Int → Int → Bool → Option (Bool)
  | 0, _, _, _, _, _, _, _ => none
  | k + 1, x4, x5, x6, x8, x9, x10, x36 => if x36 = true then (some false) else (if x6 = 0 then (if x8 = x4 then (if x9 = x5 then (if x10 = 4520 then ((gessolaw04_awake.f).bind fun t150 => (some t150)) else (some false)) else (some false)) else (some false)) else (if x6 < 4546 then (if x8 = x4 then (if x9 = x5 then (if x10 = ((x6 + 1) % 4294967296) then ((gessolaw04_awake.f).bind fun t151 => (some t151)) else (some false)) else (some false)) else (some false)) else (if x5 < 4469 then (if x8 = x4 then (if x9 = ((x5 + 1) % 4294967296) then (if x10 = 0 then ((gessolaw04_awake.f).bind fun t152 => (some t152)) else (some false)) else (some false)) else (some false)) else (if x8 = ((x4 + 1) % 4294967296) then (if x9 = 4449 then (if x10 = 0 then ((gessolaw04_awake.f).bind fun t153 => (some t153)) else (some false)) else (some false)) else (some false)))))
def gessolaw04_HangulRow.f (k : Nat) (a0 : Int) : Option (Bool) := (hangul_Split.f (44032 + (((a0) % 4294967296) % 11171))).bind fun bt142 => ((hangul_Split.f ((44032 + (((a0) % 4294967296) % 11171)) + 1)).bind fun bt146 => (if bt142.2.2.2 = true then (gessolaw04_HangulRow.j0 k bt142.1 bt142.2.1 bt142.2.2.1 bt146.1 bt146.2.1 bt146.2.2.1 (!bt146.2.2.2)) else (gessolaw04_HangulRow.j0 k bt142.1 bt142.2.1 bt142.2.2.1 bt146.1 bt146.2.1 bt146.2.2.1 true)))
theorem gessolaw04_HangulRow.mono_l : ∀ k, (∀ y0 y1 y2 y3 y4 y5 y6, LeO (gessolaw04_HangulRow.j0 k y0 y1 y2 y3 y4 y5 y6) (gessolaw04_HangulRow.j0 (k + 1) y0 y1 y2 y3 y4 y5 y6))
  | 0 => fun _ _ _ _ _ _ _ r h => by simp [gessolaw04_HangulRow.j0] at h
  | k + 1 => by
    have ih0 := gessolaw04_HangulRow.mono_l k
    · intro y0 y1 y2 y3 y4 y5 y6
      unfold gessolaw04_HangulRow.j0
      repeat' first
      | (with_reducible exact ih0 _ _ _ _ _ _ _)
      | (with_reducible exact LeO.refl _)
      | (with_reducible exact LeO.none _)
      | (with_reducible refine LeO.ite ?_ ?_)
      | (with_reducible refine LeO.bind ?_ (fun _ => ?_))
      | exact ih0 _ _ _ _ _ _ _
      | exact LeO.none _
      | refine LeO.ite ?_ ?_
      | refine LeO.bind ?_ (fun _ => ?_)
theorem gessolaw04_HangulRow.mono : ∀ a0 k, LeO (gessolaw04_HangulRow.f k a0) (gessolaw04_HangulRow.f (k + 1) a0) := by
  intro a0 k
  have ih0 := gessolaw04_HangulRow.mono_l k
  unfold gessolaw04_HangulRow.f
  repeat' first
      | (with_reducible exact ih0 _ _ _ _ _ _ _)
      | (with_reducible exact LeO.refl _)
      | (with_reducible exact LeO.none _)
      | (with_reducible refine LeO.ite ?_ ?_)
      | (with_reducible refine LeO.bind ?_ (fun _ => ?_))
      | exact ih0 _ _ _ _ _ _ _
      | exact LeO.none _
      | refine LeO.ite ?_ ?_
      | refine LeO.bind ?_ (fun _ => ?_)
set_option maxHeartbeats 8000000 in
set_option maxRecDepth 100000 in
theorem gessolaw04_HangulRow.calls (k : Nat) (a0 : Int) (r : Bool) (w : World) (h : gessolaw04_HangulRow.f k a0 = some r) :
    Calls Try.prog 7 #[.int .u16 a0] w fun e w' => e = .returned (.bool r) ∧ Below w.heap.size w w' := by
  have HB := Aside0.mk (Below.refl w.heap.size w)
  have H : ((hangul_Split.f (44032 + (((a0) % 4294967296) % 11171))).bind fun bt142 => ((hangul_Split.f ((44032 + (((a0) % 4294967296) % 11171)) + 1)).bind fun bt146 => (if bt142.2.2.2 = true then (gessolaw04_HangulRow.j0 k bt142.1 bt142.2.1 bt142.2.2.1 bt146.1 bt146.2.1 bt146.2.2.1 (!bt146.2.2.2)) else (gessolaw04_HangulRow.j0 k bt142.1 bt142.2.1 bt142.2.2.1 bt146.1 bt146.2.1 bt146.2.2.1 true)))) = some r := h
  clear h
  replace H := Option.bind_eq_some_iff.mp H
  obtain ⟨⟨t142, t143, t144, t145⟩, A20, H⟩ := H
  replace H : ((hangul_Split.f ((44032 + (((a0) % 4294967296) % 11171)) + 1)).bind fun bt146 => (if t145 = true then (gessolaw04_HangulRow.j0 k t142 t143 t144 bt146.1 bt146.2.1 bt146.2.2.1 (!bt146.2.2.2)) else (gessolaw04_HangulRow.j0 k t142 t143 t144 bt146.1 bt146.2.1 bt146.2.2.1 true))) = some r := H
  have A2 := Aside0.mk A20
  clear A20
  replace H := Option.bind_eq_some_iff.mp H
  obtain ⟨⟨t146, t147, t148, t149⟩, A30, H⟩ := H
  replace H : (if t145 = true then (gessolaw04_HangulRow.j0 k t142 t143 t144 t146 t147 t148 (!t149)) else (gessolaw04_HangulRow.j0 k t142 t143 t144 t146 t147 t148 true)) = some r := H
  have A3 := Aside0.mk A30
  clear A30
  have HC4 := Aside0.mk H
  clear H
  go_enter Try.func7, Try.ntmps7
  go_upto_region 4 with (first | ((with_reducible refine gate_callee (f := 9) rfl ?_); refine goesL_ (some 18) rfl rfl Try.func9 (by kernel_rfl) rfl #[.int .u32 (44032 + (((a0) % 4294967296) % 11171))] rfl (by (try simp only [List.map_toArray, List.map_cons, List.map_nil]); first | done | rfl | (simp only [List.length_drop, List.length_take]; rfl)) ?_; (with_reducible refine (hangul_Split.calls (44032 + (((a0) % 4294967296) % 11171)) t142 t143 t144 t145 _ A2.out).mono ?_); rintro e w5 ⟨rfl, hb⟩; refine ⟨_, rfl, ?_⟩; have n0_ := Aside0.mk (below_step (by repeat (first | (with_reducible first | exact HB.out | apply below_alloc | apply pw_below_drewN | apply below_drew1) | exact HB.out)) hb); clear HB; have HB := n0_; clear n0_; (try clear hb); (try clear hb2); (try clear hk); (try clear hi)) | ((with_reducible refine gate_callee (f := 9) rfl ?_); refine goesL_ (some 26) rfl rfl Try.func9 (by kernel_rfl) rfl #[.int .u32 ((44032 + (((a0) % 4294967296) % 11171)) + 1)] rfl (by (try simp only [List.map_toArray, List.map_cons, List.map_nil]); first | done | rfl | (simp only [List.length_drop, List.length_take]; rfl)) ?_; (with_reducible refine (hangul_Split.calls ((44032 + (((a0) % 4294967296) % 11171)) + 1) t146 t147 t148 t149 _ A3.out).mono ?_); rintro e w6 ⟨rfl, hb⟩; refine ⟨_, rfl, ?_⟩; have n0_ := Aside0.mk (below_step (by repeat (first | (with_reducible first | exact HB.out | apply below_alloc | apply pw_below_drewN | apply below_drew1) | exact HB.out)) hb); clear HB; have HB := n0_; clear n0_; (try clear hb); (try clear hb2); (try clear hk); (try clear hi)))
  (try simp only [Act.put, List.setIfInBounds_toArray, List.set_cons_zero, List.set_cons_succ])
  go_cut [36] (fun v36 wc => ∃ (kq : Nat) (x36_3 : Bool), v36 = .bool x36_3 ∧ Aside0 (gessolaw04_HangulRow.j0 kq t142 t143 t144 t146 t147 t148 x36_3 = some r) ∧ Aside0 (kq ≤ k) ∧ Aside0 (Below w.heap.size w wc))
  case first =>
    have H := HC4.out
    clear HC4
    by_cases c7 : t145 = true
    · subst c7
      have H1 : (gessolaw04_HangulRow.j0 k t142 t143 t144 t146 t147 t148 (!t149)) = some r := by rw [if_pos rfl] at H; exact H
      clear H
      have H := H1
      clear H1
      have H' := Aside0.mk H
      clear H
      go_wp2
      go_meet
      case rel => exact ⟨_, (!t149), (by first | rfl | (simp; done) | (simp [*]; done)), H', ⟨by first | omega | exact Nat.le_refl _⟩, ⟨by repeat (first | (with_reducible first | exact HB.out | apply below_alloc | apply pw_below_drewN | apply below_drew1) | exact HB.out)⟩⟩
    · replace c7 := Bool.eq_false_iff.mpr c7
      subst c7
      have H1 : (gessolaw04_HangulRow.j0 k t142 t143 t144 t146 t147 t148 true) = some r := by rw [if_neg (show ¬ (false = true) by decide)] at H; exact H
      clear H
      have H := H1
      clear H1
      have H' := Aside0.mk H
      clear H
      go_wp2
      go_meet
      case rel => exact ⟨_, (true), (by first | rfl | (simp; done) | (simp [*]; done)), H', ⟨by first | omega | exact Nat.le_refl _⟩, ⟨by repeat (first | (with_reducible first | exact HB.out | apply below_alloc | apply pw_below_drewN | apply below_drew1) | exact HB.out)⟩⟩
  case rest =>
    clear HC4
    try clear p2
    try clear c7
    obtain ⟨kq, x36_3, rfl, HA, HJ3, HB⟩ := hcut
    cases kq with
    | zero => exact absurd HA.out (by simp [gessolaw04_HangulRow.j0])
    | succ kj3 =>
      have H := HA.out
      clear HA
      simp only [gessolaw04_HangulRow.j0] at H
      by_cases c8 : x36_3 = true
      · subst c8
        have H1 : (some false) = some r := by rw [if_pos rfl] at H; exact H
        clear H
        have H := H1
        clear H1
        obtain rfl := Option.some.inj H
        go_wp2
        go_ret
        exact ⟨by first | rfl | (simp [errW_none, errW_some] <;> rfl) | (simp [*, errW_none, errW_some] <;> rfl), by repeat (first | (with_reducible first | exact HB.out | apply below_alloc | apply pw_below_drewN | apply below_drew1) | exact HB.out)⟩
      · replace c8 := Bool.eq_false_iff.mpr c8
        subst c8
        have H1 : (if t144 = 0 then (if t146 = t142 then (if t147 = t143 then (if t148 = 4520 then ((gessolaw04_awake.f).bind fun t150 => (some t150)) else (some false)) else (some false)) else (some false)) else (if t144 < 4546 then (if t146 = t142 then (if t147 = t143 then (if t148 = ((t144 + 1) % 4294967296) then ((gessolaw04_awake.f).bind fun t151 => (some t151)) else (some false)) else (some false)) else (some false)) else (if t143 < 4469 then (if t146 = t142 then (if t147 = ((t143 + 1) % 4294967296) then (if t148 = 0 then ((gessolaw04_awake.f).bind fun t152 => (some t152)) else (some false)) else (some false)) else (some false)) else (if t146 = ((t142 + 1) % 4294967296) then (if t147 = 4449 then (if t148 = 0 then ((gessolaw04_awake.f).bind fun t153 => (some t153)) else (some false)) else (some false)) else (some false))))) = some r := by rw [if_neg (show ¬ (false = true) by decide)] at H; exact H
        clear H
        have H := H1
        clear H1
        by_cases c9 : t144 = 0
        · rw [if_pos c9] at H
          have c9b0 : (t144 == 0) = true := beq_iff_eq.mpr c9
          have c9b1 : (t144 != 0) = false := bne_eq_false_iff_eq.mpr c9
          clear c9
          by_cases c10 : t146 = t142
          · rw [if_pos c10] at H
            have c10b0 : (t146 == t142) = true := beq_iff_eq.mpr c10
            have c10b1 : (t146 != t142) = false := bne_eq_false_iff_eq.mpr c10
            clear c10
            by_cases c11 : t147 = t143
            · rw [if_pos c11] at H
              have c11b0 : (t147 == t143) = true := beq_iff_eq.mpr c11
              have c11b1 : (t147 != t143) = false := bne_eq_false_iff_eq.mpr c11
              clear c11
              by_cases c12 : t148 = 4520
              · rw [if_pos c12] at H
                have c12b0 : (t148 == 4520) = true := beq_iff_eq.mpr c12
                have c12b1 : (t148 != 4520) = false := bne_eq_false_iff_eq.mpr c12
                clear c12
                replace H := Option.bind_eq_some_iff.mp H
                obtain ⟨t150, A130, H⟩ := H
                replace H : (some t150) = some r := H
                have A13 := Aside0.mk A130
                clear A130
                obtain rfl := Option.some.inj H
                go_wp2_with (first | (go_at_call 13; (with_reducible refine (gessolaw04_awake.calls  t150 _ A13.out).mono ?_); rintro e w14 ⟨rfl, hb⟩; have n0_ := Aside0.mk (below_step (by repeat (first | (with_reducible first | exact HB.out | apply below_alloc | apply pw_below_drewN | apply below_drew1) | exact HB.out)) hb); clear HB; have HB := n0_; clear n0_; (try clear hb); (try clear hb2); (try clear hk); (try clear hi)))
                go_ret
                exact ⟨by first | rfl | (simp [errW_none, errW_some] <;> rfl) | (simp [*, errW_none, errW_some] <;> rfl), by repeat (first | (with_reducible first | exact HB.out | apply below_alloc | apply pw_below_drewN | apply below_drew1) | exact HB.out)⟩
              · rw [if_neg c12] at H
                have c12b0 : (t148 == 4520) = false := beq_eq_false_iff_ne.mpr c12
                have c12b1 : (t148 != 4520) = true := bne_iff_ne.mpr c12
                obtain rfl := Option.some.inj H
                go_wp2
                go_ret
                exact ⟨by first | rfl | (simp [errW_none, errW_some] <;> rfl) | (simp [*, errW_none, errW_some] <;> rfl), by repeat (first | (with_reducible first | exact HB.out | apply below_alloc | apply pw_below_drewN | apply below_drew1) | exact HB.out)⟩
            · rw [if_neg c11] at H
              have c11b0 : (t147 == t143) = false := beq_eq_false_iff_ne.mpr c11
              have c11b1 : (t147 != t143) = true := bne_iff_ne.mpr c11
              obtain rfl := Option.some.inj H
              go_wp2
              go_ret
              exact ⟨by first | rfl | (simp [errW_none, errW_some] <;> rfl) | (simp [*, errW_none, errW_some] <;> rfl), by repeat (first | (with_reducible first | exact HB.out | apply below_alloc | apply pw_below_drewN | apply below_drew1) | exact HB.out)⟩
          · rw [if_neg c10] at H
            have c10b0 : (t146 == t142) = false := beq_eq_false_iff_ne.mpr c10
            have c10b1 : (t146 != t142) = true := bne_iff_ne.mpr c10
            obtain rfl := Option.some.inj H
            go_wp2
            go_ret
            exact ⟨by first | rfl | (simp [errW_none, errW_some] <;> rfl) | (simp [*, errW_none, errW_some] <;> rfl), by repeat (first | (with_reducible first | exact HB.out | apply below_alloc | apply pw_below_drewN | apply below_drew1) | exact HB.out)⟩
        · rw [if_neg c9] at H
          have c9b0 : (t144 == 0) = false := beq_eq_false_iff_ne.mpr c9
          have c9b1 : (t144 != 0) = true := bne_iff_ne.mpr c9
          by_cases c15 : t144 < 4546
          · rw [if_pos c15] at H
            have c15b0 : decide (t144 < 4546) = true := decide_eq_true c15
            clear c15
            by_cases c16 : t146 = t142
            · rw [if_pos c16] at H
              have c16b0 : (t146 == t142) = true := beq_iff_eq.mpr c16
              have c16b1 : (t146 != t142) = false := bne_eq_false_iff_eq.mpr c16
              clear c16
              by_cases c17 : t147 = t143
              · rw [if_pos c17] at H
                have c17b0 : (t147 == t143) = true := beq_iff_eq.mpr c17
                have c17b1 : (t147 != t143) = false := bne_eq_false_iff_eq.mpr c17
                clear c17
                by_cases c18 : t148 = ((t144 + 1) % 4294967296)
                · rw [if_pos c18] at H
                  have c18b0 : (t148 == ((t144 + 1) % 4294967296)) = true := beq_iff_eq.mpr c18
                  have c18b1 : (t148 != ((t144 + 1) % 4294967296)) = false := bne_eq_false_iff_eq.mpr c18
                  clear c18
                  replace H := Option.bind_eq_some_iff.mp H
                  obtain ⟨t151, A190, H⟩ := H
                  replace H : (some t151) = some r := H
                  have A19 := Aside0.mk A190
                  clear A190
                  obtain rfl := Option.some.inj H
                  go_wp2_with (first | (go_at_call 13; (with_reducible refine (gessolaw04_awake.calls  t151 _ A19.out).mono ?_); rintro e w20 ⟨rfl, hb⟩; have n0_ := Aside0.mk (below_step (by repeat (first | (with_reducible first | exact HB.out | apply below_alloc | apply pw_below_drewN | apply below_drew1) | exact HB.out)) hb); clear HB; have HB := n0_; clear n0_; (try clear hb); (try clear hb2); (try clear hk); (try clear hi)))
                  go_ret
                  exact ⟨by first | rfl | (simp [errW_none, errW_some] <;> rfl) | (simp [*, errW_none, errW_some] <;> rfl), by repeat (first | (with_reducible first | exact HB.out | apply below_alloc | apply pw_below_drewN | apply below_drew1) | exact HB.out)⟩
                · rw [if_neg c18] at H
                  have c18b0 : (t148 == ((t144 + 1) % 4294967296)) = false := beq_eq_false_iff_ne.mpr c18
                  have c18b1 : (t148 != ((t144 + 1) % 4294967296)) = true := bne_iff_ne.mpr c18
                  obtain rfl := Option.some.inj H
                  go_wp2
                  go_ret
                  exact ⟨by first | rfl | (simp [errW_none, errW_some] <;> rfl) | (simp [*, errW_none, errW_some] <;> rfl), by repeat (first | (with_reducible first | exact HB.out | apply below_alloc | apply pw_below_drewN | apply below_drew1) | exact HB.out)⟩
              · rw [if_neg c17] at H
                have c17b0 : (t147 == t143) = false := beq_eq_false_iff_ne.mpr c17
                have c17b1 : (t147 != t143) = true := bne_iff_ne.mpr c17
                obtain rfl := Option.some.inj H
                go_wp2
                go_ret
                exact ⟨by first | rfl | (simp [errW_none, errW_some] <;> rfl) | (simp [*, errW_none, errW_some] <;> rfl), by repeat (first | (with_reducible first | exact HB.out | apply below_alloc | apply pw_below_drewN | apply below_drew1) | exact HB.out)⟩
            · rw [if_neg c16] at H
              have c16b0 : (t146 == t142) = false := beq_eq_false_iff_ne.mpr c16
              have c16b1 : (t146 != t142) = true := bne_iff_ne.mpr c16
              obtain rfl := Option.some.inj H
              go_wp2
              go_ret
              exact ⟨by first | rfl | (simp [errW_none, errW_some] <;> rfl) | (simp [*, errW_none, errW_some] <;> rfl), by repeat (first | (with_reducible first | exact HB.out | apply below_alloc | apply pw_below_drewN | apply below_drew1) | exact HB.out)⟩
          · rw [if_neg c15] at H
            have c15b0 : decide (t144 < 4546) = false := decide_eq_false c15
            clear c15
            by_cases c21 : t143 < 4469
            · rw [if_pos c21] at H
              have c21b0 : decide (t143 < 4469) = true := decide_eq_true c21
              clear c21
              by_cases c22 : t146 = t142
              · rw [if_pos c22] at H
                have c22b0 : (t146 == t142) = true := beq_iff_eq.mpr c22
                have c22b1 : (t146 != t142) = false := bne_eq_false_iff_eq.mpr c22
                clear c22
                by_cases c23 : t147 = ((t143 + 1) % 4294967296)
                · rw [if_pos c23] at H
                  have c23b0 : (t147 == ((t143 + 1) % 4294967296)) = true := beq_iff_eq.mpr c23
                  have c23b1 : (t147 != ((t143 + 1) % 4294967296)) = false := bne_eq_false_iff_eq.mpr c23
                  clear c23
                  by_cases c24 : t148 = 0
                  · rw [if_pos c24] at H
                    have c24b0 : (t148 == 0) = true := beq_iff_eq.mpr c24
                    have c24b1 : (t148 != 0) = false := bne_eq_false_iff_eq.mpr c24
                    clear c24
                    replace H := Option.bind_eq_some_iff.mp H
                    obtain ⟨t152, A250, H⟩ := H
                    replace H : (some t152) = some r := H
                    have A25 := Aside0.mk A250
                    clear A250
                    obtain rfl := Option.some.inj H
                    go_wp2_with (first | (go_at_call 13; (with_reducible refine (gessolaw04_awake.calls  t152 _ A25.out).mono ?_); rintro e w26 ⟨rfl, hb⟩; have n0_ := Aside0.mk (below_step (by repeat (first | (with_reducible first | exact HB.out | apply below_alloc | apply pw_below_drewN | apply below_drew1) | exact HB.out)) hb); clear HB; have HB := n0_; clear n0_; (try clear hb); (try clear hb2); (try clear hk); (try clear hi)))
                    go_ret
                    exact ⟨by first | rfl | (simp [errW_none, errW_some] <;> rfl) | (simp [*, errW_none, errW_some] <;> rfl), by repeat (first | (with_reducible first | exact HB.out | apply below_alloc | apply pw_below_drewN | apply below_drew1) | exact HB.out)⟩
                  · rw [if_neg c24] at H
                    have c24b0 : (t148 == 0) = false := beq_eq_false_iff_ne.mpr c24
                    have c24b1 : (t148 != 0) = true := bne_iff_ne.mpr c24
                    obtain rfl := Option.some.inj H
                    go_wp2
                    go_ret
                    exact ⟨by first | rfl | (simp [errW_none, errW_some] <;> rfl) | (simp [*, errW_none, errW_some] <;> rfl), by repeat (first | (with_reducible first | exact HB.out | apply below_alloc | apply pw_below_drewN | apply below_drew1) | exact HB.out)⟩
                · rw [if_neg c23] at H
                  have c23b0 : (t147 == ((t143 + 1) % 4294967296)) = false := beq_eq_false_iff_ne.mpr c23
                  have c23b1 : (t147 != ((t143 + 1) % 4294967296)) = true := bne_iff_ne.mpr c23
                  obtain rfl := Option.some.inj H
                  go_wp2
                  go_ret
                  exact ⟨by first | rfl | (simp [errW_none, errW_some] <;> rfl) | (simp [*, errW_none, errW_some] <;> rfl), by repeat (first | (with_reducible first | exact HB.out | apply below_alloc | apply pw_below_drewN | apply below_drew1) | exact HB.out)⟩
              · rw [if_neg c22] at H
                have c22b0 : (t146 == t142) = false := beq_eq_false_iff_ne.mpr c22
                have c22b1 : (t146 != t142) = true := bne_iff_ne.mpr c22
                obtain rfl := Option.some.inj H
                go_wp2
                go_ret
                exact ⟨by first | rfl | (simp [errW_none, errW_some] <;> rfl) | (simp [*, errW_none, errW_some] <;> rfl), by repeat (first | (with_reducible first | exact HB.out | apply below_alloc | apply pw_below_drewN | apply below_drew1) | exact HB.out)⟩
            · rw [if_neg c21] at H
              have c21b0 : decide (t143 < 4469) = false := decide_eq_false c21
              clear c21
              by_cases c27 : t146 = ((t142 + 1) % 4294967296)
              · rw [if_pos c27] at H
                have c27b0 : (t146 == ((t142 + 1) % 4294967296)) = true := beq_iff_eq.mpr c27
                have c27b1 : (t146 != ((t142 + 1) % 4294967296)) = false := bne_eq_false_iff_eq.mpr c27
                clear c27
                by_cases c28 : t147 = 4449
                · rw [if_pos c28] at H
                  have c28b0 : (t147 == 4449) = true := beq_iff_eq.mpr c28
                  have c28b1 : (t147 != 4449) = false := bne_eq_false_iff_eq.mpr c28
                  clear c28
                  by_cases c29 : t148 = 0
                  · rw [if_pos c29] at H
                    have c29b0 : (t148 == 0) = true := beq_iff_eq.mpr c29
                    have c29b1 : (t148 != 0) = false := bne_eq_false_iff_eq.mpr c29
                    clear c29
                    replace H := Option.bind_eq_some_iff.mp H
                    obtain ⟨t153, A300, H⟩ := H
                    replace H : (some t153) = some r := H
                    have A30 := Aside0.mk A300
                    clear A300
                    obtain rfl := Option.some.inj H
                    go_wp2_with (first | (go_at_call 13; (with_reducible refine (gessolaw04_awake.calls  t153 _ A30.out).mono ?_); rintro e w31 ⟨rfl, hb⟩; have n0_ := Aside0.mk (below_step (by repeat (first | (with_reducible first | exact HB.out | apply below_alloc | apply pw_below_drewN | apply below_drew1) | exact HB.out)) hb); clear HB; have HB := n0_; clear n0_; (try clear hb); (try clear hb2); (try clear hk); (try clear hi)))
                    go_ret
                    exact ⟨by first | rfl | (simp [errW_none, errW_some] <;> rfl) | (simp [*, errW_none, errW_some] <;> rfl), by repeat (first | (with_reducible first | exact HB.out | apply below_alloc | apply pw_below_drewN | apply below_drew1) | exact HB.out)⟩
                  · rw [if_neg c29] at H
                    have c29b0 : (t148 == 0) = false := beq_eq_false_iff_ne.mpr c29
                    have c29b1 : (t148 != 0) = true := bne_iff_ne.mpr c29
                    obtain rfl := Option.some.inj H
                    go_wp2
                    go_ret
                    exact ⟨by first | rfl | (simp [errW_none, errW_some] <;> rfl) | (simp [*, errW_none, errW_some] <;> rfl), by repeat (first | (with_reducible first | exact HB.out | apply below_alloc | apply pw_below_drewN | apply below_drew1) | exact HB.out)⟩
                · rw [if_neg c28] at H
                  have c28b0 : (t147 == 4449) = false := beq_eq_false_iff_ne.mpr c28
                  have c28b1 : (t147 != 4449) = true := bne_iff_ne.mpr c28
                  obtain rfl := Option.some.inj H
                  go_wp2
                  go_ret
                  exact ⟨by first | rfl | (simp [errW_none, errW_some] <;> rfl) | (simp [*, errW_none, errW_some] <;> rfl), by repeat (first | (with_reducible first | exact HB.out | apply below_alloc | apply pw_below_drewN | apply below_drew1) | exact HB.out)⟩
              · rw [if_neg c27] at H
                have c27b0 : (t146 == ((t142 + 1) % 4294967296)) = false := beq_eq_false_iff_ne.mpr c27
                have c27b1 : (t146 != ((t142 + 1) % 4294967296)) = true := bne_iff_ne.mpr c27
                obtain rfl := Option.some.inj H
                go_wp2
                go_ret
                exact ⟨by first | rfl | (simp [errW_none, errW_some] <;> rfl) | (simp [*, errW_none, errW_some] <;> rfl), by repeat (first | (with_reducible first | exact HB.out | apply below_alloc | apply pw_below_drewN | apply below_drew1) | exact HB.out)⟩

/-- THE ONE PURE STATEMENT of gessolaw04_HangulRow: yours. -/
def gessolaw04_HangulRow.Pure : Prop := ∀ (a0 : Int), (Lit.int .u16 a0).wf = true → ∃ k, gessolaw04_HangulRow.f k a0 = some true
theorem gessolaw04_HangulRow.walk (P : gessolaw04_HangulRow.Pure) (a0 : Int) (w : World) (w0 : (Lit.int .u16 a0).wf = true) :
    Calls Try.prog 7 #[.int .u16 a0] w fun e w' => e = .returned (.bool true) ∧ Below w.heap.size w w' := by
  obtain ⟨k, h⟩ := P a0 w0
  refine (gessolaw04_HangulRow.calls k a0 true w h).mono ?_
  rintro e w' ⟨rfl, hd⟩
  exact ⟨rfl, hd⟩

end Go.Proofs.Ytmhehgkpbkoomaa.P
