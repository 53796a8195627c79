/- Functions of the translated program as plain Lean functions, and proofs that their calls come to these. Written by a program of the session. No condition. -/
import Derived.Test.YtjlhehaagaaihaaDoorPx0
import Derived.Test.YtjlhehaagaaihaaDoorPx10
import Derived.Test.YtjlhehaagaaihaaDoorPx11
import Derived.Test.YtjlhehaagaaihaaDoorPx20
namespace Go.Proofs.YtjlhehaagaaihaaDoor.P
open Go.RowKit Go.Proofs.YtjlhehaagaaihaaDoorW.PrintWords Go.Proofs.YtjlhehaagaaihaaDoorW.PrintLast Go.Proofs.YtjlhehaagaaihaaDoorW.PrintMore
attribute [local go_sem] max2_int min2_int max_two min_two max_three min_three max_four min_four   -- for this text's walks alone
set_option linter.unusedVariables false
set_option linter.unusedSimpArgs false

/-! ### gessolaw01_CodeWidths: function 8 -/
def gessolaw01_CodeWidths.l0 : Nat → Int → Int → List Int → Int → Option (Bool)
  | 0, _, _, _, _ => none
  | k + 1, x0, x1, x5, x7 => if x7 < (x5.length : Int) then (if 0 ≤ x7 then (if (rd x5 x7) < 128 then (none) else (if (rd x5 x7) > 191 then (none) else (gessolaw01_CodeWidths.l0 k x0 x1 x5 (wrap64 (x7 + 1))))) else (none)) else ((code_Width.f k x0).bind fun t272 => (if (x5.length : Int) = t272 then (if (x5.length : Int) > 0 then (if 0 < (x5.length : Int) then (if (rd x5 0) < 128 then ((code_Width.f k x1).bind fun t274 => (if t274 = 0 then ((gessolaw01_awake.f k).bind fun t275 => (some t275)) else (if x1 < x0 then ((gessolaw01_awake.f k).bind fun t276 => (some t276)) else ((code_Width.f k x1).bind fun t277 => ((code_Width.f k x0).bind fun t278 => (if t277 ≥ t278 then ((gessolaw01_awake.f k).bind fun t279 => (some t279)) else (none))))))) else (if (rd x5 0) > 191 then ((code_Width.f k x1).bind fun t281 => (if t281 = 0 then ((gessolaw01_awake.f k).bind fun t282 => (some t282)) else (if x1 < x0 then ((gessolaw01_awake.f k).bind fun t283 => (some t283)) else ((code_Width.f k x1).bind fun t284 => ((code_Width.f k x0).bind fun t285 => (if t284 ≥ t285 then ((gessolaw01_awake.f k).bind fun t286 => (some t286)) else (none))))))) else (none))) else (none)) else (none)) else (none)))
def gessolaw01_CodeWidths.f (k : Nat) (a0 : Int) (a1 : Int) : Option (Bool) := (code_Put.f k a0).bind fun bt264 => (if bt264.2 = 0 then (gessolaw01_CodeWidths.l0 k a0 a1 bt264.1 1) else ((code_Width.f k a0).bind fun t268 => (if t268 = 0 then (if (bt264.1.length : Int) = 0 then ((gessolaw01_awake.f k).bind fun t269 => (some t269)) else (none)) else (none))))
theorem gessolaw01_CodeWidths.mono_l : ∀ k, (∀ y0 y1 y2 y3, LeO (gessolaw01_CodeWidths.l0 k y0 y1 y2 y3) (gessolaw01_CodeWidths.l0 (k + 1) y0 y1 y2 y3))
  | 0 => fun _ _ _ _ r h => by simp [gessolaw01_CodeWidths.l0] at h
  | k + 1 => by
    have ih0 := gessolaw01_CodeWidths.mono_l k
    · intro y0 y1 y2 y3
      unfold gessolaw01_CodeWidths.l0
      repeat' first
      | (with_reducible exact ih0 _ _ _ _)
      | (with_reducible exact code_Put.mono _ _)
      | (with_reducible exact code_Width.mono _ _)
      | (with_reducible exact gessolaw01_awake.mono _)
      | (with_reducible exact LeO.refl _)
      | (with_reducible exact LeO.none _)
      | (with_reducible refine LeO.ite ?_ ?_)
      | (with_reducible refine LeO.bind ?_ (fun _ => ?_))
      | exact ih0 _ _ _ _
      | exact code_Put.mono _ _
      | exact code_Width.mono _ _
      | exact gessolaw01_awake.mono _
      | exact LeO.none _
      | refine LeO.ite ?_ ?_
      | refine LeO.bind ?_ (fun _ => ?_)
theorem gessolaw01_CodeWidths.mono : ∀ a0 a1 k, LeO (gessolaw01_CodeWidths.f k a0 a1) (gessolaw01_CodeWidths.f (k + 1) a0 a1) := by
  intro a0 a1 k
  have ih0 := gessolaw01_CodeWidths.mono_l k
  unfold gessolaw01_CodeWidths.f
  repeat' first
      | (with_reducible exact ih0 _ _ _ _)
      | (with_reducible exact code_Put.mono _ _)
      | (with_reducible exact code_Width.mono _ _)
      | (with_reducible exact gessolaw01_awake.mono _)
      | (with_reducible exact LeO.refl _)
      | (with_reducible exact LeO.none _)
      | (with_reducible refine LeO.ite ?_ ?_)
      | (with_reducible refine LeO.bind ?_ (fun _ => ?_))
      | exact ih0 _ _ _ _
      | exact code_Put.mono _ _
      | exact code_Width.mono _ _
      | exact gessolaw01_awake.mono _
      | exact LeO.none _
      | refine LeO.ite ?_ ?_
      | refine LeO.bind ?_ (fun _ => ?_)
set_option maxHeartbeats 8000000 in
set_option maxRecDepth 100000 in
theorem gessolaw01_CodeWidths.calls (k : Nat) (a0 : Int) (a1 : Int) (r : Bool) (w : World) (HTb_ : Aside0 (Tabs w)) (h : gessolaw01_CodeWidths.f k a0 a1 = some r) :
    Calls Tryd.prog 8 #[.int .u32 a0, .int .u32 a1] w fun e w' => e = .returned (.bool r) ∧ Below w.heap.size w w' := by
  have HB := Aside0.mk (Below.refl w.heap.size w)
  have H : ((code_Put.f k a0).bind fun bt264 => (if bt264.2 = 0 then (gessolaw01_CodeWidths.l0 k a0 a1 bt264.1 1) else ((code_Width.f k a0).bind fun t268 => (if t268 = 0 then (if (bt264.1.length : Int) = 0 then ((gessolaw01_awake.f k).bind fun t269 => (some t269)) else (none)) else (none))))) = some r := h
  clear h
  replace H := Option.bind_eq_some_iff.mp H
  obtain ⟨⟨t264, t265⟩, A30, H⟩ := H
  replace H : (if t265 = 0 then (gessolaw01_CodeWidths.l0 k a0 a1 t264 1) else ((code_Width.f k a0).bind fun t268 => (if t268 = 0 then (if (t264.length : Int) = 0 then ((gessolaw01_awake.f k).bind fun t269 => (some t269)) else (none)) else (none)))) = some r := H
  have A3 := Aside0.mk A30
  clear A30
  by_cases c4 : t265 = 0
  · rw [if_pos c4] at H
    have c4b0 : (t265 == 0) = true := beq_iff_eq.mpr c4
    have c4b1 : (t265 != 0) = false := bne_eq_false_iff_eq.mpr c4
    clear c4
    have H' := Aside0.mk H
    clear H
    go_enter Tryd.func8, Tryd.ntmps8
    go_wp2_with (first | ((with_reducible refine gate_callee (f := 26) rfl ?_); refine goesL_ (some 10) rfl rfl Tryd.func26 (by kernel_rfl) rfl #[.int .u32 a0] rfl (by (try simp only [List.map_toArray, List.map_cons, List.map_nil]); first | done | rfl | (simp only [List.length_drop, List.length_take]; rfl)) ?_; (with_reducible refine (code_Put.calls k a0 t264 t265 _ A3.out).mono ?_); rintro e w5 ⟨v266, rfl, ho0, hb⟩; refine ⟨_, rfl, ?_⟩; have n0_ := Aside0.mk (Kd.R_lower ho0 (below_size (by repeat (first | (with_reducible first | exact HB.out | apply below_alloc | apply pw_below_drewN | apply below_drew1) | exact HB.out)))); have n1_ := Aside0.mk (below_step (by repeat (first | (with_reducible first | exact HB.out | apply below_alloc | apply pw_below_drewN | apply below_drew1) | exact HB.out)) hb); clear HB; have HO267 := n0_; have HB := n1_; clear n0_ n1_; (try clear hb); (try clear hb2); (try clear hk); (try clear hi); (try clear ho0)))
    go_loopg [7] k (fun kq v7 w' => ∃ (x7_1 : Int), v7 = .int .i64 x7_1 ∧ Aside0 (gessolaw01_CodeWidths.l0 kq a0 a1 t264 x7_1 = some r) ∧ Aside0 (kq ≤ k) ∧ Aside0 (Kd.R (Kd.int .u8) 5 w' w.heap.size (fun _ => True) v266 t264) ∧ Aside0 (Below w.heap.size w w'))
    case atStart => exact ⟨(1), (by first | rfl | (simp; done) | (simp [*]; done)), H', ⟨Nat.le_refl _⟩, ⟨by (with_reducible repeat (first | apply Kd.R_alloc | apply Kd.R_drewN | apply Kd.R_drew)); exact HO267.out⟩, ⟨by repeat (first | (with_reducible first | exact HB.out | apply below_alloc | apply pw_below_drewN | apply below_drew1) | exact HB.out)⟩⟩
    case round =>
      clear H'
      try clear c2
      try clear p2
      try clear c4
      try clear c4b0
      try clear c4b1
      obtain ⟨x7_1, rfl, HA, HK1, HO_5, HB⟩ := hrel
      cases gk with
      | zero => exact absurd HA.out (by simp [gessolaw01_CodeWidths.l0])
      | succ k1 =>
        have H := HA.out
        clear HA
        simp only [gessolaw01_CodeWidths.l0] at H
        by_cases c6 : x7_1 < (t264.length : Int)
        · rw [if_pos c6] at H
          have c6b0 : decide (x7_1 < (t264.length : Int)) = true := decide_eq_true c6
          clear c6
          by_cases c7 : 0 ≤ x7_1
          · rw [if_pos c7] at H
            have c7b0 : decide (0 ≤ x7_1) = true := decide_eq_true c7
            clear c7
            by_cases c8 : (rd t264 x7_1) < 128
            · rw [if_pos c8] at H
              exact absurd H (by simp)
            · rw [if_neg c8] at H
              have c8b0 : decide ((rd t264 x7_1) < 128) = false := decide_eq_false c8
              clear c8
              by_cases c9 : (rd t264 x7_1) > 191
              · rw [if_pos c9] at H
                exact absurd H (by simp)
              · rw [if_neg c9] at H
                have c9b0 : decide (191 < (rd t264 x7_1)) = false := decide_eq_false c9
                clear c9
                have H' := Aside0.mk H
                clear H
                obtain ⟨Ao10, co10, eo10⟩ := Kd.R_slice HO_5.out
                subst eo10
                have p270 : 0 ≤ (x7_1 : Int) := of_decide_eq_true (by first | (with_reducible assumption) | assumption)
                have q270 : x7_1 < (t264.length : Int) := of_decide_eq_true (by first | (with_reducible assumption) | assumption)
                obtain ⟨ad270, e270, hx270_0⟩ := Kd.at_int (Kd.R_reads' HO_5.out).2.2 x7_1 p270 q270
                cases e270
                replace p270 := eq_true p270
                replace q270 := eq_true q270
                have p271 : 0 ≤ (x7_1 : Int) := of_decide_eq_true (by first | (with_reducible assumption) | assumption)
                have q271 : x7_1 < (t264.length : Int) := of_decide_eq_true (by first | (with_reducible assumption) | assumption)
                obtain ⟨ad271, e271, hx271_0⟩ := Kd.at_int (Kd.R_reads' HO_5.out).2.2 x7_1 p271 q271
                obtain rfl : ad270 = ad271 := (by injection e271)
                replace p271 := eq_true p271
                replace q271 := eq_true q271
                go_wp2
                go_roundg k1
                case measure => have := HK1.out; omega
                case rel => exact ⟨(wrap64 (x7_1 + 1)), (by first | rfl | (simp; done) | (simp [*]; done)), H', ⟨by have := HK1.out; omega⟩, ⟨by (with_reducible repeat (first | apply Kd.R_alloc | apply Kd.R_drewN | apply Kd.R_drew)); exact HO_5.out⟩, ⟨by repeat (first | (with_reducible first | exact HB.out | apply below_alloc | apply pw_below_drewN | apply below_drew1) | exact HB.out)⟩⟩
          · rw [if_neg c7] at H
            exact absurd H (by simp)
        · rw [if_neg c6] at H
          have c6b0 : decide (x7_1 < (t264.length : Int)) = false := decide_eq_false c6
          clear c6
          replace H := Option.bind_eq_some_iff.mp H
          obtain ⟨t272, A110, H⟩ := H
          replace H : (if (t264.length : Int) = t272 then (if (t264.length : Int) > 0 then (if 0 < (t264.length : Int) then (if (rd t264 0) < 128 then ((code_Width.f k1 a1).bind fun t274 => (if t274 = 0 then ((gessolaw01_awake.f k1).bind fun t275 => (some t275)) else (if a1 < a0 then ((gessolaw01_awake.f k1).bind fun t276 => (some t276)) else ((code_Width.f k1 a1).bind fun t277 => ((code_Width.f k1 a0).bind fun t278 => (if t277 ≥ t278 then ((gessolaw01_awake.f k1).bind fun t279 => (some t279)) else (none))))))) else (if (rd t264 0) > 191 then ((code_Width.f k1 a1).bind fun t281 => (if t281 = 0 then ((gessolaw01_awake.f k1).bind fun t282 => (some t282)) else (if a1 < a0 then ((gessolaw01_awake.f k1).bind fun t283 => (some t283)) else ((code_Width.f k1 a1).bind fun t284 => ((code_Width.f k1 a0).bind fun t285 => (if t284 ≥ t285 then ((gessolaw01_awake.f k1).bind fun t286 => (some t286)) else (none))))))) else (none))) else (none)) else (none)) else (none)) = some r := H
          have A11 := Aside0.mk A110
          clear A110
          by_cases c12 : (t264.length : Int) = t272
          · rw [if_pos c12] at H
            have c12b0 : ((t264.length : Int) == t272) = true := beq_iff_eq.mpr c12
            have c12b1 : ((t264.length : Int) != t272) = false := bne_eq_false_iff_eq.mpr c12
            clear c12
            by_cases c13 : (t264.length : Int) > 0
            · rw [if_pos c13] at H
              have c13b0 : decide (0 < (t264.length : Int)) = true := decide_eq_true c13
              have c13b1 : decide (0 < t264.length) = true := decide_eq_true (by omega)
              clear c13
              by_cases c14 : 0 < (t264.length : Int)
              · rw [if_pos c14] at H
                have c14b0 : decide (0 < (t264.length : Int)) = true := decide_eq_true c14
                have c14b1 : decide (0 < t264.length) = true := decide_eq_true (by omega)
                clear c14
                by_cases c15 : (rd t264 0) < 128
                · rw [if_pos c15] at H
                  have c15b0 : decide ((rd t264 0) < 128) = true := decide_eq_true c15
                  clear c15
                  replace H := Option.bind_eq_some_iff.mp H
                  obtain ⟨t274, A160, H⟩ := H
                  replace H : (if t274 = 0 then ((gessolaw01_awake.f k1).bind fun t275 => (some t275)) else (if a1 < a0 then ((gessolaw01_awake.f k1).bind fun t276 => (some t276)) else ((code_Width.f k1 a1).bind fun t277 => ((code_Width.f k1 a0).bind fun t278 => (if t277 ≥ t278 then ((gessolaw01_awake.f k1).bind fun t279 => (some t279)) else (none)))))) = some r := H
                  have A16 := Aside0.mk A160
                  clear A160
                  by_cases c17 : t274 = 0
                  · rw [if_pos c17] at H
                    have c17b0 : (t274 == 0) = true := beq_iff_eq.mpr c17
                    have c17b1 : (t274 != 0) = false := bne_eq_false_iff_eq.mpr c17
                    clear c17
                    replace H := Option.bind_eq_some_iff.mp H
                    obtain ⟨t275, A180, H⟩ := H
                    replace H : (some t275) = some r := H
                    have A18 := Aside0.mk A180
                    clear A180
                    obtain rfl := Option.some.inj H
                    obtain ⟨Ao19, co19, eo19⟩ := Kd.R_slice HO_5.out
                    subst eo19
                    go_wp2_with (first | ((with_reducible refine gate_callee (f := 22) rfl ?_); refine goesL_ (some 47) rfl rfl Tryd.func22 (by kernel_rfl) rfl #[.int .u32 a0] rfl (by (try simp only [List.map_toArray, List.map_cons, List.map_nil]); first | done | rfl | (simp only [List.length_drop, List.length_take]; rfl)) ?_; (with_reducible refine (code_Width.calls k1 a0 t272 _ A11.out).mono ?_); rintro e w' ⟨rfl, ⟨nd, rfl⟩⟩; refine ⟨_, rfl, ?_⟩; have p273 : 0 ≤ (0 : Int) := (by omega); have q273 : 0 < (t264.length : Int) := of_decide_eq_true (by first | (with_reducible assumption) | assumption); obtain ⟨ad273, e273, hx273_0⟩ := Kd.at_int (Kd.R_reads' HO_5.out).2.2 0 p273 q273; cases e273; have qi273 : (0 < t264.length) = True := eq_true (by omega); (try rw [show ((0 : Int)).toNat = 0 from rfl] at hx273_0); (try rw [Addr.add_zero'] at hx273_0); replace p273 := eq_true p273; replace q273 := eq_true q273) | (go_at_call 22; (with_reducible refine (code_Width.calls k1 a1 t274 _ A16.out).mono ?_); rintro e w' ⟨rfl, ⟨nd, rfl⟩⟩) | (go_at_call 21; (with_reducible refine (gessolaw01_awake.calls k1  t275 _ ?sideT A18.out).mono ?_); (case sideT => first | exact ⟨HTb_.out.below (by repeat (first | (with_reducible first | exact HB.out | apply below_alloc | apply pw_below_drewN | apply below_drew1) | exact HB.out))⟩ | exact ⟨HTb_.out.drawn (by repeat (first | exact Drawn0.refl _ | apply Drawn0.step))⟩ | exact ⟨HTb_.out.below (Drawn0.below (by repeat (first | exact Drawn0.refl _ | apply Drawn0.step)))⟩); rintro e w20 ⟨rfl, hb⟩; have n0_ := Aside0.mk (Kd.R_below (by (with_reducible repeat (first | apply Kd.R_alloc | apply Kd.R_drewN | apply Kd.R_drew)); exact HO_5.out) hb); have n1_ := Aside0.mk (below_step (by repeat (first | (with_reducible first | exact HB.out | apply below_alloc | apply pw_below_drewN | apply below_drew1) | exact HB.out)) hb); clear HO_5; clear HB; have HO_5 := n0_; have HB := n1_; clear n0_ n1_; (try clear hb); (try clear hb2); (try clear hk); (try clear hi)))
                    go_ret
                    exact ⟨by first | rfl | (simp [errW_none, errW_some] <;> rfl) | (simp [*, errW_none, errW_some] <;> rfl), by repeat (first | (with_reducible first | exact HB.out | apply below_alloc | apply pw_below_drewN | apply below_drew1) | exact HB.out)⟩
                  · rw [if_neg c17] at H
                    have c17b0 : (t274 == 0) = false := beq_eq_false_iff_ne.mpr c17
                    have c17b1 : (t274 != 0) = true := bne_iff_ne.mpr c17
                    by_cases c21 : a1 < a0
                    · rw [if_pos c21] at H
                      have c21b0 : decide (a1 < a0) = true := decide_eq_true c21
                      clear c21
                      replace H := Option.bind_eq_some_iff.mp H
                      obtain ⟨t276, A220, H⟩ := H
                      replace H : (some t276) = some r := H
                      have A22 := Aside0.mk A220
                      clear A220
                      obtain rfl := Option.some.inj H
                      obtain ⟨Ao23, co23, eo23⟩ := Kd.R_slice HO_5.out
                      subst eo23
                      go_wp2_with (first | ((with_reducible refine gate_callee (f := 22) rfl ?_); refine goesL_ (some 47) rfl rfl Tryd.func22 (by kernel_rfl) rfl #[.int .u32 a0] rfl (by (try simp only [List.map_toArray, List.map_cons, List.map_nil]); first | done | rfl | (simp only [List.length_drop, List.length_take]; rfl)) ?_; (with_reducible refine (code_Width.calls k1 a0 t272 _ A11.out).mono ?_); rintro e w' ⟨rfl, ⟨nd, rfl⟩⟩; refine ⟨_, rfl, ?_⟩; have p273 : 0 ≤ (0 : Int) := (by omega); have q273 : 0 < (t264.length : Int) := of_decide_eq_true (by first | (with_reducible assumption) | assumption); obtain ⟨ad273, e273, hx273_0⟩ := Kd.at_int (Kd.R_reads' HO_5.out).2.2 0 p273 q273; cases e273; have qi273 : (0 < t264.length) = True := eq_true (by omega); (try rw [show ((0 : Int)).toNat = 0 from rfl] at hx273_0); (try rw [Addr.add_zero'] at hx273_0); replace p273 := eq_true p273; replace q273 := eq_true q273) | (go_at_call 22; (with_reducible refine (code_Width.calls k1 a1 t274 _ A16.out).mono ?_); rintro e w' ⟨rfl, ⟨nd, rfl⟩⟩) | (go_at_call 21; (with_reducible refine (gessolaw01_awake.calls k1  t276 _ ?sideT A22.out).mono ?_); (case sideT => first | exact ⟨HTb_.out.below (by repeat (first | (with_reducible first | exact HB.out | apply below_alloc | apply pw_below_drewN | apply below_drew1) | exact HB.out))⟩ | exact ⟨HTb_.out.drawn (by repeat (first | exact Drawn0.refl _ | apply Drawn0.step))⟩ | exact ⟨HTb_.out.below (Drawn0.below (by repeat (first | exact Drawn0.refl _ | apply Drawn0.step)))⟩); rintro e w24 ⟨rfl, hb⟩; have n0_ := Aside0.mk (Kd.R_below (by (with_reducible repeat (first | apply Kd.R_alloc | apply Kd.R_drewN | apply Kd.R_drew)); exact HO_5.out) hb); have n1_ := Aside0.mk (below_step (by repeat (first | (with_reducible first | exact HB.out | apply below_alloc | apply pw_below_drewN | apply below_drew1) | exact HB.out)) hb); clear HO_5; clear HB; have HO_5 := n0_; have HB := n1_; clear n0_ n1_; (try clear hb); (try clear hb2); (try clear hk); (try clear hi)))
                      go_ret
                      exact ⟨by first | rfl | (simp [errW_none, errW_some] <;> rfl) | (simp [*, errW_none, errW_some] <;> rfl), by repeat (first | (with_reducible first | exact HB.out | apply below_alloc | apply pw_below_drewN | apply below_drew1) | exact HB.out)⟩
                    · rw [if_neg c21] at H
                      have c21b0 : decide (a1 < a0) = false := decide_eq_false c21
                      clear c21
                      replace H := Option.bind_eq_some_iff.mp H
                      obtain ⟨t277, A250, H⟩ := H
                      replace H : ((code_Width.f k1 a0).bind fun t278 => (if t277 ≥ t278 then ((gessolaw01_awake.f k1).bind fun t279 => (some t279)) else (none))) = some r := H
                      have A25 := Aside0.mk A250
                      clear A250
                      replace H := Option.bind_eq_some_iff.mp H
                      obtain ⟨t278, A260, H⟩ := H
                      replace H : (if t277 ≥ t278 then ((gessolaw01_awake.f k1).bind fun t279 => (some t279)) else (none)) = some r := H
                      have A26 := Aside0.mk A260
                      clear A260
                      by_cases c27 : t277 ≥ t278
                      · rw [if_pos c27] at H
                        have c27b0 : decide (t278 ≤ t277) = true := decide_eq_true c27
                        have c27b9 : decide (t278 ≤ t274) = true := by have e_ : t277 = t274 := Option.some.inj (A25.out.symm.trans A16.out); rw [← e_]; exact c27b0
                        clear c27
                        replace H := Option.bind_eq_some_iff.mp H
                        obtain ⟨t279, A280, H⟩ := H
                        replace H : (some t279) = some r := H
                        have A28 := Aside0.mk A280
                        clear A280
                        obtain rfl := Option.some.inj H
                        obtain ⟨Ao29, co29, eo29⟩ := Kd.R_slice HO_5.out
                        subst eo29
                        go_wp2_with (first | ((with_reducible refine gate_callee (f := 22) rfl ?_); refine goesL_ (some 47) rfl rfl Tryd.func22 (by kernel_rfl) rfl #[.int .u32 a0] rfl (by (try simp only [List.map_toArray, List.map_cons, List.map_nil]); first | done | rfl | (simp only [List.length_drop, List.length_take]; rfl)) ?_; (with_reducible refine (code_Width.calls k1 a0 t272 _ A11.out).mono ?_); rintro e w' ⟨rfl, ⟨nd, rfl⟩⟩; refine ⟨_, rfl, ?_⟩; have p273 : 0 ≤ (0 : Int) := (by omega); have q273 : 0 < (t264.length : Int) := of_decide_eq_true (by first | (with_reducible assumption) | assumption); obtain ⟨ad273, e273, hx273_0⟩ := Kd.at_int (Kd.R_reads' HO_5.out).2.2 0 p273 q273; cases e273; have qi273 : (0 < t264.length) = True := eq_true (by omega); (try rw [show ((0 : Int)).toNat = 0 from rfl] at hx273_0); (try rw [Addr.add_zero'] at hx273_0); replace p273 := eq_true p273; replace q273 := eq_true q273) | (go_at_call 22; (with_reducible refine (code_Width.calls k1 a1 t274 _ A16.out).mono ?_); rintro e w' ⟨rfl, ⟨nd, rfl⟩⟩) | (go_at_call 22; (with_reducible refine (code_Width.calls k1 a1 t277 _ A25.out).mono ?_); rintro e w' ⟨rfl, ⟨nd, rfl⟩⟩) | (go_at_call 22; (with_reducible refine (code_Width.calls k1 a0 t278 _ A26.out).mono ?_); rintro e w' ⟨rfl, ⟨nd, rfl⟩⟩) | (go_at_call 21; (with_reducible refine (gessolaw01_awake.calls k1  t279 _ ?sideT A28.out).mono ?_); (case sideT => first | exact ⟨HTb_.out.below (by repeat (first | (with_reducible first | exact HB.out | apply below_alloc | apply pw_below_drewN | apply below_drew1) | exact HB.out))⟩ | exact ⟨HTb_.out.drawn (by repeat (first | exact Drawn0.refl _ | apply Drawn0.step))⟩ | exact ⟨HTb_.out.below (Drawn0.below (by repeat (first | exact Drawn0.refl _ | apply Drawn0.step)))⟩); rintro e w30 ⟨rfl, hb⟩; have n0_ := Aside0.mk (Kd.R_below (by (with_reducible repeat (first | apply Kd.R_alloc | apply Kd.R_drewN | apply Kd.R_drew)); exact HO_5.out) hb); have n1_ := Aside0.mk (below_step (by repeat (first | (with_reducible first | exact HB.out | apply below_alloc | apply pw_below_drewN | apply below_drew1) | exact HB.out)) hb); clear HO_5; clear HB; have HO_5 := n0_; have HB := n1_; clear n0_ n1_; (try clear hb); (try clear hb2); (try clear hk); (try clear hi)))
                        go_ret
                        exact ⟨by first | rfl | (simp [errW_none, errW_some] <;> rfl) | (simp [*, errW_none, errW_some] <;> rfl), by repeat (first | (with_reducible first | exact HB.out | apply below_alloc | apply pw_below_drewN | apply below_drew1) | exact HB.out)⟩
                      · rw [if_neg c27] at H
                        exact absurd H (by simp)
                · rw [if_neg c15] at H
                  have c15b0 : decide ((rd t264 0) < 128) = false := decide_eq_false c15
                  clear c15
                  by_cases c31 : (rd t264 0) > 191
                  · rw [if_pos c31] at H
                    have c31b0 : decide (191 < (rd t264 0)) = true := decide_eq_true c31
                    clear c31
                    replace H := Option.bind_eq_some_iff.mp H
                    obtain ⟨t281, A320, H⟩ := H
                    replace H : (if t281 = 0 then ((gessolaw01_awake.f k1).bind fun t282 => (some t282)) else (if a1 < a0 then ((gessolaw01_awake.f k1).bind fun t283 => (some t283)) else ((code_Width.f k1 a1).bind fun t284 => ((code_Width.f k1 a0).bind fun t285 => (if t284 ≥ t285 then ((gessolaw01_awake.f k1).bind fun t286 => (some t286)) else (none)))))) = some r := H
                    have A32 := Aside0.mk A320
                    clear A320
                    by_cases c33 : t281 = 0
                    · rw [if_pos c33] at H
                      have c33b0 : (t281 == 0) = true := beq_iff_eq.mpr c33
                      have c33b1 : (t281 != 0) = false := bne_eq_false_iff_eq.mpr c33
                      clear c33
                      replace H := Option.bind_eq_some_iff.mp H
                      obtain ⟨t282, A340, H⟩ := H
                      replace H : (some t282) = some r := H
                      have A34 := Aside0.mk A340
                      clear A340
                      obtain rfl := Option.some.inj H
                      obtain ⟨Ao35, co35, eo35⟩ := Kd.R_slice HO_5.out
                      subst eo35
                      go_wp2_with (first | ((with_reducible refine gate_callee (f := 22) rfl ?_); refine goesL_ (some 47) rfl rfl Tryd.func22 (by kernel_rfl) rfl #[.int .u32 a0] rfl (by (try simp only [List.map_toArray, List.map_cons, List.map_nil]); first | done | rfl | (simp only [List.length_drop, List.length_take]; rfl)) ?_; (with_reducible refine (code_Width.calls k1 a0 t272 _ A11.out).mono ?_); rintro e w' ⟨rfl, ⟨nd, rfl⟩⟩; refine ⟨_, rfl, ?_⟩; have p273 : 0 ≤ (0 : Int) := (by omega); have q273 : 0 < (t264.length : Int) := of_decide_eq_true (by first | (with_reducible assumption) | assumption); obtain ⟨ad273, e273, hx273_0⟩ := Kd.at_int (Kd.R_reads' HO_5.out).2.2 0 p273 q273; cases e273; have qi273 : (0 < t264.length) = True := eq_true (by omega); (try rw [show ((0 : Int)).toNat = 0 from rfl] at hx273_0); (try rw [Addr.add_zero'] at hx273_0); replace p273 := eq_true p273; replace q273 := eq_true q273; have p280 : 0 ≤ (0 : Int) := (by omega); have q280 : 0 < (t264.length : Int) := of_decide_eq_true (by first | (with_reducible assumption) | assumption); obtain ⟨ad280, e280, hx280_0⟩ := Kd.at_int (Kd.R_reads' HO_5.out).2.2 0 p280 q280; obtain rfl : ad273 = ad280 := (by injection e280); have qi280 : (0 < t264.length) = True := eq_true (by omega); (try rw [show ((0 : Int)).toNat = 0 from rfl] at hx280_0); (try rw [Addr.add_zero'] at hx280_0); replace p280 := eq_true p280; replace q280 := eq_true q280) | (go_at_call 22; (with_reducible refine (code_Width.calls k1 a1 t281 _ A32.out).mono ?_); rintro e w' ⟨rfl, ⟨nd, rfl⟩⟩) | (go_at_call 21; (with_reducible refine (gessolaw01_awake.calls k1  t282 _ ?sideT A34.out).mono ?_); (case sideT => first | exact ⟨HTb_.out.below (by repeat (first | (with_reducible first | exact HB.out | apply below_alloc | apply pw_below_drewN | apply below_drew1) | exact HB.out))⟩ | exact ⟨HTb_.out.drawn (by repeat (first | exact Drawn0.refl _ | apply Drawn0.step))⟩ | exact ⟨HTb_.out.below (Drawn0.below (by repeat (first | exact Drawn0.refl _ | apply Drawn0.step)))⟩); rintro e w36 ⟨rfl, hb⟩; have n0_ := Aside0.mk (Kd.R_below (by (with_reducible repeat (first | apply Kd.R_alloc | apply Kd.R_drewN | apply Kd.R_drew)); exact HO_5.out) hb); have n1_ := Aside0.mk (below_step (by repeat (first | (with_reducible first | exact HB.out | apply below_alloc | apply pw_below_drewN | apply below_drew1) | exact HB.out)) hb); clear HO_5; clear HB; have HO_5 := n0_; have HB := n1_; clear n0_ n1_; (try clear hb); (try clear hb2); (try clear hk); (try clear hi)))
                      go_ret
                      exact ⟨by first | rfl | (simp [errW_none, errW_some] <;> rfl) | (simp [*, errW_none, errW_some] <;> rfl), by repeat (first | (with_reducible first | exact HB.out | apply below_alloc | apply pw_below_drewN | apply below_drew1) | exact HB.out)⟩
                    · rw [if_neg c33] at H
                      have c33b0 : (t281 == 0) = false := beq_eq_false_iff_ne.mpr c33
                      have c33b1 : (t281 != 0) = true := bne_iff_ne.mpr c33
                      by_cases c37 : a1 < a0
                      · rw [if_pos c37] at H
                        have c37b0 : decide (a1 < a0) = true := decide_eq_true c37
                        clear c37
                        replace H := Option.bind_eq_some_iff.mp H
                        obtain ⟨t283, A380, H⟩ := H
                        replace H : (some t283) = some r := H
                        have A38 := Aside0.mk A380
                        clear A380
                        obtain rfl := Option.some.inj H
                        obtain ⟨Ao39, co39, eo39⟩ := Kd.R_slice HO_5.out
                        subst eo39
                        go_wp2_with (first | ((with_reducible refine gate_callee (f := 22) rfl ?_); refine goesL_ (some 47) rfl rfl Tryd.func22 (by kernel_rfl) rfl #[.int .u32 a0] rfl (by (try simp only [List.map_toArray, List.map_cons, List.map_nil]); first | done | rfl | (simp only [List.length_drop, List.length_take]; rfl)) ?_; (with_reducible refine (code_Width.calls k1 a0 t272 _ A11.out).mono ?_); rintro e w' ⟨rfl, ⟨nd, rfl⟩⟩; refine ⟨_, rfl, ?_⟩; have p273 : 0 ≤ (0 : Int) := (by omega); have q273 : 0 < (t264.length : Int) := of_decide_eq_true (by first | (with_reducible assumption) | assumption); obtain ⟨ad273, e273, hx273_0⟩ := Kd.at_int (Kd.R_reads' HO_5.out).2.2 0 p273 q273; cases e273; have qi273 : (0 < t264.length) = True := eq_true (by omega); (try rw [show ((0 : Int)).toNat = 0 from rfl] at hx273_0); (try rw [Addr.add_zero'] at hx273_0); replace p273 := eq_true p273; replace q273 := eq_true q273; have p280 : 0 ≤ (0 : Int) := (by omega); have q280 : 0 < (t264.length : Int) := of_decide_eq_true (by first | (with_reducible assumption) | assumption); obtain ⟨ad280, e280, hx280_0⟩ := Kd.at_int (Kd.R_reads' HO_5.out).2.2 0 p280 q280; obtain rfl : ad273 = ad280 := (by injection e280); have qi280 : (0 < t264.length) = True := eq_true (by omega); (try rw [show ((0 : Int)).toNat = 0 from rfl] at hx280_0); (try rw [Addr.add_zero'] at hx280_0); replace p280 := eq_true p280; replace q280 := eq_true q280) | (go_at_call 22; (with_reducible refine (code_Width.calls k1 a1 t281 _ A32.out).mono ?_); rintro e w' ⟨rfl, ⟨nd, rfl⟩⟩) | (go_at_call 21; (with_reducible refine (gessolaw01_awake.calls k1  t283 _ ?sideT A38.out).mono ?_); (case sideT => first | exact ⟨HTb_.out.below (by repeat (first | (with_reducible first | exact HB.out | apply below_alloc | apply pw_below_drewN | apply below_drew1) | exact HB.out))⟩ | exact ⟨HTb_.out.drawn (by repeat (first | exact Drawn0.refl _ | apply Drawn0.step))⟩ | exact ⟨HTb_.out.below (Drawn0.below (by repeat (first | exact Drawn0.refl _ | apply Drawn0.step)))⟩); rintro e w40 ⟨rfl, hb⟩; have n0_ := Aside0.mk (Kd.R_below (by (with_reducible repeat (first | apply Kd.R_alloc | apply Kd.R_drewN | apply Kd.R_drew)); exact HO_5.out) hb); have n1_ := Aside0.mk (below_step (by repeat (first | (with_reducible first | exact HB.out | apply below_alloc | apply pw_below_drewN | apply below_drew1) | exact HB.out)) hb); clear HO_5; clear HB; have HO_5 := n0_; have HB := n1_; clear n0_ n1_; (try clear hb); (try clear hb2); (try clear hk); (try clear hi)))
                        go_ret
                        exact ⟨by first | rfl | (simp [errW_none, errW_some] <;> rfl) | (simp [*, errW_none, errW_some] <;> rfl), by repeat (first | (with_reducible first | exact HB.out | apply below_alloc | apply pw_below_drewN | apply below_drew1) | exact HB.out)⟩
                      · rw [if_neg c37] at H
                        have c37b0 : decide (a1 < a0) = false := decide_eq_false c37
                        clear c37
                        replace H := Option.bind_eq_some_iff.mp H
                        obtain ⟨t284, A410, H⟩ := H
                        replace H : ((code_Width.f k1 a0).bind fun t285 => (if t284 ≥ t285 then ((gessolaw01_awake.f k1).bind fun t286 => (some t286)) else (none))) = some r := H
                        have A41 := Aside0.mk A410
                        clear A410
                        replace H := Option.bind_eq_some_iff.mp H
                        obtain ⟨t285, A420, H⟩ := H
                        replace H : (if t284 ≥ t285 then ((gessolaw01_awake.f k1).bind fun t286 => (some t286)) else (none)) = some r := H
                        have A42 := Aside0.mk A420
                        clear A420
                        by_cases c43 : t284 ≥ t285
                        · rw [if_pos c43] at H
                          have c43b0 : decide (t285 ≤ t284) = true := decide_eq_true c43
                          have c43b9 : decide (t285 ≤ t281) = true := by have e_ : t284 = t281 := Option.some.inj (A41.out.symm.trans A32.out); rw [← e_]; exact c43b0
                          clear c43
                          replace H := Option.bind_eq_some_iff.mp H
                          obtain ⟨t286, A440, H⟩ := H
                          replace H : (some t286) = some r := H
                          have A44 := Aside0.mk A440
                          clear A440
                          obtain rfl := Option.some.inj H
                          obtain ⟨Ao45, co45, eo45⟩ := Kd.R_slice HO_5.out
                          subst eo45
                          go_wp2_with (first | ((with_reducible refine gate_callee (f := 22) rfl ?_); refine goesL_ (some 47) rfl rfl Tryd.func22 (by kernel_rfl) rfl #[.int .u32 a0] rfl (by (try simp only [List.map_toArray, List.map_cons, List.map_nil]); first | done | rfl | (simp only [List.length_drop, List.length_take]; rfl)) ?_; (with_reducible refine (code_Width.calls k1 a0 t272 _ A11.out).mono ?_); rintro e w' ⟨rfl, ⟨nd, rfl⟩⟩; refine ⟨_, rfl, ?_⟩; have p273 : 0 ≤ (0 : Int) := (by omega); have q273 : 0 < (t264.length : Int) := of_decide_eq_true (by first | (with_reducible assumption) | assumption); obtain ⟨ad273, e273, hx273_0⟩ := Kd.at_int (Kd.R_reads' HO_5.out).2.2 0 p273 q273; cases e273; have qi273 : (0 < t264.length) = True := eq_true (by omega); (try rw [show ((0 : Int)).toNat = 0 from rfl] at hx273_0); (try rw [Addr.add_zero'] at hx273_0); replace p273 := eq_true p273; replace q273 := eq_true q273; have p280 : 0 ≤ (0 : Int) := (by omega); have q280 : 0 < (t264.length : Int) := of_decide_eq_true (by first | (with_reducible assumption) | assumption); obtain ⟨ad280, e280, hx280_0⟩ := Kd.at_int (Kd.R_reads' HO_5.out).2.2 0 p280 q280; obtain rfl : ad273 = ad280 := (by injection e280); have qi280 : (0 < t264.length) = True := eq_true (by omega); (try rw [show ((0 : Int)).toNat = 0 from rfl] at hx280_0); (try rw [Addr.add_zero'] at hx280_0); replace p280 := eq_true p280; replace q280 := eq_true q280) | (go_at_call 22; (with_reducible refine (code_Width.calls k1 a1 t281 _ A32.out).mono ?_); rintro e w' ⟨rfl, ⟨nd, rfl⟩⟩) | (go_at_call 22; (with_reducible refine (code_Width.calls k1 a1 t284 _ A41.out).mono ?_); rintro e w' ⟨rfl, ⟨nd, rfl⟩⟩) | (go_at_call 22; (with_reducible refine (code_Width.calls k1 a0 t285 _ A42.out).mono ?_); rintro e w' ⟨rfl, ⟨nd, rfl⟩⟩) | (go_at_call 21; (with_reducible refine (gessolaw01_awake.calls k1  t286 _ ?sideT A44.out).mono ?_); (case sideT => first | exact ⟨HTb_.out.below (by repeat (first | (with_reducible first | exact HB.out | apply below_alloc | apply pw_below_drewN | apply below_drew1) | exact HB.out))⟩ | exact ⟨HTb_.out.drawn (by repeat (first | exact Drawn0.refl _ | apply Drawn0.step))⟩ | exact ⟨HTb_.out.below (Drawn0.below (by repeat (first | exact Drawn0.refl _ | apply Drawn0.step)))⟩); rintro e w46 ⟨rfl, hb⟩; have n0_ := Aside0.mk (Kd.R_below (by (with_reducible repeat (first | apply Kd.R_alloc | apply Kd.R_drewN | apply Kd.R_drew)); exact HO_5.out) hb); have n1_ := Aside0.mk (below_step (by repeat (first | (with_reducible first | exact HB.out | apply below_alloc | apply pw_below_drewN | apply below_drew1) | exact HB.out)) hb); clear HO_5; clear HB; have HO_5 := n0_; have HB := n1_; clear n0_ n1_; (try clear hb); (try clear hb2); (try clear hk); (try clear hi)))
                          go_ret
                          exact ⟨by first | rfl | (simp [errW_none, errW_some] <;> rfl) | (simp [*, errW_none, errW_some] <;> rfl), by repeat (first | (with_reducible first | exact HB.out | apply below_alloc | apply pw_below_drewN | apply below_drew1) | exact HB.out)⟩
                        · rw [if_neg c43] at H
                          exact absurd H (by simp)
                  · rw [if_neg c31] at H
                    exact absurd H (by simp)
              · rw [if_neg c14] at H
                exact absurd H (by simp)
            · rw [if_neg c13] at H
              exact absurd H (by simp)
          · rw [if_neg c12] at H
            exact absurd H (by simp)
  · rw [if_neg c4] at H
    have c4b0 : (t265 == 0) = false := beq_eq_false_iff_ne.mpr c4
    have c4b1 : (t265 != 0) = true := bne_iff_ne.mpr c4
    replace H := Option.bind_eq_some_iff.mp H
    obtain ⟨t268, A470, H⟩ := H
    replace H : (if t268 = 0 then (if (t264.length : Int) = 0 then ((gessolaw01_awake.f k).bind fun t269 => (some t269)) else (none)) else (none)) = some r := H
    have A47 := Aside0.mk A470
    clear A470
    by_cases c48 : t268 = 0
    · rw [if_pos c48] at H
      have c48b0 : (t268 == 0) = true := beq_iff_eq.mpr c48
      have c48b1 : (t268 != 0) = false := bne_eq_false_iff_eq.mpr c48
      clear c48
      by_cases c49 : (t264.length : Int) = 0
      · rw [if_pos c49] at H
        have c49b0 : ((t264.length : Int) == 0) = true := beq_iff_eq.mpr c49
        have c49b1 : ((t264.length : Int) != 0) = false := bne_eq_false_iff_eq.mpr c49
        clear c49
        replace H := Option.bind_eq_some_iff.mp H
        obtain ⟨t269, A500, H⟩ := H
        replace H : (some t269) = some r := H
        have A50 := Aside0.mk A500
        clear A500
        obtain rfl := Option.some.inj H
        go_enter Tryd.func8, Tryd.ntmps8
        go_wp2_with (first | ((with_reducible refine gate_callee (f := 26) rfl ?_); refine goesL_ (some 10) rfl rfl Tryd.func26 (by kernel_rfl) rfl #[.int .u32 a0] rfl (by (try simp only [List.map_toArray, List.map_cons, List.map_nil]); first | done | rfl | (simp only [List.length_drop, List.length_take]; rfl)) ?_; (with_reducible refine (code_Put.calls k a0 t264 t265 _ A3.out).mono ?_); rintro e w51 ⟨v266, rfl, ho0, hb⟩; refine ⟨_, rfl, ?_⟩; have n0_ := Aside0.mk (Kd.R_lower ho0 (below_size (by repeat (first | (with_reducible first | exact HB.out | apply below_alloc | apply pw_below_drewN | apply below_drew1) | exact HB.out)))); have n1_ := Aside0.mk (below_step (by repeat (first | (with_reducible first | exact HB.out | apply below_alloc | apply pw_below_drewN | apply below_drew1) | exact HB.out)) hb); clear HB; have HO267 := n0_; have HB := n1_; clear n0_ n1_; (try clear hb); (try clear hb2); (try clear hk); (try clear hi); (try clear ho0)) | ((with_reducible refine gate_callee (f := 22) rfl ?_); refine goesL_ (some 16) rfl rfl Tryd.func22 (by kernel_rfl) rfl #[.int .u32 a0] rfl (by (try simp only [List.map_toArray, List.map_cons, List.map_nil]); first | done | rfl | (simp only [List.length_drop, List.length_take]; rfl)) ?_; (with_reducible refine (code_Width.calls k a0 t268 _ A47.out).mono ?_); rintro e w' ⟨rfl, ⟨nd, rfl⟩⟩; refine ⟨_, rfl, ?_⟩; obtain ⟨Ao52, co52, eo52⟩ := Kd.R_slice HO267.out; subst eo52) | (go_at_call 21; (with_reducible refine (gessolaw01_awake.calls k  t269 _ ?sideT A50.out).mono ?_); (case sideT => first | exact ⟨HTb_.out.below (by repeat (first | (with_reducible first | exact HB.out | apply below_alloc | apply pw_below_drewN | apply below_drew1) | exact HB.out))⟩ | exact ⟨HTb_.out.drawn (by repeat (first | exact Drawn0.refl _ | apply Drawn0.step))⟩ | exact ⟨HTb_.out.below (Drawn0.below (by repeat (first | exact Drawn0.refl _ | apply Drawn0.step)))⟩); rintro e w53 ⟨rfl, hb⟩; have n0_ := Aside0.mk (Kd.R_below (by (with_reducible repeat (first | apply Kd.R_alloc | apply Kd.R_drewN | apply Kd.R_drew)); exact HO267.out) hb); have n1_ := Aside0.mk (below_step (by repeat (first | (with_reducible first | exact HB.out | apply below_alloc | apply pw_below_drewN | apply below_drew1) | exact HB.out)) hb); clear HO267; clear HB; have HO267 := n0_; have HB := n1_; clear n0_ n1_; (try clear hb); (try clear hb2); (try clear hk); (try clear hi)))
        go_ret
        exact ⟨by first | rfl | (simp [errW_none, errW_some] <;> rfl) | (simp [*, errW_none, errW_some] <;> rfl), by repeat (first | (with_reducible first | exact HB.out | apply below_alloc | apply pw_below_drewN | apply below_drew1) | exact HB.out)⟩
      · rw [if_neg c49] at H
        exact absurd H (by simp)
    · rw [if_neg c48] at H
      exact absurd H (by simp)

/-- THE ONE PURE STATEMENT of gessolaw01_CodeWidths: yours. -/
def gessolaw01_CodeWidths.Pure : Prop := ∀ (a0 : Int) (a1 : Int), (Lit.int .u32 a0).wf = true → (Lit.int .u32 a1).wf = true → ∃ k, gessolaw01_CodeWidths.f k a0 a1 = some true
theorem gessolaw01_CodeWidths.walk (P : gessolaw01_CodeWidths.Pure) (a0 : Int) (a1 : Int) (w : World) (HTb_ : Aside0 (Tabs w)) (w0 : (Lit.int .u32 a0).wf = true) (w1 : (Lit.int .u32 a1).wf = true) :
    Calls Tryd.prog 8 #[.int .u32 a0, .int .u32 a1] w fun e w' => e = .returned (.bool true) ∧ Below w.heap.size w w' := by
  obtain ⟨k, h⟩ := P a0 a1 w0 w1
  refine (gessolaw01_CodeWidths.calls k a0 a1 true w HTb_ h).mono ?_
  rintro e w' ⟨rfl, hd⟩
  exact ⟨rfl, hd⟩

end Go.Proofs.YtjlhehaagaaihaaDoor.P
