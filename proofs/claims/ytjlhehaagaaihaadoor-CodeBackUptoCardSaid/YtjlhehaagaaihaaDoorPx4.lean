/- Functions of the translated program as plain Lean functions, and proofs that their calls come to these. Written by a program of the session. No condition. -/
import Derived.Test.YtjlhehaagaaihaaDoorPx0
import Derived.Test.YtjlhehaagaaihaaDoorPx2
import Derived.Test.YtjlhehaagaaihaaDoorPx3
import Derived.Test.YtjlhehaagaaihaaDoorEe
namespace Go.Proofs.YtjlhehaagaaihaaDoor.P
open Go.RowKit Go.Proofs.YtjlhehaagaaihaaDoorW.PrintWords Go.Proofs.YtjlhehaagaaihaaDoorW.PrintLast Go.Proofs.YtjlhehaagaaihaaDoorW.PrintMore
attribute [local go_sem] max2_int min2_int max_two min_two max_three min_three max_four min_four   -- for this text's walks alone
set_option linter.unusedVariables false
set_option linter.unusedSimpArgs false

/-! ### gessolaw01_CodeBack: function 3 -/
def gessolaw01_CodeBack.j0 : Nat → List Int → Bool → Option (Bool)
  | 0, _, _ => none
  | k + 1, x1, x52 => if x52 = true then (none) else ((code_Codes.f x1).bind fun bt182 => ((code_Bytes.f k bt182.1).bind fun bt186 => (if bt182.2 = 0 then (if bt186.2 = 0 then (if (strOfNums bt186.1).toList = (strOfNums x1).toList then ((gessolaw01_awake.f k).bind fun t190 => (some t190)) else (if bt182.2 = 6 then (if (bt182.1.length : Int) = 0 then ((code_Fault.f k x1).bind fun t191 => (if t191 ≥ 0 then ((gessolaw01_awake.f k).bind fun t192 => (some t192)) else (none))) else (none)) else (none))) else (if bt182.2 = 6 then (if (bt182.1.length : Int) = 0 then ((code_Fault.f k x1).bind fun t193 => (if t193 ≥ 0 then ((gessolaw01_awake.f k).bind fun t194 => (some t194)) else (none))) else (none)) else (none))) else (if bt182.2 = 6 then (if (bt182.1.length : Int) = 0 then ((code_Fault.f k x1).bind fun t195 => (if t195 ≥ 0 then ((gessolaw01_awake.f k).bind fun t196 => (some t196)) else (none))) else (none)) else (none)))))
def gessolaw01_CodeBack.f (k : Nat) (l0 : List Int) (l1 : List Int) : Option (Bool) := (code_Bytes.f k l0).bind fun bt172 => ((code_Codes.f bt172.1).bind fun bt176 => (if bt172.2 = 0 then (if bt176.2 = 0 then ((gessoref01_Same.f k l0 bt176.1).bind fun t180 => (if t180 = true then ((code_Fault.f k bt172.1).bind fun t181 => (if t181 = (-1) then (gessolaw01_CodeBack.j0 k l1 false) else (gessolaw01_CodeBack.j0 k l1 true))) else (gessolaw01_CodeBack.j0 k l1 true))) else (gessolaw01_CodeBack.j0 k l1 true)) else (if bt172.2 = 2 then (gessolaw01_CodeBack.j0 k l1 ((bt172.1.length : Int) != 0)) else (gessolaw01_CodeBack.j0 k l1 true))))
theorem gessolaw01_CodeBack.mono_l : ∀ k, (∀ y0 y1, LeO (gessolaw01_CodeBack.j0 k y0 y1) (gessolaw01_CodeBack.j0 (k + 1) y0 y1))
  | 0 => fun _ _ r h => by simp [gessolaw01_CodeBack.j0] at h
  | k + 1 => by
    have ih0 := gessolaw01_CodeBack.mono_l k
    · intro y0 y1
      unfold gessolaw01_CodeBack.j0
      repeat' first
      | (with_reducible exact ih0 _ _)
      | (with_reducible exact code_Bytes.mono _ _)
      | (with_reducible exact code_Fault.mono _ _)
      | (with_reducible exact gessolaw01_awake.mono _)
      | (with_reducible exact gessoref01_Same.mono _ _ _)
      | (with_reducible exact LeO.refl _)
      | (with_reducible exact LeO.none _)
      | (with_reducible refine LeO.ite ?_ ?_)
      | (with_reducible refine LeO.bind ?_ (fun _ => ?_))
      | exact ih0 _ _
      | exact code_Bytes.mono _ _
      | exact code_Fault.mono _ _
      | exact gessolaw01_awake.mono _
      | exact gessoref01_Same.mono _ _ _
      | exact LeO.none _
      | refine LeO.ite ?_ ?_
      | refine LeO.bind ?_ (fun _ => ?_)
theorem gessolaw01_CodeBack.mono : ∀ a0 a1 k, LeO (gessolaw01_CodeBack.f k a0 a1) (gessolaw01_CodeBack.f (k + 1) a0 a1) := by
  intro a0 a1 k
  have ih0 := gessolaw01_CodeBack.mono_l k
  unfold gessolaw01_CodeBack.f
  repeat' first
      | (with_reducible exact ih0 _ _)
      | (with_reducible exact code_Bytes.mono _ _)
      | (with_reducible exact code_Fault.mono _ _)
      | (with_reducible exact gessolaw01_awake.mono _)
      | (with_reducible exact gessoref01_Same.mono _ _ _)
      | (with_reducible exact LeO.refl _)
      | (with_reducible exact LeO.none _)
      | (with_reducible refine LeO.ite ?_ ?_)
      | (with_reducible refine LeO.bind ?_ (fun _ => ?_))
      | exact ih0 _ _
      | exact code_Bytes.mono _ _
      | exact code_Fault.mono _ _
      | exact gessolaw01_awake.mono _
      | exact gessoref01_Same.mono _ _ _
      | exact LeO.none _
      | refine LeO.ite ?_ ?_
      | refine LeO.bind ?_ (fun _ => ?_)
set_option maxHeartbeats 8000000 in
set_option maxRecDepth 100000 in
theorem gessolaw01_CodeBack.calls (k : Nat) (A0 : Option Addr) (c0 : Nat) (l0 : List Int) (A1 : Option Addr) (c1 : Nat) (l1 : List Int) (r : Bool) (w : World) (HTb_ : Aside0 (Tabs w)) (hr0 : Kd.C (Kd.int .u32) w A0 l0.length l0) (hc0 : l0.length ≤ c0) (hr1 : Kd.C (Kd.int .u8) w A1 l1.length l1) (hc1 : l1.length ≤ c1) (h : gessolaw01_CodeBack.f k l0 l1 = some r) :
    Calls Tryd.prog 3 #[.slice A0 l0.length c0, .slice A1 l1.length c1] w fun e w' => e = .returned (.bool r) ∧ Below w.heap.size w w' := by
  have HR0 := Aside0.mk hr0
  have HC0 := Aside0.mk hc0
  clear hr0 hc0
  have HR1 := Aside0.mk hr1
  have HC1 := Aside0.mk hc1
  clear hr1 hc1
  have HB := Aside0.mk (Below.refl w.heap.size w)
  have H : ((code_Bytes.f k l0).bind fun bt172 => ((code_Codes.f bt172.1).bind fun bt176 => (if bt172.2 = 0 then (if bt176.2 = 0 then ((gessoref01_Same.f k l0 bt176.1).bind fun t180 => (if t180 = true then ((code_Fault.f k bt172.1).bind fun t181 => (if t181 = (-1) then (gessolaw01_CodeBack.j0 k l1 false) else (gessolaw01_CodeBack.j0 k l1 true))) else (gessolaw01_CodeBack.j0 k l1 true))) else (gessolaw01_CodeBack.j0 k l1 true)) else (if bt172.2 = 2 then (gessolaw01_CodeBack.j0 k l1 ((bt172.1.length : Int) != 0)) else (gessolaw01_CodeBack.j0 k l1 true))))) = some r := h
  clear h
  replace H := Option.bind_eq_some_iff.mp H
  obtain ⟨⟨t172, t173⟩, A30, H⟩ := H
  replace H : ((code_Codes.f t172).bind fun bt176 => (if t173 = 0 then (if bt176.2 = 0 then ((gessoref01_Same.f k l0 bt176.1).bind fun t180 => (if t180 = true then ((code_Fault.f k t172).bind fun t181 => (if t181 = (-1) then (gessolaw01_CodeBack.j0 k l1 false) else (gessolaw01_CodeBack.j0 k l1 true))) else (gessolaw01_CodeBack.j0 k l1 true))) else (gessolaw01_CodeBack.j0 k l1 true)) else (if t173 = 2 then (gessolaw01_CodeBack.j0 k l1 ((t172.length : Int) != 0)) else (gessolaw01_CodeBack.j0 k l1 true)))) = some r := H
  have A3 := Aside0.mk A30
  clear A30
  replace H := Option.bind_eq_some_iff.mp H
  obtain ⟨⟨t176, t177⟩, A40, H⟩ := H
  replace H : (if t173 = 0 then (if t177 = 0 then ((gessoref01_Same.f k l0 t176).bind fun t180 => (if t180 = true then ((code_Fault.f k t172).bind fun t181 => (if t181 = (-1) then (gessolaw01_CodeBack.j0 k l1 false) else (gessolaw01_CodeBack.j0 k l1 true))) else (gessolaw01_CodeBack.j0 k l1 true))) else (gessolaw01_CodeBack.j0 k l1 true)) else (if t173 = 2 then (gessolaw01_CodeBack.j0 k l1 ((t172.length : Int) != 0)) else (gessolaw01_CodeBack.j0 k l1 true))) = some r := H
  have A4 := Aside0.mk A40
  clear A40
  have HC5 := Aside0.mk H
  clear H
  go_enter Tryd.func3, Tryd.ntmps3
  go_upto_region 3 with (first | ((with_reducible refine gate_callee (f := 17) rfl ?_); refine goesL_ (some 15) rfl rfl Tryd.func17 (by kernel_rfl) rfl #[.slice A0 l0.length c0] rfl (by (try simp only [List.map_toArray, List.map_cons, List.map_nil]); first | done | rfl | (simp only [List.length_drop, List.length_take]; rfl)) ?_; (with_reducible refine (code_Bytes.calls k _ _ l0 t172 t173 _ ?side1 ?side2 A3.out).mono ?_); (case side1 => repeat (first | exact HR0.out | (with_reducible refine Kd.C_alloc ?_ _) | (with_reducible refine Kd.C_drewN ?_ _) | (with_reducible refine Kd.C_drew ?_))); (case side2 => exact HC0.out); rintro e w6 ⟨v174, rfl, ho0, hb⟩; refine ⟨_, rfl, ?_⟩; have n0_ := Aside0.mk (Kd.R_lower ho0 (below_size (by repeat (first | (with_reducible first | exact HB.out | apply below_alloc | apply pw_below_drewN | apply below_drew1) | exact HB.out)))); have n1_ := Aside0.mk (below_step (by repeat (first | (with_reducible first | exact HB.out | apply below_alloc | apply pw_below_drewN | apply below_drew1) | exact HB.out)) hb); clear HB; have HO175 := n0_; have HB := n1_; clear n0_ n1_; (try clear hb); (try clear hb2); (try clear hk); (try clear hi); (try clear ho0); obtain ⟨Ao7, co7, eo7⟩ := Kd.R_slice HO175.out; subst eo7) | ((with_reducible refine gate_callee (f := 18) rfl ?_); refine goesL_ (some 20) rfl rfl Tryd.func18 (by kernel_rfl) rfl #[.slice Ao7 t172.length co7] rfl (by (try simp only [List.map_toArray, List.map_cons, List.map_nil]); first | done | rfl | (simp only [List.length_drop, List.length_take]; rfl)) ?_; (with_reducible refine (code_Codes.calls _ _ t172 t176 t177 _ ?sideT ?side1 ?side2 A4.out).mono ?_); (case sideT => first | exact ⟨HTb_.out.below (by repeat (first | (with_reducible first | exact HB.out | apply below_alloc | apply pw_below_drewN | apply below_drew1) | exact HB.out))⟩ | exact ⟨HTb_.out.drawn (by repeat (first | exact Drawn0.refl _ | apply Drawn0.step))⟩ | exact ⟨HTb_.out.below (Drawn0.below (by repeat (first | exact Drawn0.refl _ | apply Drawn0.step)))⟩); (case side1 => repeat (first | exact (Kd.R_reads' HO175.out).2.2 | (with_reducible refine Kd.C_alloc ?_ _) | (with_reducible refine Kd.C_drewN ?_ _) | (with_reducible refine Kd.C_drew ?_))); (case side2 => exact (Kd.R_reads' HO175.out).2.1); rintro e w8 ⟨v178, rfl, ho0, hb⟩; refine ⟨_, rfl, ?_⟩; have n0_ := Aside0.mk (Kd.R_below (by (with_reducible repeat (first | apply Kd.R_alloc | apply Kd.R_drewN | apply Kd.R_drew)); exact HO175.out) hb); have n1_ := Aside0.mk (Kd.R_lower ho0 (below_size (by repeat (first | (with_reducible first | exact HB.out | apply below_alloc | apply pw_below_drewN | apply below_drew1) | exact HB.out)))); have n2_ := Aside0.mk (below_step (by repeat (first | (with_reducible first | exact HB.out | apply below_alloc | apply pw_below_drewN | apply below_drew1) | exact HB.out)) hb); clear HO175; clear HB; have HO175 := n0_; have HO179 := n1_; have HB := n2_; clear n0_ n1_ n2_; (try clear hb); (try clear hb2); (try clear hk); (try clear hi); (try clear ho0)))
  (try simp only [Act.put, List.setIfInBounds_toArray, List.set_cons_zero, List.set_cons_succ])
  go_cut [52] (fun v52 wc => ∃ (kq : Nat) (x52_4 : Bool), v52 = .bool x52_4 ∧ Aside0 (gessolaw01_CodeBack.j0 kq l1 x52_4 = some r) ∧ Aside0 (kq ≤ k) ∧ Aside0 (Below w.heap.size w wc))
  case first =>
    have H := HC5.out
    clear HC5
    by_cases c9 : t173 = 0
    · rw [if_pos c9] at H
      have c9b0 : (t173 == 0) = true := beq_iff_eq.mpr c9
      have c9b1 : (t173 != 0) = false := bne_eq_false_iff_eq.mpr c9
      clear c9
      (first | rw [c9b0] | (simp only [i64_w, i32_w]; rw [c9b0]) | skip)
      by_cases c10 : t177 = 0
      · rw [if_pos c10] at H
        have c10b0 : (t177 == 0) = true := beq_iff_eq.mpr c10
        have c10b1 : (t177 != 0) = false := bne_eq_false_iff_eq.mpr c10
        clear c10
        replace H := Option.bind_eq_some_iff.mp H
        obtain ⟨t180, A110, H⟩ := H
        replace H : (if t180 = true then ((code_Fault.f k t172).bind fun t181 => (if t181 = (-1) then (gessolaw01_CodeBack.j0 k l1 false) else (gessolaw01_CodeBack.j0 k l1 true))) else (gessolaw01_CodeBack.j0 k l1 true)) = some r := H
        have A11 := Aside0.mk A110
        clear A110
        by_cases c12 : t180 = true
        · subst c12
          have H1 : ((code_Fault.f k t172).bind fun t181 => (if t181 = (-1) then (gessolaw01_CodeBack.j0 k l1 false) else (gessolaw01_CodeBack.j0 k l1 true))) = some r := by rw [if_pos rfl] at H; exact H
          clear H
          have H := H1
          clear H1
          replace H := Option.bind_eq_some_iff.mp H
          obtain ⟨t181, A130, H⟩ := H
          replace H : (if t181 = (-1) then (gessolaw01_CodeBack.j0 k l1 false) else (gessolaw01_CodeBack.j0 k l1 true)) = some r := H
          have A13 := Aside0.mk A130
          clear A130
          by_cases c14 : t181 = (-1)
          · rw [if_pos c14] at H
            have c14b0 : (t181 == (-1)) = true := beq_iff_eq.mpr c14
            have c14b1 : (t181 != (-1)) = false := bne_eq_false_iff_eq.mpr c14
            clear c14
            have H' := Aside0.mk H
            clear H
            obtain ⟨Ao15, co15, eo15⟩ := Kd.R_slice HO179.out
            subst eo15
            go_wp2_with (first | (go_at_call 19; (with_reducible refine (gessoref01_Same.calls k _ _ l0 _ _ t176 true _ ?side1 ?side2 ?side3 ?side4 A11.out).mono ?_); (case side1 => repeat (first | exact (Kd.C_below HR0.out HB.out) | (with_reducible refine Kd.C_alloc ?_ _) | (with_reducible refine Kd.C_drewN ?_ _) | (with_reducible refine Kd.C_drew ?_))); (case side2 => exact HC0.out); (case side3 => repeat (first | exact (Kd.R_reads' HO179.out).2.2 | (with_reducible refine Kd.C_alloc ?_ _) | (with_reducible refine Kd.C_drewN ?_ _) | (with_reducible refine Kd.C_drew ?_))); (case side4 => exact (Kd.R_reads' HO179.out).2.1); rintro e w' ⟨rfl, ⟨nd, rfl⟩⟩) | (go_at_call 20; (with_reducible refine (code_Fault.calls k _ _ t172 t181 _ ?sideT ?side1 ?side2 A13.out).mono ?_); (case sideT => first | exact ⟨HTb_.out.below (by repeat (first | (with_reducible first | exact HB.out | apply below_alloc | apply pw_below_drewN | apply below_drew1) | exact HB.out))⟩ | exact ⟨HTb_.out.drawn (by repeat (first | exact Drawn0.refl _ | apply Drawn0.step))⟩ | exact ⟨HTb_.out.below (Drawn0.below (by repeat (first | exact Drawn0.refl _ | apply Drawn0.step)))⟩); (case side1 => repeat (first | exact (Kd.R_reads' HO175.out).2.2 | (with_reducible refine Kd.C_alloc ?_ _) | (with_reducible refine Kd.C_drewN ?_ _) | (with_reducible refine Kd.C_drew ?_))); (case side2 => exact (Kd.R_reads' HO175.out).2.1); rintro e w16 ⟨rfl, hb⟩; have n0_ := Aside0.mk (Kd.R_below (by (with_reducible repeat (first | apply Kd.R_alloc | apply Kd.R_drewN | apply Kd.R_drew)); exact HO175.out) hb); have n1_ := Aside0.mk (Kd.R_below (by (with_reducible repeat (first | apply Kd.R_alloc | apply Kd.R_drewN | apply Kd.R_drew)); exact HO179.out) hb); have n2_ := Aside0.mk (below_step (by repeat (first | (with_reducible first | exact HB.out | apply below_alloc | apply pw_below_drewN | apply below_drew1) | exact HB.out)) hb); clear HO175; clear HO179; clear HB; have HO175 := n0_; have HO179 := n1_; have HB := n2_; clear n0_ n1_ n2_; (try clear hb); (try clear hb2); (try clear hk); (try clear hi)))
            go_meet
            case rel => exact ⟨_, (false), (by first | rfl | (simp; done) | (simp [*]; done)), H', ⟨by first | omega | exact Nat.le_refl _⟩, ⟨by repeat (first | (with_reducible first | exact HB.out | apply below_alloc | apply pw_below_drewN | apply below_drew1) | exact HB.out)⟩⟩
          · rw [if_neg c14] at H
            have c14b0 : (t181 == (-1)) = false := beq_eq_false_iff_ne.mpr c14
            have c14b1 : (t181 != (-1)) = true := bne_iff_ne.mpr c14
            have H' := Aside0.mk H
            clear H
            obtain ⟨Ao17, co17, eo17⟩ := Kd.R_slice HO179.out
            subst eo17
            go_wp2_with (first | (go_at_call 19; (with_reducible refine (gessoref01_Same.calls k _ _ l0 _ _ t176 true _ ?side1 ?side2 ?side3 ?side4 A11.out).mono ?_); (case side1 => repeat (first | exact (Kd.C_below HR0.out HB.out) | (with_reducible refine Kd.C_alloc ?_ _) | (with_reducible refine Kd.C_drewN ?_ _) | (with_reducible refine Kd.C_drew ?_))); (case side2 => exact HC0.out); (case side3 => repeat (first | exact (Kd.R_reads' HO179.out).2.2 | (with_reducible refine Kd.C_alloc ?_ _) | (with_reducible refine Kd.C_drewN ?_ _) | (with_reducible refine Kd.C_drew ?_))); (case side4 => exact (Kd.R_reads' HO179.out).2.1); rintro e w' ⟨rfl, ⟨nd, rfl⟩⟩) | (go_at_call 20; (with_reducible refine (code_Fault.calls k _ _ t172 t181 _ ?sideT ?side1 ?side2 A13.out).mono ?_); (case sideT => first | exact ⟨HTb_.out.below (by repeat (first | (with_reducible first | exact HB.out | apply below_alloc | apply pw_below_drewN | apply below_drew1) | exact HB.out))⟩ | exact ⟨HTb_.out.drawn (by repeat (first | exact Drawn0.refl _ | apply Drawn0.step))⟩ | exact ⟨HTb_.out.below (Drawn0.below (by repeat (first | exact Drawn0.refl _ | apply Drawn0.step)))⟩); (case side1 => repeat (first | exact (Kd.R_reads' HO175.out).2.2 | (with_reducible refine Kd.C_alloc ?_ _) | (with_reducible refine Kd.C_drewN ?_ _) | (with_reducible refine Kd.C_drew ?_))); (case side2 => exact (Kd.R_reads' HO175.out).2.1); rintro e w18 ⟨rfl, hb⟩; have n0_ := Aside0.mk (Kd.R_below (by (with_reducible repeat (first | apply Kd.R_alloc | apply Kd.R_drewN | apply Kd.R_drew)); exact HO175.out) hb); have n1_ := Aside0.mk (Kd.R_below (by (with_reducible repeat (first | apply Kd.R_alloc | apply Kd.R_drewN | apply Kd.R_drew)); exact HO179.out) hb); have n2_ := Aside0.mk (below_step (by repeat (first | (with_reducible first | exact HB.out | apply below_alloc | apply pw_below_drewN | apply below_drew1) | exact HB.out)) hb); clear HO175; clear HO179; clear HB; have HO175 := n0_; have HO179 := n1_; have HB := n2_; clear n0_ n1_ n2_; (try clear hb); (try clear hb2); (try clear hk); (try clear hi)))
            go_meet
            case rel => exact ⟨_, (true), (by first | rfl | (simp; done) | (simp [*]; done)), H', ⟨by first | omega | exact Nat.le_refl _⟩, ⟨by repeat (first | (with_reducible first | exact HB.out | apply below_alloc | apply pw_below_drewN | apply below_drew1) | exact HB.out)⟩⟩
        · replace c12 := Bool.eq_false_iff.mpr c12
          subst c12
          have H1 : (gessolaw01_CodeBack.j0 k l1 true) = some r := by rw [if_neg (show ¬ (false = true) by decide)] at H; exact H
          clear H
          have H := H1
          clear H1
          have H' := Aside0.mk H
          clear H
          obtain ⟨Ao19, co19, eo19⟩ := Kd.R_slice HO179.out
          subst eo19
          go_wp2_with (first | (go_at_call 19; (with_reducible refine (gessoref01_Same.calls k _ _ l0 _ _ t176 false _ ?side1 ?side2 ?side3 ?side4 A11.out).mono ?_); (case side1 => repeat (first | exact (Kd.C_below HR0.out HB.out) | (with_reducible refine Kd.C_alloc ?_ _) | (with_reducible refine Kd.C_drewN ?_ _) | (with_reducible refine Kd.C_drew ?_))); (case side2 => exact HC0.out); (case side3 => repeat (first | exact (Kd.R_reads' HO179.out).2.2 | (with_reducible refine Kd.C_alloc ?_ _) | (with_reducible refine Kd.C_drewN ?_ _) | (with_reducible refine Kd.C_drew ?_))); (case side4 => exact (Kd.R_reads' HO179.out).2.1); rintro e w' ⟨rfl, ⟨nd, rfl⟩⟩))
          go_meet
          case rel => exact ⟨_, (true), (by first | rfl | (simp; done) | (simp [*]; done)), H', ⟨by first | omega | exact Nat.le_refl _⟩, ⟨by repeat (first | (with_reducible first | exact HB.out | apply below_alloc | apply pw_below_drewN | apply below_drew1) | exact HB.out)⟩⟩
      · rw [if_neg c10] at H
        have c10b0 : (t177 == 0) = false := beq_eq_false_iff_ne.mpr c10
        have c10b1 : (t177 != 0) = true := bne_iff_ne.mpr c10
        have H' := Aside0.mk H
        clear H
        go_wp2
        go_meet
        case rel => exact ⟨_, (true), (by first | rfl | (simp; done) | (simp [*]; done)), H', ⟨by first | omega | exact Nat.le_refl _⟩, ⟨by repeat (first | (with_reducible first | exact HB.out | apply below_alloc | apply pw_below_drewN | apply below_drew1) | exact HB.out)⟩⟩
    · rw [if_neg c9] at H
      have c9b0 : (t173 == 0) = false := beq_eq_false_iff_ne.mpr c9
      have c9b1 : (t173 != 0) = true := bne_iff_ne.mpr c9
      (first | rw [c9b0] | (simp only [i64_w, i32_w]; rw [c9b0]) | skip)
      by_cases c20 : t173 = 2
      · rw [if_pos c20] at H
        have c20b0 : (t173 == 2) = true := beq_iff_eq.mpr c20
        have c20b1 : (t173 != 2) = false := bne_eq_false_iff_eq.mpr c20
        clear c20
        have H' := Aside0.mk H
        clear H
        go_wp2
        go_meet
        case rel => exact ⟨_, (((t172.length : Int) != 0)), (by first | rfl | (simp; done) | (simp [*]; done)), H', ⟨by first | omega | exact Nat.le_refl _⟩, ⟨by repeat (first | (with_reducible first | exact HB.out | apply below_alloc | apply pw_below_drewN | apply below_drew1) | exact HB.out)⟩⟩
      · rw [if_neg c20] at H
        have c20b0 : (t173 == 2) = false := beq_eq_false_iff_ne.mpr c20
        have c20b1 : (t173 != 2) = true := bne_iff_ne.mpr c20
        have H' := Aside0.mk H
        clear H
        go_wp2
        go_meet
        case rel => exact ⟨_, (true), (by first | rfl | (simp; done) | (simp [*]; done)), H', ⟨by first | omega | exact Nat.le_refl _⟩, ⟨by repeat (first | (with_reducible first | exact HB.out | apply below_alloc | apply pw_below_drewN | apply below_drew1) | exact HB.out)⟩⟩
  case rest =>
    clear HC5
    try clear c1
    try clear c2
    try clear p2
    try clear c3
    try clear c9
    try clear c9b0
    try clear c9b1
    try clear c10
    try clear c10b0
    try clear c10b1
    try clear c12
    try clear c14
    try clear c14b0
    try clear c14b1
    try clear c17
    try clear c18
    try clear c20
    try clear c20b0
    try clear c20b1
    obtain ⟨kq, x52_4, rfl, HA, HJ4, HB⟩ := hcut
    cases kq with
    | zero => exact absurd HA.out (by simp [gessolaw01_CodeBack.j0])
    | succ kj4 =>
      have H := HA.out
      clear HA
      simp only [gessolaw01_CodeBack.j0] at H
      by_cases c21 : x52_4 = true
      · subst c21
        have H1 : (none) = some r := by rw [if_pos rfl] at H; exact H
        clear H
        have H := H1
        clear H1
        exact absurd H (by simp)
      · replace c21 := Bool.eq_false_iff.mpr c21
        subst c21
        have H1 : ((code_Codes.f l1).bind fun bt182 => ((code_Bytes.f kj4 bt182.1).bind fun bt186 => (if bt182.2 = 0 then (if bt186.2 = 0 then (if (strOfNums bt186.1).toList = (strOfNums l1).toList then ((gessolaw01_awake.f kj4).bind fun t190 => (some t190)) else (if bt182.2 = 6 then (if (bt182.1.length : Int) = 0 then ((code_Fault.f kj4 l1).bind fun t191 => (if t191 ≥ 0 then ((gessolaw01_awake.f kj4).bind fun t192 => (some t192)) else (none))) else (none)) else (none))) else (if bt182.2 = 6 then (if (bt182.1.length : Int) = 0 then ((code_Fault.f kj4 l1).bind fun t193 => (if t193 ≥ 0 then ((gessolaw01_awake.f kj4).bind fun t194 => (some t194)) else (none))) else (none)) else (none))) else (if bt182.2 = 6 then (if (bt182.1.length : Int) = 0 then ((code_Fault.f kj4 l1).bind fun t195 => (if t195 ≥ 0 then ((gessolaw01_awake.f kj4).bind fun t196 => (some t196)) else (none))) else (none)) else (none))))) = some r := by rw [if_neg (show ¬ (false = true) by decide)] at H; exact H
        clear H
        have H := H1
        clear H1
        replace H := Option.bind_eq_some_iff.mp H
        obtain ⟨⟨t182, t183⟩, A220, H⟩ := H
        replace H : ((code_Bytes.f kj4 t182).bind fun bt186 => (if t183 = 0 then (if bt186.2 = 0 then (if (strOfNums bt186.1).toList = (strOfNums l1).toList then ((gessolaw01_awake.f kj4).bind fun t190 => (some t190)) else (if t183 = 6 then (if (t182.length : Int) = 0 then ((code_Fault.f kj4 l1).bind fun t191 => (if t191 ≥ 0 then ((gessolaw01_awake.f kj4).bind fun t192 => (some t192)) else (none))) else (none)) else (none))) else (if t183 = 6 then (if (t182.length : Int) = 0 then ((code_Fault.f kj4 l1).bind fun t193 => (if t193 ≥ 0 then ((gessolaw01_awake.f kj4).bind fun t194 => (some t194)) else (none))) else (none)) else (none))) else (if t183 = 6 then (if (t182.length : Int) = 0 then ((code_Fault.f kj4 l1).bind fun t195 => (if t195 ≥ 0 then ((gessolaw01_awake.f kj4).bind fun t196 => (some t196)) else (none))) else (none)) else (none)))) = some r := H
        have A22 := Aside0.mk A220
        clear A220
        replace H := Option.bind_eq_some_iff.mp H
        obtain ⟨⟨t186, t187⟩, A230, H⟩ := H
        replace H : (if t183 = 0 then (if t187 = 0 then (if (strOfNums t186).toList = (strOfNums l1).toList then ((gessolaw01_awake.f kj4).bind fun t190 => (some t190)) else (if t183 = 6 then (if (t182.length : Int) = 0 then ((code_Fault.f kj4 l1).bind fun t191 => (if t191 ≥ 0 then ((gessolaw01_awake.f kj4).bind fun t192 => (some t192)) else (none))) else (none)) else (none))) else (if t183 = 6 then (if (t182.length : Int) = 0 then ((code_Fault.f kj4 l1).bind fun t193 => (if t193 ≥ 0 then ((gessolaw01_awake.f kj4).bind fun t194 => (some t194)) else (none))) else (none)) else (none))) else (if t183 = 6 then (if (t182.length : Int) = 0 then ((code_Fault.f kj4 l1).bind fun t195 => (if t195 ≥ 0 then ((gessolaw01_awake.f kj4).bind fun t196 => (some t196)) else (none))) else (none)) else (none))) = some r := H
        have A23 := Aside0.mk A230
        clear A230
        by_cases c24 : t183 = 0
        · rw [if_pos c24] at H
          have c24b0 : (t183 == 0) = true := beq_iff_eq.mpr c24
          have c24b1 : (t183 != 0) = false := bne_eq_false_iff_eq.mpr c24
          clear c24
          by_cases c25 : t187 = 0
          · rw [if_pos c25] at H
            have c25b0 : (t187 == 0) = true := beq_iff_eq.mpr c25
            have c25b1 : (t187 != 0) = false := bne_eq_false_iff_eq.mpr c25
            clear c25
            by_cases c26 : (strOfNums t186).toList = (strOfNums l1).toList
            · rw [if_pos c26] at H
              have c26b0 : ((strOfNums t186).toList == (strOfNums l1).toList) = true := beq_iff_eq.mpr c26
              have c26b1 : ((strOfNums t186).toList != (strOfNums l1).toList) = false := bne_eq_false_iff_eq.mpr c26
              clear c26
              replace H := Option.bind_eq_some_iff.mp H
              obtain ⟨t190, A270, H⟩ := H
              replace H : (some t190) = some r := H
              have A27 := Aside0.mk A270
              clear A270
              obtain rfl := Option.some.inj H
              go_wp2_with (first | ((with_reducible refine gate_callee (f := 18) rfl ?_); refine goesL_ (some 55) rfl rfl Tryd.func18 (by kernel_rfl) rfl #[.slice A1 l1.length c1] rfl (by (try simp only [List.map_toArray, List.map_cons, List.map_nil]); first | done | rfl | (simp only [List.length_drop, List.length_take]; rfl)) ?_; (with_reducible refine (code_Codes.calls _ _ l1 t182 t183 _ ?sideT ?side1 ?side2 A22.out).mono ?_); (case sideT => first | exact ⟨HTb_.out.below (by repeat (first | (with_reducible first | exact HB.out | apply below_alloc | apply pw_below_drewN | apply below_drew1) | exact HB.out))⟩ | exact ⟨HTb_.out.drawn (by repeat (first | exact Drawn0.refl _ | apply Drawn0.step))⟩ | exact ⟨HTb_.out.below (Drawn0.below (by repeat (first | exact Drawn0.refl _ | apply Drawn0.step)))⟩); (case side1 => repeat (first | exact (Kd.C_below HR1.out HB.out) | (with_reducible refine Kd.C_alloc ?_ _) | (with_reducible refine Kd.C_drewN ?_ _) | (with_reducible refine Kd.C_drew ?_))); (case side2 => exact HC1.out); rintro e w28 ⟨v184, rfl, ho0, hb⟩; refine ⟨_, rfl, ?_⟩; have n0_ := Aside0.mk (Kd.R_lower ho0 (below_size (by repeat (first | (with_reducible first | exact HB.out | apply below_alloc | apply pw_below_drewN | apply below_drew1) | exact HB.out)))); have n1_ := Aside0.mk (below_step (by repeat (first | (with_reducible first | exact HB.out | apply below_alloc | apply pw_below_drewN | apply below_drew1) | exact HB.out)) hb); clear HB; have HO185 := n0_; have HB := n1_; clear n0_ n1_; (try clear hb); (try clear hb2); (try clear hk); (try clear hi); (try clear ho0); obtain ⟨Ao29, co29, eo29⟩ := Kd.R_slice HO185.out; subst eo29) | ((with_reducible refine gate_callee (f := 17) rfl ?_); refine goesL_ (some 60) rfl rfl Tryd.func17 (by kernel_rfl) rfl #[.slice Ao29 t182.length co29] rfl (by (try simp only [List.map_toArray, List.map_cons, List.map_nil]); first | done | rfl | (simp only [List.length_drop, List.length_take]; rfl)) ?_; (with_reducible refine (code_Bytes.calls kj4 _ _ t182 t186 t187 _ ?side1 ?side2 A23.out).mono ?_); (case side1 => repeat (first | exact (Kd.R_reads' HO185.out).2.2 | (with_reducible refine Kd.C_alloc ?_ _) | (with_reducible refine Kd.C_drewN ?_ _) | (with_reducible refine Kd.C_drew ?_))); (case side2 => exact (Kd.R_reads' HO185.out).2.1); rintro e w30 ⟨v188, rfl, ho0, hb⟩; refine ⟨_, rfl, ?_⟩; have n0_ := Aside0.mk (Kd.R_below (by (with_reducible repeat (first | apply Kd.R_alloc | apply Kd.R_drewN | apply Kd.R_drew)); exact HO185.out) hb); have n1_ := Aside0.mk (Kd.R_lower ho0 (below_size (by repeat (first | (with_reducible first | exact HB.out | apply below_alloc | apply pw_below_drewN | apply below_drew1) | exact HB.out)))); have n2_ := Aside0.mk (below_step (by repeat (first | (with_reducible first | exact HB.out | apply below_alloc | apply pw_below_drewN | apply below_drew1) | exact HB.out)) hb); clear HO185; clear HB; have HO185 := n0_; have HO189 := n1_; have HB := n2_; clear n0_ n1_ n2_; (try clear hb); (try clear hb2); (try clear hk); (try clear hi); (try clear ho0); have hcv31 := own_string (P := Tryd.prog) Tryd.underlying23 Tryd.underlying5 Tryd.underlying9 (Kd.own_of_R HO189.out); have hcv32 := Kd.C_string (P := Tryd.prog) (A := A1) (c := c1) Tryd.underlying23 Tryd.underlying5 Tryd.underlying9 (Kd.C_below HR1.out HB.out)) | (go_at_call 21; (with_reducible refine (gessolaw01_awake.calls kj4  t190 _ ?sideT A27.out).mono ?_); (case sideT => first | exact ⟨HTb_.out.below (by repeat (first | (with_reducible first | exact HB.out | apply below_alloc | apply pw_below_drewN | apply below_drew1) | exact HB.out))⟩ | exact ⟨HTb_.out.drawn (by repeat (first | exact Drawn0.refl _ | apply Drawn0.step))⟩ | exact ⟨HTb_.out.below (Drawn0.below (by repeat (first | exact Drawn0.refl _ | apply Drawn0.step)))⟩); rintro e w33 ⟨rfl, hb⟩; have n0_ := Aside0.mk (Kd.R_below (by (with_reducible repeat (first | apply Kd.R_alloc | apply Kd.R_drewN | apply Kd.R_drew)); exact HO185.out) hb); have n1_ := Aside0.mk (Kd.R_below (by (with_reducible repeat (first | apply Kd.R_alloc | apply Kd.R_drewN | apply Kd.R_drew)); exact HO189.out) hb); have n2_ := Aside0.mk (below_step (by repeat (first | (with_reducible first | exact HB.out | apply below_alloc | apply pw_below_drewN | apply below_drew1) | exact HB.out)) hb); clear HO185; clear HO189; clear HB; have HO185 := n0_; have HO189 := n1_; have HB := n2_; clear n0_ n1_ n2_; (try clear hb); (try clear hb2); (try clear hk); (try clear hi)))
              go_ret
              exact ⟨by first | rfl | (simp [errW_none, errW_some] <;> rfl) | (simp [*, errW_none, errW_some] <;> rfl), by repeat (first | (with_reducible first | exact HB.out | apply below_alloc | apply pw_below_drewN | apply below_drew1) | exact HB.out)⟩
            · rw [if_neg c26] at H
              have c26b0 : ((strOfNums t186).toList == (strOfNums l1).toList) = false := beq_eq_false_iff_ne.mpr c26
              have c26b1 : ((strOfNums t186).toList != (strOfNums l1).toList) = true := bne_iff_ne.mpr c26
              by_cases c34 : t183 = 6
              · rw [if_pos c34] at H
                have c34b0 : (t183 == 6) = true := beq_iff_eq.mpr c34
                have c34b1 : (t183 != 6) = false := bne_eq_false_iff_eq.mpr c34
                clear c34
                by_cases c35 : (t182.length : Int) = 0
                · rw [if_pos c35] at H
                  have c35b0 : ((t182.length : Int) == 0) = true := beq_iff_eq.mpr c35
                  have c35b1 : ((t182.length : Int) != 0) = false := bne_eq_false_iff_eq.mpr c35
                  clear c35
                  replace H := Option.bind_eq_some_iff.mp H
                  obtain ⟨t191, A360, H⟩ := H
                  replace H : (if t191 ≥ 0 then ((gessolaw01_awake.f kj4).bind fun t192 => (some t192)) else (none)) = some r := H
                  have A36 := Aside0.mk A360
                  clear A360
                  by_cases c37 : t191 ≥ 0
                  · rw [if_pos c37] at H
                    have c37b0 : decide (0 ≤ t191) = true := decide_eq_true c37
                    clear c37
                    replace H := Option.bind_eq_some_iff.mp H
                    obtain ⟨t192, A380, H⟩ := H
                    replace H : (some t192) = some r := H
                    have A38 := Aside0.mk A380
                    clear A380
                    obtain rfl := Option.some.inj H
                    go_wp2_with (first | ((with_reducible refine gate_callee (f := 18) rfl ?_); refine goesL_ (some 55) rfl rfl Tryd.func18 (by kernel_rfl) rfl #[.slice A1 l1.length c1] rfl (by (try simp only [List.map_toArray, List.map_cons, List.map_nil]); first | done | rfl | (simp only [List.length_drop, List.length_take]; rfl)) ?_; (with_reducible refine (code_Codes.calls _ _ l1 t182 t183 _ ?sideT ?side1 ?side2 A22.out).mono ?_); (case sideT => first | exact ⟨HTb_.out.below (by repeat (first | (with_reducible first | exact HB.out | apply below_alloc | apply pw_below_drewN | apply below_drew1) | exact HB.out))⟩ | exact ⟨HTb_.out.drawn (by repeat (first | exact Drawn0.refl _ | apply Drawn0.step))⟩ | exact ⟨HTb_.out.below (Drawn0.below (by repeat (first | exact Drawn0.refl _ | apply Drawn0.step)))⟩); (case side1 => repeat (first | exact (Kd.C_below HR1.out HB.out) | (with_reducible refine Kd.C_alloc ?_ _) | (with_reducible refine Kd.C_drewN ?_ _) | (with_reducible refine Kd.C_drew ?_))); (case side2 => exact HC1.out); rintro e w39 ⟨v184, rfl, ho0, hb⟩; refine ⟨_, rfl, ?_⟩; have n0_ := Aside0.mk (Kd.R_lower ho0 (below_size (by repeat (first | (with_reducible first | exact HB.out | apply below_alloc | apply pw_below_drewN | apply below_drew1) | exact HB.out)))); have n1_ := Aside0.mk (below_step (by repeat (first | (with_reducible first | exact HB.out | apply below_alloc | apply pw_below_drewN | apply below_drew1) | exact HB.out)) hb); clear HB; have HO185 := n0_; have HB := n1_; clear n0_ n1_; (try clear hb); (try clear hb2); (try clear hk); (try clear hi); (try clear ho0); obtain ⟨Ao40, co40, eo40⟩ := Kd.R_slice HO185.out; subst eo40) | ((with_reducible refine gate_callee (f := 17) rfl ?_); refine goesL_ (some 60) rfl rfl Tryd.func17 (by kernel_rfl) rfl #[.slice Ao40 t182.length co40] rfl (by (try simp only [List.map_toArray, List.map_cons, List.map_nil]); first | done | rfl | (simp only [List.length_drop, List.length_take]; rfl)) ?_; (with_reducible refine (code_Bytes.calls kj4 _ _ t182 t186 t187 _ ?side1 ?side2 A23.out).mono ?_); (case side1 => repeat (first | exact (Kd.R_reads' HO185.out).2.2 | (with_reducible refine Kd.C_alloc ?_ _) | (with_reducible refine Kd.C_drewN ?_ _) | (with_reducible refine Kd.C_drew ?_))); (case side2 => exact (Kd.R_reads' HO185.out).2.1); rintro e w41 ⟨v188, rfl, ho0, hb⟩; refine ⟨_, rfl, ?_⟩; have n0_ := Aside0.mk (Kd.R_below (by (with_reducible repeat (first | apply Kd.R_alloc | apply Kd.R_drewN | apply Kd.R_drew)); exact HO185.out) hb); have n1_ := Aside0.mk (Kd.R_lower ho0 (below_size (by repeat (first | (with_reducible first | exact HB.out | apply below_alloc | apply pw_below_drewN | apply below_drew1) | exact HB.out)))); have n2_ := Aside0.mk (below_step (by repeat (first | (with_reducible first | exact HB.out | apply below_alloc | apply pw_below_drewN | apply below_drew1) | exact HB.out)) hb); clear HO185; clear HB; have HO185 := n0_; have HO189 := n1_; have HB := n2_; clear n0_ n1_ n2_; (try clear hb); (try clear hb2); (try clear hk); (try clear hi); (try clear ho0); have hcv42 := own_string (P := Tryd.prog) Tryd.underlying23 Tryd.underlying5 Tryd.underlying9 (Kd.own_of_R HO189.out); have hcv43 := Kd.C_string (P := Tryd.prog) (A := A1) (c := c1) Tryd.underlying23 Tryd.underlying5 Tryd.underlying9 (Kd.C_below HR1.out HB.out)) | (go_at_call 20; (with_reducible refine (code_Fault.calls kj4 _ _ l1 t191 _ ?sideT ?side1 ?side2 A36.out).mono ?_); (case sideT => first | exact ⟨HTb_.out.below (by repeat (first | (with_reducible first | exact HB.out | apply below_alloc | apply pw_below_drewN | apply below_drew1) | exact HB.out))⟩ | exact ⟨HTb_.out.drawn (by repeat (first | exact Drawn0.refl _ | apply Drawn0.step))⟩ | exact ⟨HTb_.out.below (Drawn0.below (by repeat (first | exact Drawn0.refl _ | apply Drawn0.step)))⟩); (case side1 => repeat (first | exact (Kd.C_below HR1.out HB.out) | (with_reducible refine Kd.C_alloc ?_ _) | (with_reducible refine Kd.C_drewN ?_ _) | (with_reducible refine Kd.C_drew ?_))); (case side2 => exact HC1.out); rintro e w44 ⟨rfl, hb⟩; have n0_ := Aside0.mk (Kd.R_below (by (with_reducible repeat (first | apply Kd.R_alloc | apply Kd.R_drewN | apply Kd.R_drew)); exact HO185.out) hb); have n1_ := Aside0.mk (Kd.R_below (by (with_reducible repeat (first | apply Kd.R_alloc | apply Kd.R_drewN | apply Kd.R_drew)); exact HO189.out) hb); have n2_ := Aside0.mk (below_step (by repeat (first | (with_reducible first | exact HB.out | apply below_alloc | apply pw_below_drewN | apply below_drew1) | exact HB.out)) hb); clear HO185; clear HO189; clear HB; have HO185 := n0_; have HO189 := n1_; have HB := n2_; clear n0_ n1_ n2_; (try clear hb); (try clear hb2); (try clear hk); (try clear hi)) | (go_at_call 21; (with_reducible refine (gessolaw01_awake.calls kj4  t192 _ ?sideT A38.out).mono ?_); (case sideT => first | exact ⟨HTb_.out.below (by repeat (first | (with_reducible first | exact HB.out | apply below_alloc | apply pw_below_drewN | apply below_drew1) | exact HB.out))⟩ | exact ⟨HTb_.out.drawn (by repeat (first | exact Drawn0.refl _ | apply Drawn0.step))⟩ | exact ⟨HTb_.out.below (Drawn0.below (by repeat (first | exact Drawn0.refl _ | apply Drawn0.step)))⟩); rintro e w45 ⟨rfl, hb⟩; have n0_ := Aside0.mk (Kd.R_below (by (with_reducible repeat (first | apply Kd.R_alloc | apply Kd.R_drewN | apply Kd.R_drew)); exact HO185.out) hb); have n1_ := Aside0.mk (Kd.R_below (by (with_reducible repeat (first | apply Kd.R_alloc | apply Kd.R_drewN | apply Kd.R_drew)); exact HO189.out) hb); have n2_ := Aside0.mk (below_step (by repeat (first | (with_reducible first | exact HB.out | apply below_alloc | apply pw_below_drewN | apply below_drew1) | exact HB.out)) hb); clear HO185; clear HO189; clear HB; have HO185 := n0_; have HO189 := n1_; have HB := n2_; clear n0_ n1_ n2_; (try clear hb); (try clear hb2); (try clear hk); (try clear hi)))
                    go_ret
                    exact ⟨by first | rfl | (simp [errW_none, errW_some] <;> rfl) | (simp [*, errW_none, errW_some] <;> rfl), by repeat (first | (with_reducible first | exact HB.out | apply below_alloc | apply pw_below_drewN | apply below_drew1) | exact HB.out)⟩
                  · rw [if_neg c37] at H
                    exact absurd H (by simp)
                · rw [if_neg c35] at H
                  exact absurd H (by simp)
              · rw [if_neg c34] at H
                exact absurd H (by simp)
          · rw [if_neg c25] at H
            have c25b0 : (t187 == 0) = false := beq_eq_false_iff_ne.mpr c25
            have c25b1 : (t187 != 0) = true := bne_iff_ne.mpr c25
            by_cases c46 : t183 = 6
            · rw [if_pos c46] at H
              have c46b0 : (t183 == 6) = true := beq_iff_eq.mpr c46
              have c46b1 : (t183 != 6) = false := bne_eq_false_iff_eq.mpr c46
              clear c46
              by_cases c47 : (t182.length : Int) = 0
              · rw [if_pos c47] at H
                have c47b0 : ((t182.length : Int) == 0) = true := beq_iff_eq.mpr c47
                have c47b1 : ((t182.length : Int) != 0) = false := bne_eq_false_iff_eq.mpr c47
                clear c47
                replace H := Option.bind_eq_some_iff.mp H
                obtain ⟨t193, A480, H⟩ := H
                replace H : (if t193 ≥ 0 then ((gessolaw01_awake.f kj4).bind fun t194 => (some t194)) else (none)) = some r := H
                have A48 := Aside0.mk A480
                clear A480
                by_cases c49 : t193 ≥ 0
                · rw [if_pos c49] at H
                  have c49b0 : decide (0 ≤ t193) = true := decide_eq_true c49
                  clear c49
                  replace H := Option.bind_eq_some_iff.mp H
                  obtain ⟨t194, A500, H⟩ := H
                  replace H : (some t194) = some r := H
                  have A50 := Aside0.mk A500
                  clear A500
                  obtain rfl := Option.some.inj H
                  go_wp2_with (first | ((with_reducible refine gate_callee (f := 18) rfl ?_); refine goesL_ (some 55) rfl rfl Tryd.func18 (by kernel_rfl) rfl #[.slice A1 l1.length c1] rfl (by (try simp only [List.map_toArray, List.map_cons, List.map_nil]); first | done | rfl | (simp only [List.length_drop, List.length_take]; rfl)) ?_; (with_reducible refine (code_Codes.calls _ _ l1 t182 t183 _ ?sideT ?side1 ?side2 A22.out).mono ?_); (case sideT => first | exact ⟨HTb_.out.below (by repeat (first | (with_reducible first | exact HB.out | apply below_alloc | apply pw_below_drewN | apply below_drew1) | exact HB.out))⟩ | exact ⟨HTb_.out.drawn (by repeat (first | exact Drawn0.refl _ | apply Drawn0.step))⟩ | exact ⟨HTb_.out.below (Drawn0.below (by repeat (first | exact Drawn0.refl _ | apply Drawn0.step)))⟩); (case side1 => repeat (first | exact (Kd.C_below HR1.out HB.out) | (with_reducible refine Kd.C_alloc ?_ _) | (with_reducible refine Kd.C_drewN ?_ _) | (with_reducible refine Kd.C_drew ?_))); (case side2 => exact HC1.out); rintro e w51 ⟨v184, rfl, ho0, hb⟩; refine ⟨_, rfl, ?_⟩; have n0_ := Aside0.mk (Kd.R_lower ho0 (below_size (by repeat (first | (with_reducible first | exact HB.out | apply below_alloc | apply pw_below_drewN | apply below_drew1) | exact HB.out)))); have n1_ := Aside0.mk (below_step (by repeat (first | (with_reducible first | exact HB.out | apply below_alloc | apply pw_below_drewN | apply below_drew1) | exact HB.out)) hb); clear HB; have HO185 := n0_; have HB := n1_; clear n0_ n1_; (try clear hb); (try clear hb2); (try clear hk); (try clear hi); (try clear ho0); obtain ⟨Ao52, co52, eo52⟩ := Kd.R_slice HO185.out; subst eo52) | ((with_reducible refine gate_callee (f := 17) rfl ?_); refine goesL_ (some 60) rfl rfl Tryd.func17 (by kernel_rfl) rfl #[.slice Ao52 t182.length co52] rfl (by (try simp only [List.map_toArray, List.map_cons, List.map_nil]); first | done | rfl | (simp only [List.length_drop, List.length_take]; rfl)) ?_; (with_reducible refine (code_Bytes.calls kj4 _ _ t182 t186 t187 _ ?side1 ?side2 A23.out).mono ?_); (case side1 => repeat (first | exact (Kd.R_reads' HO185.out).2.2 | (with_reducible refine Kd.C_alloc ?_ _) | (with_reducible refine Kd.C_drewN ?_ _) | (with_reducible refine Kd.C_drew ?_))); (case side2 => exact (Kd.R_reads' HO185.out).2.1); rintro e w53 ⟨v188, rfl, ho0, hb⟩; refine ⟨_, rfl, ?_⟩; have n0_ := Aside0.mk (Kd.R_below (by (with_reducible repeat (first | apply Kd.R_alloc | apply Kd.R_drewN | apply Kd.R_drew)); exact HO185.out) hb); have n1_ := Aside0.mk (Kd.R_lower ho0 (below_size (by repeat (first | (with_reducible first | exact HB.out | apply below_alloc | apply pw_below_drewN | apply below_drew1) | exact HB.out)))); have n2_ := Aside0.mk (below_step (by repeat (first | (with_reducible first | exact HB.out | apply below_alloc | apply pw_below_drewN | apply below_drew1) | exact HB.out)) hb); clear HO185; clear HB; have HO185 := n0_; have HO189 := n1_; have HB := n2_; clear n0_ n1_ n2_; (try clear hb); (try clear hb2); (try clear hk); (try clear hi); (try clear ho0)) | (go_at_call 20; (with_reducible refine (code_Fault.calls kj4 _ _ l1 t193 _ ?sideT ?side1 ?side2 A48.out).mono ?_); (case sideT => first | exact ⟨HTb_.out.below (by repeat (first | (with_reducible first | exact HB.out | apply below_alloc | apply pw_below_drewN | apply below_drew1) | exact HB.out))⟩ | exact ⟨HTb_.out.drawn (by repeat (first | exact Drawn0.refl _ | apply Drawn0.step))⟩ | exact ⟨HTb_.out.below (Drawn0.below (by repeat (first | exact Drawn0.refl _ | apply Drawn0.step)))⟩); (case side1 => repeat (first | exact (Kd.C_below HR1.out HB.out) | (with_reducible refine Kd.C_alloc ?_ _) | (with_reducible refine Kd.C_drewN ?_ _) | (with_reducible refine Kd.C_drew ?_))); (case side2 => exact HC1.out); rintro e w54 ⟨rfl, hb⟩; have n0_ := Aside0.mk (Kd.R_below (by (with_reducible repeat (first | apply Kd.R_alloc | apply Kd.R_drewN | apply Kd.R_drew)); exact HO185.out) hb); have n1_ := Aside0.mk (Kd.R_below (by (with_reducible repeat (first | apply Kd.R_alloc | apply Kd.R_drewN | apply Kd.R_drew)); exact HO189.out) hb); have n2_ := Aside0.mk (below_step (by repeat (first | (with_reducible first | exact HB.out | apply below_alloc | apply pw_below_drewN | apply below_drew1) | exact HB.out)) hb); clear HO185; clear HO189; clear HB; have HO185 := n0_; have HO189 := n1_; have HB := n2_; clear n0_ n1_ n2_; (try clear hb); (try clear hb2); (try clear hk); (try clear hi)) | (go_at_call 21; (with_reducible refine (gessolaw01_awake.calls kj4  t194 _ ?sideT A50.out).mono ?_); (case sideT => first | exact ⟨HTb_.out.below (by repeat (first | (with_reducible first | exact HB.out | apply below_alloc | apply pw_below_drewN | apply below_drew1) | exact HB.out))⟩ | exact ⟨HTb_.out.drawn (by repeat (first | exact Drawn0.refl _ | apply Drawn0.step))⟩ | exact ⟨HTb_.out.below (Drawn0.below (by repeat (first | exact Drawn0.refl _ | apply Drawn0.step)))⟩); rintro e w55 ⟨rfl, hb⟩; have n0_ := Aside0.mk (Kd.R_below (by (with_reducible repeat (first | apply Kd.R_alloc | apply Kd.R_drewN | apply Kd.R_drew)); exact HO185.out) hb); have n1_ := Aside0.mk (Kd.R_below (by (with_reducible repeat (first | apply Kd.R_alloc | apply Kd.R_drewN | apply Kd.R_drew)); exact HO189.out) hb); have n2_ := Aside0.mk (below_step (by repeat (first | (with_reducible first | exact HB.out | apply below_alloc | apply pw_below_drewN | apply below_drew1) | exact HB.out)) hb); clear HO185; clear HO189; clear HB; have HO185 := n0_; have HO189 := n1_; have HB := n2_; clear n0_ n1_ n2_; (try clear hb); (try clear hb2); (try clear hk); (try clear hi)))
                  go_ret
                  exact ⟨by first | rfl | (simp [errW_none, errW_some] <;> rfl) | (simp [*, errW_none, errW_some] <;> rfl), by repeat (first | (with_reducible first | exact HB.out | apply below_alloc | apply pw_below_drewN | apply below_drew1) | exact HB.out)⟩
                · rw [if_neg c49] at H
                  exact absurd H (by simp)
              · rw [if_neg c47] at H
                exact absurd H (by simp)
            · rw [if_neg c46] at H
              exact absurd H (by simp)
        · rw [if_neg c24] at H
          have c24b0 : (t183 == 0) = false := beq_eq_false_iff_ne.mpr c24
          have c24b1 : (t183 != 0) = true := bne_iff_ne.mpr c24
          by_cases c56 : t183 = 6
          · rw [if_pos c56] at H
            have c56b0 : (t183 == 6) = true := beq_iff_eq.mpr c56
            have c56b1 : (t183 != 6) = false := bne_eq_false_iff_eq.mpr c56
            clear c56
            by_cases c57 : (t182.length : Int) = 0
            · rw [if_pos c57] at H
              have c57b0 : ((t182.length : Int) == 0) = true := beq_iff_eq.mpr c57
              have c57b1 : ((t182.length : Int) != 0) = false := bne_eq_false_iff_eq.mpr c57
              clear c57
              replace H := Option.bind_eq_some_iff.mp H
              obtain ⟨t195, A580, H⟩ := H
              replace H : (if t195 ≥ 0 then ((gessolaw01_awake.f kj4).bind fun t196 => (some t196)) else (none)) = some r := H
              have A58 := Aside0.mk A580
              clear A580
              by_cases c59 : t195 ≥ 0
              · rw [if_pos c59] at H
                have c59b0 : decide (0 ≤ t195) = true := decide_eq_true c59
                clear c59
                replace H := Option.bind_eq_some_iff.mp H
                obtain ⟨t196, A600, H⟩ := H
                replace H : (some t196) = some r := H
                have A60 := Aside0.mk A600
                clear A600
                obtain rfl := Option.some.inj H
                go_wp2_with (first | ((with_reducible refine gate_callee (f := 18) rfl ?_); refine goesL_ (some 55) rfl rfl Tryd.func18 (by kernel_rfl) rfl #[.slice A1 l1.length c1] rfl (by (try simp only [List.map_toArray, List.map_cons, List.map_nil]); first | done | rfl | (simp only [List.length_drop, List.length_take]; rfl)) ?_; (with_reducible refine (code_Codes.calls _ _ l1 t182 t183 _ ?sideT ?side1 ?side2 A22.out).mono ?_); (case sideT => first | exact ⟨HTb_.out.below (by repeat (first | (with_reducible first | exact HB.out | apply below_alloc | apply pw_below_drewN | apply below_drew1) | exact HB.out))⟩ | exact ⟨HTb_.out.drawn (by repeat (first | exact Drawn0.refl _ | apply Drawn0.step))⟩ | exact ⟨HTb_.out.below (Drawn0.below (by repeat (first | exact Drawn0.refl _ | apply Drawn0.step)))⟩); (case side1 => repeat (first | exact (Kd.C_below HR1.out HB.out) | (with_reducible refine Kd.C_alloc ?_ _) | (with_reducible refine Kd.C_drewN ?_ _) | (with_reducible refine Kd.C_drew ?_))); (case side2 => exact HC1.out); rintro e w61 ⟨v184, rfl, ho0, hb⟩; refine ⟨_, rfl, ?_⟩; have n0_ := Aside0.mk (Kd.R_lower ho0 (below_size (by repeat (first | (with_reducible first | exact HB.out | apply below_alloc | apply pw_below_drewN | apply below_drew1) | exact HB.out)))); have n1_ := Aside0.mk (below_step (by repeat (first | (with_reducible first | exact HB.out | apply below_alloc | apply pw_below_drewN | apply below_drew1) | exact HB.out)) hb); clear HB; have HO185 := n0_; have HB := n1_; clear n0_ n1_; (try clear hb); (try clear hb2); (try clear hk); (try clear hi); (try clear ho0); obtain ⟨Ao62, co62, eo62⟩ := Kd.R_slice HO185.out; subst eo62) | ((with_reducible refine gate_callee (f := 17) rfl ?_); refine goesL_ (some 60) rfl rfl Tryd.func17 (by kernel_rfl) rfl #[.slice Ao62 t182.length co62] rfl (by (try simp only [List.map_toArray, List.map_cons, List.map_nil]); first | done | rfl | (simp only [List.length_drop, List.length_take]; rfl)) ?_; (with_reducible refine (code_Bytes.calls kj4 _ _ t182 t186 t187 _ ?side1 ?side2 A23.out).mono ?_); (case side1 => repeat (first | exact (Kd.R_reads' HO185.out).2.2 | (with_reducible refine Kd.C_alloc ?_ _) | (with_reducible refine Kd.C_drewN ?_ _) | (with_reducible refine Kd.C_drew ?_))); (case side2 => exact (Kd.R_reads' HO185.out).2.1); rintro e w63 ⟨v188, rfl, ho0, hb⟩; refine ⟨_, rfl, ?_⟩; have n0_ := Aside0.mk (Kd.R_below (by (with_reducible repeat (first | apply Kd.R_alloc | apply Kd.R_drewN | apply Kd.R_drew)); exact HO185.out) hb); have n1_ := Aside0.mk (Kd.R_lower ho0 (below_size (by repeat (first | (with_reducible first | exact HB.out | apply below_alloc | apply pw_below_drewN | apply below_drew1) | exact HB.out)))); have n2_ := Aside0.mk (below_step (by repeat (first | (with_reducible first | exact HB.out | apply below_alloc | apply pw_below_drewN | apply below_drew1) | exact HB.out)) hb); clear HO185; clear HB; have HO185 := n0_; have HO189 := n1_; have HB := n2_; clear n0_ n1_ n2_; (try clear hb); (try clear hb2); (try clear hk); (try clear hi); (try clear ho0)) | (go_at_call 20; (with_reducible refine (code_Fault.calls kj4 _ _ l1 t195 _ ?sideT ?side1 ?side2 A58.out).mono ?_); (case sideT => first | exact ⟨HTb_.out.below (by repeat (first | (with_reducible first | exact HB.out | apply below_alloc | apply pw_below_drewN | apply below_drew1) | exact HB.out))⟩ | exact ⟨HTb_.out.drawn (by repeat (first | exact Drawn0.refl _ | apply Drawn0.step))⟩ | exact ⟨HTb_.out.below (Drawn0.below (by repeat (first | exact Drawn0.refl _ | apply Drawn0.step)))⟩); (case side1 => repeat (first | exact (Kd.C_below HR1.out HB.out) | (with_reducible refine Kd.C_alloc ?_ _) | (with_reducible refine Kd.C_drewN ?_ _) | (with_reducible refine Kd.C_drew ?_))); (case side2 => exact HC1.out); rintro e w64 ⟨rfl, hb⟩; have n0_ := Aside0.mk (Kd.R_below (by (with_reducible repeat (first | apply Kd.R_alloc | apply Kd.R_drewN | apply Kd.R_drew)); exact HO185.out) hb); have n1_ := Aside0.mk (Kd.R_below (by (with_reducible repeat (first | apply Kd.R_alloc | apply Kd.R_drewN | apply Kd.R_drew)); exact HO189.out) hb); have n2_ := Aside0.mk (below_step (by repeat (first | (with_reducible first | exact HB.out | apply below_alloc | apply pw_below_drewN | apply below_drew1) | exact HB.out)) hb); clear HO185; clear HO189; clear HB; have HO185 := n0_; have HO189 := n1_; have HB := n2_; clear n0_ n1_ n2_; (try clear hb); (try clear hb2); (try clear hk); (try clear hi)) | (go_at_call 21; (with_reducible refine (gessolaw01_awake.calls kj4  t196 _ ?sideT A60.out).mono ?_); (case sideT => first | exact ⟨HTb_.out.below (by repeat (first | (with_reducible first | exact HB.out | apply below_alloc | apply pw_below_drewN | apply below_drew1) | exact HB.out))⟩ | exact ⟨HTb_.out.drawn (by repeat (first | exact Drawn0.refl _ | apply Drawn0.step))⟩ | exact ⟨HTb_.out.below (Drawn0.below (by repeat (first | exact Drawn0.refl _ | apply Drawn0.step)))⟩); rintro e w65 ⟨rfl, hb⟩; have n0_ := Aside0.mk (Kd.R_below (by (with_reducible repeat (first | apply Kd.R_alloc | apply Kd.R_drewN | apply Kd.R_drew)); exact HO185.out) hb); have n1_ := Aside0.mk (Kd.R_below (by (with_reducible repeat (first | apply Kd.R_alloc | apply Kd.R_drewN | apply Kd.R_drew)); exact HO189.out) hb); have n2_ := Aside0.mk (below_step (by repeat (first | (with_reducible first | exact HB.out | apply below_alloc | apply pw_below_drewN | apply below_drew1) | exact HB.out)) hb); clear HO185; clear HO189; clear HB; have HO185 := n0_; have HO189 := n1_; have HB := n2_; clear n0_ n1_ n2_; (try clear hb); (try clear hb2); (try clear hk); (try clear hi)))
                go_ret
                exact ⟨by first | rfl | (simp [errW_none, errW_some] <;> rfl) | (simp [*, errW_none, errW_some] <;> rfl), by repeat (first | (with_reducible first | exact HB.out | apply below_alloc | apply pw_below_drewN | apply below_drew1) | exact HB.out)⟩
              · rw [if_neg c59] at H
                exact absurd H (by simp)
            · rw [if_neg c57] at H
              exact absurd H (by simp)
          · rw [if_neg c56] at H
            exact absurd H (by simp)

/-- THE ONE PURE STATEMENT of gessolaw01_CodeBack: yours. -/
def gessolaw01_CodeBack.Pure : Prop := ∀ (l0 : List Int) (l1 : List Int), l0.length ≤ maxLen → l0.length * 4 ≤ 140737488351232 → (∀ x ∈ l0, (Lit.int .u32 x).wf = true) → l1.length ≤ maxLen → l1.length * 1 ≤ 140737488351232 → (∀ x ∈ l1, (Lit.int .u8 x).wf = true) → ∃ k, gessolaw01_CodeBack.f k l0 l1 = some true
theorem gessolaw01_CodeBack.walk (P : gessolaw01_CodeBack.Pure) (a0 : Option Addr) (len0 cap0 : Nat) (z0 : List Int) (a1 : Option Addr) (len1 cap1 : Nat) (z1 : List Int) (w : World) (HTb_ : Aside0 (Tabs w)) (w0 : (a0 = none ∧ len0 = 0 ∧ cap0 = 0 ∧ z0 = []) ∨ ∃ x, a0 = some x ∧ len0 ≤ cap0 ∧ cap0 ≤ maxLen ∧ z0.length = cap0 ∧ (∀ i, i < z0.length → w.cell? (x.add i) = some (.int .u32 (z0.getD i 0))) ∧ ∀ n ∈ z0, (Lit.int .u32 n).wf = true) (y0 : len0 * 4 ≤ 140737488351232) (w1 : (a1 = none ∧ len1 = 0 ∧ cap1 = 0 ∧ z1 = []) ∨ ∃ x, a1 = some x ∧ len1 ≤ cap1 ∧ cap1 ≤ maxLen ∧ z1.length = cap1 ∧ (∀ i, i < z1.length → w.cell? (x.add i) = some (.int .u8 (z1.getD i 0))) ∧ ∀ n ∈ z1, (Lit.int .u8 n).wf = true) (y1 : len1 * 1 ≤ 140737488351232) :
    Calls Tryd.prog 3 #[.slice a0 len0 cap0, .slice a1 len1 cap1] w fun e w' => e = .returned (.bool true) ∧ Below w.heap.size w w' := by
  obtain ⟨l0, rfl, hr0, hm0, hw0, hc0⟩ := ReadsInt.ofRowC w0
  obtain ⟨l1, rfl, hr1, hm1, hw1, hc1⟩ := ReadsInt.ofRowC w1
  obtain ⟨k, h⟩ := P l0 l1 hm0 y0 hw0 hm1 y1 hw1
  refine (gessolaw01_CodeBack.calls k _ _ l0 _ _ l1 true w HTb_ (Kd.C_of_reads (d := (0 : Int)) (h1 := fun _ => rfl) hr0) hc0 (Kd.C_of_reads (d := (0 : Int)) (h1 := fun _ => rfl) hr1) hc1 h).mono ?_
  rintro e w' ⟨rfl, hd⟩
  exact ⟨rfl, hd⟩

end Go.Proofs.YtjlhehaagaaihaaDoor.P
