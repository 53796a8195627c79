/- Functions of the translated program as plain Lean functions, and proofs that their calls come to these. Written by a program of the session. No condition. -/
import Derived.Test.YtejbkjbldmaodaaPx0
import Derived.Test.YtejbkjbldmaodaaPx6
import Derived.Test.YtejbkjbldmaodaaPx16
import Derived.Test.YtejbkjbldmaodaaPx17
import Derived.Test.YtejbkjbldmaodaaPx18
import Derived.Test.YtejbkjbldmaodaaPx19
import Derived.Test.YtejbkjbldmaodaaPx20
namespace Go.Proofs.Ytejbkjbldmaodaa.P
open Go.RowKit Go.Proofs.YtejbkjbldmaodaaW.PrintWords Go.Proofs.YtejbkjbldmaodaaW.PrintLast Go.Proofs.YtejbkjbldmaodaaW.PrintMore
attribute [local go_sem] max2_int min2_int max_two min_two max_three min_three max_four min_four   -- for this text's walks alone
set_option linter.unusedVariables false
set_option linter.unusedSimpArgs false

/-! ### gessolaw11_PackTexts: function 8 -/
def gessolaw11_PackTexts.f (k : Nat) (l0 : List ByteArray) (l1 : List Int) : Option (Bool) := (pack_Texts.f k l0).bind fun bt354 => ((gessoref11_Texts.f k l0).bind fun bt358 => ((pack_Strings.f k l1).bind fun bt362 => ((gessoref11_Strings.f k l1).bind fun bt366 => (if (strOfNums bt354.1).toList = (strOfNums bt358.1).toList then (if bt354.2 = bt358.2 then ((gessoref11_Same.f k bt362.1 bt366.1).bind fun t370 => (if t370 = true then (if bt362.2 = bt366.2 then ((gessolaw11_awake.f k).bind fun t371 => (some t371)) else (none)) else (none))) else (none)) else (none)))))
theorem gessolaw11_PackTexts.mono : ∀ a0 a1 k, LeO (gessolaw11_PackTexts.f k a0 a1) (gessolaw11_PackTexts.f (k + 1) a0 a1) := by
  intro a0 a1 k
  unfold gessolaw11_PackTexts.f
  repeat' first
      | (with_reducible exact gessolaw11_awake.mono _)
      | (with_reducible exact gessoref11_Same.mono _ _ _)
      | (with_reducible exact gessoref11_Strings.mono _ _)
      | (with_reducible exact gessoref11_Texts.mono _ _)
      | (with_reducible exact pack_Strings.mono _ _)
      | (with_reducible exact pack_Texts.mono _ _)
      | (with_reducible exact LeO.refl _)
      | (with_reducible exact LeO.none _)
      | (with_reducible refine LeO.ite ?_ ?_)
      | (with_reducible refine LeO.bind ?_ (fun _ => ?_))
      | exact gessolaw11_awake.mono _
      | exact gessoref11_Same.mono _ _ _
      | exact gessoref11_Strings.mono _ _
      | exact gessoref11_Texts.mono _ _
      | exact pack_Strings.mono _ _
      | exact pack_Texts.mono _ _
      | exact LeO.none _
      | refine LeO.ite ?_ ?_
      | refine LeO.bind ?_ (fun _ => ?_)
set_option maxHeartbeats 8000000 in
set_option maxRecDepth 100000 in
theorem gessolaw11_PackTexts.calls (k : Nat) (A0 : Option Addr) (c0 : Nat) (l0 : List ByteArray) (A1 : Option Addr) (c1 : Nat) (l1 : List Int) (r : Bool) (w : World) (hr0 : Kd.C Kd.string w A0 l0.length l0) (hc0 : l0.length ≤ c0) (hr1 : Kd.C (Kd.int .u8) w A1 l1.length l1) (hc1 : l1.length ≤ c1) (h : gessolaw11_PackTexts.f k l0 l1 = some r) :
    Calls Try.prog 8 #[.slice A0 l0.length c0, .slice A1 l1.length c1] w fun e w' => e = .returned (.bool r) ∧ Below w.heap.size w w' := by
  have HR0 := Aside0.mk hr0
  have HC0 := Aside0.mk hc0
  clear hr0 hc0
  have HR1 := Aside0.mk hr1
  have HC1 := Aside0.mk hc1
  clear hr1 hc1
  have HB := Aside0.mk (Below.refl w.heap.size w)
  have H : ((pack_Texts.f k l0).bind fun bt354 => ((gessoref11_Texts.f k l0).bind fun bt358 => ((pack_Strings.f k l1).bind fun bt362 => ((gessoref11_Strings.f k l1).bind fun bt366 => (if (strOfNums bt354.1).toList = (strOfNums bt358.1).toList then (if bt354.2 = bt358.2 then ((gessoref11_Same.f k bt362.1 bt366.1).bind fun t370 => (if t370 = true then (if bt362.2 = bt366.2 then ((gessolaw11_awake.f k).bind fun t371 => (some t371)) else (none)) else (none))) else (none)) else (none)))))) = some r := h
  clear h
  replace H := Option.bind_eq_some_iff.mp H
  obtain ⟨⟨t354, t355⟩, A30, H⟩ := H
  replace H : ((gessoref11_Texts.f k l0).bind fun bt358 => ((pack_Strings.f k l1).bind fun bt362 => ((gessoref11_Strings.f k l1).bind fun bt366 => (if (strOfNums t354).toList = (strOfNums bt358.1).toList then (if t355 = bt358.2 then ((gessoref11_Same.f k bt362.1 bt366.1).bind fun t370 => (if t370 = true then (if bt362.2 = bt366.2 then ((gessolaw11_awake.f k).bind fun t371 => (some t371)) else (none)) else (none))) else (none)) else (none))))) = some r := H
  have A3 := Aside0.mk A30
  clear A30
  replace H := Option.bind_eq_some_iff.mp H
  obtain ⟨⟨t358, t359⟩, A40, H⟩ := H
  replace H : ((pack_Strings.f k l1).bind fun bt362 => ((gessoref11_Strings.f k l1).bind fun bt366 => (if (strOfNums t354).toList = (strOfNums t358).toList then (if t355 = t359 then ((gessoref11_Same.f k bt362.1 bt366.1).bind fun t370 => (if t370 = true then (if bt362.2 = bt366.2 then ((gessolaw11_awake.f k).bind fun t371 => (some t371)) else (none)) else (none))) else (none)) else (none)))) = some r := H
  have A4 := Aside0.mk A40
  clear A40
  replace H := Option.bind_eq_some_iff.mp H
  obtain ⟨⟨t362, t363⟩, A50, H⟩ := H
  replace H : ((gessoref11_Strings.f k l1).bind fun bt366 => (if (strOfNums t354).toList = (strOfNums t358).toList then (if t355 = t359 then ((gessoref11_Same.f k t362 bt366.1).bind fun t370 => (if t370 = true then (if t363 = bt366.2 then ((gessolaw11_awake.f k).bind fun t371 => (some t371)) else (none)) else (none))) else (none)) else (none))) = some r := H
  have A5 := Aside0.mk A50
  clear A50
  replace H := Option.bind_eq_some_iff.mp H
  obtain ⟨⟨t366, t367⟩, A60, H⟩ := H
  replace H : (if (strOfNums t354).toList = (strOfNums t358).toList then (if t355 = t359 then ((gessoref11_Same.f k t362 t366).bind fun t370 => (if t370 = true then (if t363 = t367 then ((gessolaw11_awake.f k).bind fun t371 => (some t371)) else (none)) else (none))) else (none)) else (none)) = some r := H
  have A6 := Aside0.mk A60
  clear A60
  by_cases c7 : (strOfNums t354).toList = (strOfNums t358).toList
  · rw [if_pos c7] at H
    have c7b0 : ((strOfNums t354).toList == (strOfNums t358).toList) = true := beq_iff_eq.mpr c7
    have c7b1 : ((strOfNums t354).toList != (strOfNums t358).toList) = false := bne_eq_false_iff_eq.mpr c7
    clear c7
    by_cases c8 : t355 = t359
    · rw [if_pos c8] at H
      have c8b0 : (t355 == t359) = true := beq_iff_eq.mpr c8
      have c8b1 : (t355 != t359) = false := bne_eq_false_iff_eq.mpr c8
      clear c8
      replace H := Option.bind_eq_some_iff.mp H
      obtain ⟨t370, A90, H⟩ := H
      replace H : (if t370 = true then (if t363 = t367 then ((gessolaw11_awake.f k).bind fun t371 => (some t371)) else (none)) else (none)) = some r := H
      have A9 := Aside0.mk A90
      clear A90
      by_cases c10 : t370 = true
      · subst c10
        have H1 : (if t363 = t367 then ((gessolaw11_awake.f k).bind fun t371 => (some t371)) else (none)) = some r := by rw [if_pos rfl] at H; exact H
        clear H
        have H := H1
        clear H1
        by_cases c11 : t363 = t367
        · rw [if_pos c11] at H
          have c11b0 : (t363 == t367) = true := beq_iff_eq.mpr c11
          have c11b1 : (t363 != t367) = false := bne_eq_false_iff_eq.mpr c11
          clear c11
          replace H := Option.bind_eq_some_iff.mp H
          obtain ⟨t371, A120, H⟩ := H
          replace H : (some t371) = some r := H
          have A12 := Aside0.mk A120
          clear A120
          obtain rfl := Option.some.inj H
          go_enter Try.func8, Try.ntmps8
          go_wp2_with (first | ((with_reducible refine gate_callee (f := 20) rfl ?_); refine goesL_ (some 15) rfl rfl Try.func20 (by kernel_rfl) rfl #[.slice A0 l0.length c0] rfl (by (try simp only [List.map_toArray, List.map_cons, List.map_nil]); first | done | rfl | (simp only [List.length_drop, List.length_take]; rfl)) ?_; (with_reducible refine (pack_Texts.calls k _ _ l0 t354 t355 _ ?side1 ?side2 A3.out).mono ?_); (case side1 => repeat (first | exact HR0.out | (with_reducible refine Kd.C_alloc ?_ _) | (with_reducible refine Kd.C_drewN ?_ _) | (with_reducible refine Kd.C_drew ?_))); (case side2 => exact HC0.out); rintro e w13 ⟨v356, rfl, ho0, hb⟩; refine ⟨_, rfl, ?_⟩; have n0_ := Aside0.mk (Kd.R_lower ho0 (below_size (by repeat (first | (with_reducible first | exact HB.out | apply below_alloc | apply pw_below_drewN | apply below_drew1) | exact HB.out)))); have n1_ := Aside0.mk (below_step (by repeat (first | (with_reducible first | exact HB.out | apply below_alloc | apply pw_below_drewN | apply below_drew1) | exact HB.out)) hb); clear HB; have HO357 := n0_; have HB := n1_; clear n0_ n1_; (try clear hb); (try clear hb2); (try clear hk); (try clear hi); (try clear ho0)) | ((with_reducible refine gate_callee (f := 21) rfl ?_); refine goesL_ (some 20) rfl rfl Try.func21 (by kernel_rfl) rfl #[.slice A0 l0.length c0] rfl (by (try simp only [List.map_toArray, List.map_cons, List.map_nil]); first | done | rfl | (simp only [List.length_drop, List.length_take]; rfl)) ?_; (with_reducible refine (gessoref11_Texts.calls k _ _ l0 t358 t359 _ ?side1 ?side2 A4.out).mono ?_); (case side1 => repeat (first | exact (Kd.C_below HR0.out HB.out) | (with_reducible refine Kd.C_alloc ?_ _) | (with_reducible refine Kd.C_drewN ?_ _) | (with_reducible refine Kd.C_drew ?_))); (case side2 => exact HC0.out); rintro e w14 ⟨v360, rfl, ho0, hb⟩; refine ⟨_, rfl, ?_⟩; have n0_ := Aside0.mk (Kd.R_elder' (by (with_reducible repeat (first | apply Kd.R_alloc | apply Kd.R_drewN | apply Kd.R_drew)); exact HO357.out) (Kd.R_base ho0) hb); have n1_ := Aside0.mk (Kd.R_lower (Kd.R_new' ho0 (Kd.R_lt (by (with_reducible repeat (first | apply Kd.R_alloc | apply Kd.R_drewN | apply Kd.R_drew)); exact HO357.out))) (below_size (by repeat (first | (with_reducible first | exact HB.out | apply below_alloc | apply pw_below_drewN | apply below_drew1) | exact HB.out)))); have n2_ := Aside0.mk (below_step (by repeat (first | (with_reducible first | exact HB.out | apply below_alloc | apply pw_below_drewN | apply below_drew1) | exact HB.out)) hb); clear HO357; clear HB; have HO357 := n0_; have HO361 := n1_; have HB := n2_; clear n0_ n1_ n2_; (try clear hb); (try clear hb2); (try clear hk); (try clear hi); (try clear ho0)) | ((with_reducible refine gate_callee (f := 22) rfl ?_); refine goesL_ (some 25) rfl rfl Try.func22 (by kernel_rfl) rfl #[.slice A1 l1.length c1] rfl (by (try simp only [List.map_toArray, List.map_cons, List.map_nil]); first | done | rfl | (simp only [List.length_drop, List.length_take]; rfl)) ?_; (with_reducible refine (pack_Strings.calls k _ _ l1 t362 t363 _ ?side1 ?side2 A5.out).mono ?_); (case side1 => repeat (first | exact (Kd.C_below HR1.out HB.out) | (with_reducible refine Kd.C_alloc ?_ _) | (with_reducible refine Kd.C_drewN ?_ _) | (with_reducible refine Kd.C_drew ?_))); (case side2 => exact HC1.out); rintro e w15 ⟨v364, rfl, ho0, hb⟩; refine ⟨_, rfl, ?_⟩; have n0_ := Aside0.mk (Kd.R_below (by (with_reducible repeat (first | apply Kd.R_alloc | apply Kd.R_drewN | apply Kd.R_drew)); exact HO357.out) hb); have n1_ := Aside0.mk (Kd.R_below (by (with_reducible repeat (first | apply Kd.R_alloc | apply Kd.R_drewN | apply Kd.R_drew)); exact HO361.out) hb); have n2_ := Aside0.mk (Kd.R_lower ho0 (below_size (by repeat (first | (with_reducible first | exact HB.out | apply below_alloc | apply pw_below_drewN | apply below_drew1) | exact HB.out)))); have n3_ := Aside0.mk (below_step (by repeat (first | (with_reducible first | exact HB.out | apply below_alloc | apply pw_below_drewN | apply below_drew1) | exact HB.out)) hb); clear HO357; clear HO361; clear HB; have HO357 := n0_; have HO361 := n1_; have HO365 := n2_; have HB := n3_; clear n0_ n1_ n2_ n3_; (try clear hb); (try clear hb2); (try clear hk); (try clear hi); (try clear ho0)) | ((with_reducible refine gate_callee (f := 23) rfl ?_); refine goesL_ (some 30) rfl rfl Try.func23 (by kernel_rfl) rfl #[.slice A1 l1.length c1] rfl (by (try simp only [List.map_toArray, List.map_cons, List.map_nil]); first | done | rfl | (simp only [List.length_drop, List.length_take]; rfl)) ?_; (with_reducible refine (gessoref11_Strings.calls k _ _ l1 t366 t367 _ ?side1 ?side2 A6.out).mono ?_); (case side1 => repeat (first | exact (Kd.C_below HR1.out HB.out) | (with_reducible refine Kd.C_alloc ?_ _) | (with_reducible refine Kd.C_drewN ?_ _) | (with_reducible refine Kd.C_drew ?_))); (case side2 => exact HC1.out); rintro e w16 ⟨v368, rfl, ho0, hb⟩; refine ⟨_, rfl, ?_⟩; have n0_ := Aside0.mk (Kd.R_below (by (with_reducible repeat (first | apply Kd.R_alloc | apply Kd.R_drewN | apply Kd.R_drew)); exact HO357.out) hb); have n1_ := Aside0.mk (Kd.R_below (by (with_reducible repeat (first | apply Kd.R_alloc | apply Kd.R_drewN | apply Kd.R_drew)); exact HO361.out) hb); have n2_ := Aside0.mk (Kd.R_elder' (by (with_reducible repeat (first | apply Kd.R_alloc | apply Kd.R_drewN | apply Kd.R_drew)); exact HO365.out) (Kd.R_base ho0) hb); have n3_ := Aside0.mk (Kd.R_lower (Kd.R_new' ho0 (Kd.R_lt (by (with_reducible repeat (first | apply Kd.R_alloc | apply Kd.R_drewN | apply Kd.R_drew)); exact HO365.out))) (below_size (by repeat (first | (with_reducible first | exact HB.out | apply below_alloc | apply pw_below_drewN | apply below_drew1) | exact HB.out)))); have n4_ := Aside0.mk (below_step (by repeat (first | (with_reducible first | exact HB.out | apply below_alloc | apply pw_below_drewN | apply below_drew1) | exact HB.out)) hb); clear HO357; clear HO361; clear HO365; clear HB; have HO357 := n0_; have HO361 := n1_; have HO365 := n2_; have HO369 := n3_; have HB := n4_; clear n0_ n1_ n2_ n3_ n4_; (try clear hb); (try clear hb2); (try clear hk); (try clear hi); (try clear ho0); have hcv17 := own_string (P := Try.prog) Try.underlying23 Try.underlying5 Try.underlying9 (Kd.own_of_R HO357.out); have hcv18 := own_string (P := Try.prog) Try.underlying23 Try.underlying5 Try.underlying9 (Kd.own_of_R HO361.out); obtain ⟨Ao19, co19, eo19⟩ := Kd.R_slice HO365.out; subst eo19; obtain ⟨Ao20, co20, eo20⟩ := Kd.R_slice HO369.out; subst eo20) | (go_at_call 24; (with_reducible refine (gessoref11_Same.calls k _ _ t362 _ _ t366 true _ ?side1 ?side2 ?side3 ?side4 A9.out).mono ?_); (case side1 => repeat (first | exact (Kd.R_reads' HO365.out).2.2 | (with_reducible refine Kd.C_alloc ?_ _) | (with_reducible refine Kd.C_drewN ?_ _) | (with_reducible refine Kd.C_drew ?_))); (case side2 => exact (Kd.R_reads' HO365.out).2.1); (case side3 => repeat (first | exact (Kd.R_reads' HO369.out).2.2 | (with_reducible refine Kd.C_alloc ?_ _) | (with_reducible refine Kd.C_drewN ?_ _) | (with_reducible refine Kd.C_drew ?_))); (case side4 => exact (Kd.R_reads' HO369.out).2.1); rintro e w' ⟨rfl, ⟨nd, rfl⟩⟩) | (go_at_call 13; (with_reducible refine (gessolaw11_awake.calls k  t371 _ A12.out).mono ?_); rintro e w21 ⟨rfl, hb⟩; have n0_ := Aside0.mk (Kd.R_below (by (with_reducible repeat (first | apply Kd.R_alloc | apply Kd.R_drewN | apply Kd.R_drew)); exact HO357.out) hb); have n1_ := Aside0.mk (Kd.R_below (by (with_reducible repeat (first | apply Kd.R_alloc | apply Kd.R_drewN | apply Kd.R_drew)); exact HO361.out) hb); have n2_ := Aside0.mk (Kd.R_below (by (with_reducible repeat (first | apply Kd.R_alloc | apply Kd.R_drewN | apply Kd.R_drew)); exact HO365.out) hb); have n3_ := Aside0.mk (Kd.R_below (by (with_reducible repeat (first | apply Kd.R_alloc | apply Kd.R_drewN | apply Kd.R_drew)); exact HO369.out) hb); have n4_ := Aside0.mk (below_step (by repeat (first | (with_reducible first | exact HB.out | apply below_alloc | apply pw_below_drewN | apply below_drew1) | exact HB.out)) hb); clear HO357; clear HO361; clear HO365; clear HO369; clear HB; have HO357 := n0_; have HO361 := n1_; have HO365 := n2_; have HO369 := n3_; have HB := n4_; clear n0_ n1_ n2_ n3_ n4_; (try clear hb); (try clear hb2); (try clear hk); (try clear hi)))
          go_ret
          exact ⟨by first | rfl | (simp [errW_none, errW_some] <;> rfl) | (simp [*, errW_none, errW_some] <;> rfl), by repeat (first | (with_reducible first | exact HB.out | apply below_alloc | apply pw_below_drewN | apply below_drew1) | exact HB.out)⟩
        · rw [if_neg c11] at H
          exact absurd H (by simp)
      · replace c10 := Bool.eq_false_iff.mpr c10
        subst c10
        have H1 : (none) = some r := by rw [if_neg (show ¬ (false = true) by decide)] at H; exact H
        clear H
        have H := H1
        clear H1
        exact absurd H (by simp)
    · rw [if_neg c8] at H
      exact absurd H (by simp)
  · rw [if_neg c7] at H
    exact absurd H (by simp)

end Go.Proofs.Ytejbkjbldmaodaa.P
