/- Functions of the translated program as plain Lean functions, and proofs that their calls come to these. Written by a program of the session. No condition. -/
import Derived.Test.YtjlhehaagaaihaaDoorPx0
import Derived.Test.YtjlhehaagaaihaaDoorPx8
import Derived.Test.YtjlhehaagaaihaaDoorPx11
import Derived.Test.YtjlhehaagaaihaaDoorPx16
import Derived.Test.YtjlhehaagaaihaaDoorPx17
import Derived.Test.YtjlhehaagaaihaaDoorEb
namespace Go.Proofs.YtjlhehaagaaihaaDoor.P
open Go.RowKit Go.Proofs.YtjlhehaagaaihaaDoorW.PrintWords Go.Proofs.YtjlhehaagaaihaaDoorW.PrintLast Go.Proofs.YtjlhehaagaaihaaDoorW.PrintMore
attribute [local go_sem] max2_int min2_int max_two min_two max_three min_three max_four min_four   -- for this text's walks alone
set_option linter.unusedVariables false
set_option linter.unusedSimpArgs false

/-! ### gessolaw01_CodeOnes: function 5 -/
def gessolaw01_CodeOnes.f (k : Nat) (l0 : List Int) : Option (Bool) := (some (([] : List Int) : List Int)).bind fun y216 => (if y216.length + l0.length < 140737488355328 then ((some (y216 ++ l0 : List Int)).bind fun y219 => ((code_One.f y219).bind fun bt222 => ((gessoref01_One.f k l0).bind fun bt224 => (if bt222.1 = bt224.1 then (if bt222.2 = bt224.2 then ((code_Fault.f k y219).bind fun t226 => ((gessoref01_Fault.f k l0).bind fun t227 => (if t226 = t227 then (if (strOfNums y219).toList = (strOfNums l0).toList then ((gessolaw01_awake.f k).bind fun t228 => (some t228)) else (none)) else (none)))) else (none)) else (none))))) else (none))
theorem gessolaw01_CodeOnes.mono : ∀ a0 k, LeO (gessolaw01_CodeOnes.f k a0) (gessolaw01_CodeOnes.f (k + 1) a0) := by
  intro a0 k
  unfold gessolaw01_CodeOnes.f
  repeat' first
      | (with_reducible exact code_Fault.mono _ _)
      | (with_reducible exact gessolaw01_awake.mono _)
      | (with_reducible exact gessoref01_Fault.mono _ _)
      | (with_reducible exact gessoref01_One.mono _ _)
      | (with_reducible exact LeO.refl _)
      | (with_reducible exact LeO.none _)
      | (with_reducible refine LeO.ite ?_ ?_)
      | (with_reducible refine LeO.bind ?_ (fun _ => ?_))
      | exact code_Fault.mono _ _
      | exact gessolaw01_awake.mono _
      | exact gessoref01_Fault.mono _ _
      | exact gessoref01_One.mono _ _
      | exact LeO.none _
      | refine LeO.ite ?_ ?_
      | refine LeO.bind ?_ (fun _ => ?_)
set_option maxHeartbeats 8000000 in
set_option maxRecDepth 100000 in
theorem gessolaw01_CodeOnes.calls (k : Nat) (A0 : Option Addr) (c0 : Nat) (l0 : List Int) (r : Bool) (w : World) (HTb_ : Aside0 (Tabs w)) (hr0 : Kd.C (Kd.int .u8) w A0 l0.length l0) (hc0 : l0.length ≤ c0) (h : gessolaw01_CodeOnes.f k l0 = some r) :
    Calls Tryd.prog 5 #[.slice A0 l0.length c0] w fun e w' => e = .returned (.bool r) ∧ Below w.heap.size w w' := by
  have HR0 := Aside0.mk hr0
  have HC0 := Aside0.mk hc0
  clear hr0 hc0
  have HB := Aside0.mk (Below.refl w.heap.size w)
  have H : ((some (([] : List Int) : List Int)).bind fun y216 => (if y216.length + l0.length < 140737488355328 then ((some (y216 ++ l0 : List Int)).bind fun y219 => ((code_One.f y219).bind fun bt222 => ((gessoref01_One.f k l0).bind fun bt224 => (if bt222.1 = bt224.1 then (if bt222.2 = bt224.2 then ((code_Fault.f k y219).bind fun t226 => ((gessoref01_Fault.f k l0).bind fun t227 => (if t226 = t227 then (if (strOfNums y219).toList = (strOfNums l0).toList then ((gessolaw01_awake.f k).bind fun t228 => (some t228)) else (none)) else (none)))) else (none)) else (none))))) else (none))) = some r := h
  clear h
  obtain ⟨y216, hy216⟩ : ∃ y_ : List Int, y_ = (([] : List Int)) := ⟨_, rfl⟩
  replace H : (if y216.length + l0.length < 140737488355328 then ((some (y216 ++ l0 : List Int)).bind fun y219 => ((code_One.f y219).bind fun bt222 => ((gessoref01_One.f k l0).bind fun bt224 => (if bt222.1 = bt224.1 then (if bt222.2 = bt224.2 then ((code_Fault.f k y219).bind fun t226 => ((gessoref01_Fault.f k l0).bind fun t227 => (if t226 = t227 then (if (strOfNums y219).toList = (strOfNums l0).toList then ((gessolaw01_awake.f k).bind fun t228 => (some t228)) else (none)) else (none)))) else (none)) else (none))))) else (none)) = some r := by first | (rw [hy216]; with_reducible exact H) | (have H2_ := (Option.bind_some _ _).symm.trans H; rw [hy216]; with_reducible exact H2_) | (have H2_ := (Option.bind_some _ _).symm.trans H; with_reducible exact H2_) | with_reducible exact H | (rw [hy216]; exact H) | exact H
  have Ny216 := Aside0.mk hy216
  clear hy216
  by_cases c2 : y216.length + l0.length < 140737488355328
  · rw [if_pos c2] at H
    have LMc2 := Aside0.mk c2
    clear c2
    obtain ⟨y219, hy219⟩ : ∃ y_ : List Int, y_ = (y216 ++ l0) := ⟨_, rfl⟩
    replace H : ((code_One.f y219).bind fun bt222 => ((gessoref01_One.f k l0).bind fun bt224 => (if bt222.1 = bt224.1 then (if bt222.2 = bt224.2 then ((code_Fault.f k y219).bind fun t226 => ((gessoref01_Fault.f k l0).bind fun t227 => (if t226 = t227 then (if (strOfNums y219).toList = (strOfNums l0).toList then ((gessolaw01_awake.f k).bind fun t228 => (some t228)) else (none)) else (none)))) else (none)) else (none)))) = some r := by first | (rw [hy219]; with_reducible exact H) | (have H2_ := (Option.bind_some _ _).symm.trans H; rw [hy219]; with_reducible exact H2_) | (have H2_ := (Option.bind_some _ _).symm.trans H; with_reducible exact H2_) | with_reducible exact H | (rw [hy219]; exact H) | exact H
    have Ny219 := Aside0.mk hy219
    clear hy219
    replace H := Option.bind_eq_some_iff.mp H
    obtain ⟨⟨t222, t223⟩, A30, H⟩ := H
    replace H : ((gessoref01_One.f k l0).bind fun bt224 => (if t222 = bt224.1 then (if t223 = bt224.2 then ((code_Fault.f k y219).bind fun t226 => ((gessoref01_Fault.f k l0).bind fun t227 => (if t226 = t227 then (if (strOfNums y219).toList = (strOfNums l0).toList then ((gessolaw01_awake.f k).bind fun t228 => (some t228)) else (none)) else (none)))) else (none)) else (none))) = some r := H
    have A3 := Aside0.mk A30
    clear A30
    replace H := Option.bind_eq_some_iff.mp H
    obtain ⟨⟨t224, t225⟩, A40, H⟩ := H
    replace H : (if t222 = t224 then (if t223 = t225 then ((code_Fault.f k y219).bind fun t226 => ((gessoref01_Fault.f k l0).bind fun t227 => (if t226 = t227 then (if (strOfNums y219).toList = (strOfNums l0).toList then ((gessolaw01_awake.f k).bind fun t228 => (some t228)) else (none)) else (none)))) else (none)) else (none)) = some r := H
    have A4 := Aside0.mk A40
    clear A40
    by_cases c5 : t222 = t224
    · rw [if_pos c5] at H
      have c5b0 : (t222 == t224) = true := beq_iff_eq.mpr c5
      have c5b1 : (t222 != t224) = false := bne_eq_false_iff_eq.mpr c5
      clear c5
      by_cases c6 : t223 = t225
      · rw [if_pos c6] at H
        have c6b0 : (t223 == t225) = true := beq_iff_eq.mpr c6
        have c6b1 : (t223 != t225) = false := bne_eq_false_iff_eq.mpr c6
        clear c6
        replace H := Option.bind_eq_some_iff.mp H
        obtain ⟨t226, A70, H⟩ := H
        replace H : ((gessoref01_Fault.f k l0).bind fun t227 => (if t226 = t227 then (if (strOfNums y219).toList = (strOfNums l0).toList then ((gessolaw01_awake.f k).bind fun t228 => (some t228)) else (none)) else (none))) = some r := H
        have A7 := Aside0.mk A70
        clear A70
        replace H := Option.bind_eq_some_iff.mp H
        obtain ⟨t227, A80, H⟩ := H
        replace H : (if t226 = t227 then (if (strOfNums y219).toList = (strOfNums l0).toList then ((gessolaw01_awake.f k).bind fun t228 => (some t228)) else (none)) else (none)) = some r := H
        have A8 := Aside0.mk A80
        clear A80
        by_cases c9 : t226 = t227
        · rw [if_pos c9] at H
          have c9b0 : (t226 == t227) = true := beq_iff_eq.mpr c9
          have c9b1 : (t226 != t227) = false := bne_eq_false_iff_eq.mpr c9
          clear c9
          by_cases c10 : (strOfNums y219).toList = (strOfNums l0).toList
          · rw [if_pos c10] at H
            have c10b0 : ((strOfNums y219).toList == (strOfNums l0).toList) = true := beq_iff_eq.mpr c10
            have c10b1 : ((strOfNums y219).toList != (strOfNums l0).toList) = false := bne_eq_false_iff_eq.mpr c10
            clear c10
            replace H := Option.bind_eq_some_iff.mp H
            obtain ⟨t228, A110, H⟩ := H
            replace H : (some t228) = some r := H
            have A11 := Aside0.mk A110
            clear A110
            obtain rfl := Option.some.inj H
            go_enter Tryd.func5, Tryd.ntmps5
            go_wp2_with (first | ((with_reducible refine gate_dst (N := 8) rfl ?_); refine Kd.R_lit (Kd.int .u8) _ 5 ?hg (N := 8) ?hd (xs := ([] : List Int)) (inner := []) (ok := fun _ => True) (okp := fun _ => True) ?hr ?hp (fun _ hk => hk) trivial (Below.refl _ _) (Nat.le_refl _) (by simp) ?_; (case hd => rfl); (case hg => rfl); (case hr => first | (go_simp; done) | (go_simp; rfl)); (case hp => exact (Reps.none _ _)); intro v217 w12 ho13 hb hg_ hnew_; clear hg_ hnew_; (first | rw [← Ny216.out] at ho13 | (simp only [Int.reduceToNat] at ho13; rw [← Ny216.out] at ho13)); have n0_ := Aside0.mk (Kd.R_lower ho13 (below_size (by repeat (first | (with_reducible first | exact HB.out | apply below_alloc | apply pw_below_drewN | apply below_drew1) | exact HB.out)))); have n1_ := Aside0.mk (below_step (by repeat (first | (with_reducible first | exact HB.out | apply below_alloc | apply pw_below_drewN | apply below_drew1) | exact HB.out)) hb); clear HB; have HO218 := n0_; have HB := n1_; clear n0_ n1_; clear hb ho13) | ((with_reducible refine gate_builtin (b := .append) (xs := #[.tmp 8, .tmp 9]) rfl ?_); at_builtin; refine Kd.R_append_rows (Kd.int .u8) (w0 := w) w.heap.size rfl (.tmp 8) (.tmp 9) 23 5 (.int .u8 0) 1 rfl Tryd.underlying23 info5 rfl (by decide) (by omega) v217 y216 l0 _ _ _ (fun _ => True) (fun _ => False) rfl rfl ?aO ?aR (fun _ _ h => h) (fun _ h => h.elim) ?aF ?aB ?aS ?aL ?_; (case aR => repeat (first | exact (Kd.C_below HR0.out HB.out) | (with_reducible refine Kd.C_alloc ?_ _) | (with_reducible refine Kd.C_drewN ?_ _) | (with_reducible refine Kd.C_drew ?_))); (case aB => exact (by repeat (first | (with_reducible first | exact HB.out | apply below_alloc | apply pw_below_drewN | apply below_drew1) | exact HB.out))); (case aF => exact (fun _ _ => trivial)); (case aO => exact (by (with_reducible repeat (first | apply Kd.R_alloc | apply Kd.R_drewN | apply Kd.R_drew)); exact HO218.out)); (case aS => exact (below_size (by repeat (first | (with_reducible first | exact HB.out | apply below_alloc | apply pw_below_drewN | apply below_drew1) | exact HB.out)))); (case aL => have := LMc2.out; omega); intro v220 w14 ho hb hg hat; rw [← Ny219.out] at ho; have n0_ := Aside0.mk (hb); have n1_ := Aside0.mk (ho); clear HB; clear HO218; have HB := n0_; have HO221 := n1_; clear n0_ n1_; clear ho hb hg hat; obtain ⟨Ao15, co15, eo15⟩ := Kd.R_slice HO221.out; subst eo15) | ((with_reducible refine gate_callee (f := 23) rfl ?_); refine goesL_ (some 13) rfl rfl Tryd.func23 (by kernel_rfl) rfl #[.slice Ao15 y219.length co15] rfl (by (try simp only [List.map_toArray, List.map_cons, List.map_nil]); first | done | rfl | (simp only [List.length_drop, List.length_take]; rfl)) ?_; (with_reducible refine (code_One.calls _ _ y219 t222 t223 _ ?sideT ?side1 ?side2 A3.out).mono ?_); (case sideT => first | exact ⟨HTb_.out.below (by repeat (first | (with_reducible first | exact HB.out | apply below_alloc | apply pw_below_drewN | apply below_drew1) | exact HB.out))⟩ | exact ⟨HTb_.out.drawn (by repeat (first | exact Drawn0.refl _ | apply Drawn0.step))⟩ | exact ⟨HTb_.out.below (Drawn0.below (by repeat (first | exact Drawn0.refl _ | apply Drawn0.step)))⟩); (case side1 => repeat (first | exact (Kd.R_reads' HO221.out).2.2 | (with_reducible refine Kd.C_alloc ?_ _) | (with_reducible refine Kd.C_drewN ?_ _) | (with_reducible refine Kd.C_drew ?_))); (case side2 => exact (Kd.R_reads' HO221.out).2.1); rintro e w16 ⟨rfl, hb⟩; refine ⟨_, rfl, ?_⟩; have n0_ := Aside0.mk (Kd.R_below (by (with_reducible repeat (first | apply Kd.R_alloc | apply Kd.R_drewN | apply Kd.R_drew)); exact HO221.out) hb); have n1_ := Aside0.mk (below_step (by repeat (first | (with_reducible first | exact HB.out | apply below_alloc | apply pw_below_drewN | apply below_drew1) | exact HB.out)) hb); clear HO221; clear HB; have HO221 := n0_; have HB := n1_; clear n0_ n1_; (try clear hb); (try clear hb2); (try clear hk); (try clear hi)) | ((with_reducible refine gate_callee (f := 24) rfl ?_); refine goesL_ (some 18) rfl rfl Tryd.func24 (by kernel_rfl) rfl #[.slice A0 l0.length c0] rfl (by (try simp only [List.map_toArray, List.map_cons, List.map_nil]); first | done | rfl | (simp only [List.length_drop, List.length_take]; rfl)) ?_; (with_reducible refine (gessoref01_One.calls k _ _ l0 t224 t225 _ ?side1 ?side2 A4.out).mono ?_); (case side1 => repeat (first | exact (Kd.C_below HR0.out HB.out) | (with_reducible refine Kd.C_alloc ?_ _) | (with_reducible refine Kd.C_drewN ?_ _) | (with_reducible refine Kd.C_drew ?_))); (case side2 => exact HC0.out); rintro e w17 ⟨rfl, hb⟩; refine ⟨_, rfl, ?_⟩; have n0_ := Aside0.mk (Kd.R_below (by (with_reducible repeat (first | apply Kd.R_alloc | apply Kd.R_drewN | apply Kd.R_drew)); exact HO221.out) hb); have n1_ := Aside0.mk (below_step (by repeat (first | (with_reducible first | exact HB.out | apply below_alloc | apply pw_below_drewN | apply below_drew1) | exact HB.out)) hb); clear HO221; clear HB; have HO221 := n0_; have HB := n1_; clear n0_ n1_; (try clear hb); (try clear hb2); (try clear hk); (try clear hi)) | (go_at_call 20; (with_reducible refine (code_Fault.calls k _ _ y219 t226 _ ?sideT ?side1 ?side2 A7.out).mono ?_); (case sideT => first | exact ⟨HTb_.out.below (by repeat (first | (with_reducible first | exact HB.out | apply below_alloc | apply pw_below_drewN | apply below_drew1) | exact HB.out))⟩ | exact ⟨HTb_.out.drawn (by repeat (first | exact Drawn0.refl _ | apply Drawn0.step))⟩ | exact ⟨HTb_.out.below (Drawn0.below (by repeat (first | exact Drawn0.refl _ | apply Drawn0.step)))⟩); (case side1 => repeat (first | exact (Kd.R_reads' HO221.out).2.2 | (with_reducible refine Kd.C_alloc ?_ _) | (with_reducible refine Kd.C_drewN ?_ _) | (with_reducible refine Kd.C_drew ?_))); (case side2 => exact (Kd.R_reads' HO221.out).2.1); rintro e w18 ⟨rfl, hb⟩; have n0_ := Aside0.mk (Kd.R_below (by (with_reducible repeat (first | apply Kd.R_alloc | apply Kd.R_drewN | apply Kd.R_drew)); exact HO221.out) hb); have n1_ := Aside0.mk (below_step (by repeat (first | (with_reducible first | exact HB.out | apply below_alloc | apply pw_below_drewN | apply below_drew1) | exact HB.out)) hb); clear HO221; clear HB; have HO221 := n0_; have HB := n1_; clear n0_ n1_; (try clear hb); (try clear hb2); (try clear hk); (try clear hi)) | (go_at_call 25; (with_reducible refine (gessoref01_Fault.calls k _ _ l0 t227 _ ?side1 ?side2 A8.out).mono ?_); (case side1 => repeat (first | exact (Kd.C_below HR0.out HB.out) | (with_reducible refine Kd.C_alloc ?_ _) | (with_reducible refine Kd.C_drewN ?_ _) | (with_reducible refine Kd.C_drew ?_))); (case side2 => exact HC0.out); rintro e w19 ⟨rfl, hb⟩; have n0_ := Aside0.mk (Kd.R_below (by (with_reducible repeat (first | apply Kd.R_alloc | apply Kd.R_drewN | apply Kd.R_drew)); exact HO221.out) hb); have n1_ := Aside0.mk (below_step (by repeat (first | (with_reducible first | exact HB.out | apply below_alloc | apply pw_below_drewN | apply below_drew1) | exact HB.out)) hb); clear HO221; clear HB; have HO221 := n0_; have HB := n1_; clear n0_ n1_; (try clear hb); (try clear hb2); (try clear hk); (try clear hi); have hcv20 := own_string (P := Tryd.prog) Tryd.underlying23 Tryd.underlying5 Tryd.underlying9 (Kd.own_of_R HO221.out); have hcv21 := Kd.C_string (P := Tryd.prog) (A := A0) (c := c0) Tryd.underlying23 Tryd.underlying5 Tryd.underlying9 (Kd.C_below HR0.out HB.out)) | (go_at_call 21; (with_reducible refine (gessolaw01_awake.calls k  t228 _ ?sideT A11.out).mono ?_); (case sideT => first | exact ⟨HTb_.out.below (by repeat (first | (with_reducible first | exact HB.out | apply below_alloc | apply pw_below_drewN | apply below_drew1) | exact HB.out))⟩ | exact ⟨HTb_.out.drawn (by repeat (first | exact Drawn0.refl _ | apply Drawn0.step))⟩ | exact ⟨HTb_.out.below (Drawn0.below (by repeat (first | exact Drawn0.refl _ | apply Drawn0.step)))⟩); rintro e w22 ⟨rfl, hb⟩; have n0_ := Aside0.mk (Kd.R_below (by (with_reducible repeat (first | apply Kd.R_alloc | apply Kd.R_drewN | apply Kd.R_drew)); exact HO221.out) hb); have n1_ := Aside0.mk (below_step (by repeat (first | (with_reducible first | exact HB.out | apply below_alloc | apply pw_below_drewN | apply below_drew1) | exact HB.out)) hb); clear HO221; clear HB; have HO221 := n0_; have HB := n1_; clear n0_ n1_; (try clear hb); (try clear hb2); (try clear hk); (try clear hi)))
            go_ret
            exact ⟨by first | rfl | (simp [errW_none, errW_some] <;> rfl) | (simp [*, errW_none, errW_some] <;> rfl), by repeat (first | (with_reducible first | exact HB.out | apply below_alloc | apply pw_below_drewN | apply below_drew1) | exact HB.out)⟩
          · rw [if_neg c10] at H
            exact absurd H (by simp)
        · rw [if_neg c9] at H
          exact absurd H (by simp)
      · rw [if_neg c6] at H
        exact absurd H (by simp)
    · rw [if_neg c5] at H
      exact absurd H (by simp)
  · rw [if_neg c2] at H
    exact absurd H (by simp)

/-- THE ONE PURE STATEMENT of gessolaw01_CodeOnes: yours. -/
def gessolaw01_CodeOnes.Pure : Prop := ∀ (l0 : List Int), l0.length ≤ maxLen → l0.length * 1 ≤ 140737488351232 → (∀ x ∈ l0, (Lit.int .u8 x).wf = true) → ∃ k, gessolaw01_CodeOnes.f k l0 = some true
theorem gessolaw01_CodeOnes.walk (P : gessolaw01_CodeOnes.Pure) (a0 : Option Addr) (len0 cap0 : Nat) (z0 : List Int) (w : World) (HTb_ : Aside0 (Tabs w)) (w0 : (a0 = none ∧ len0 = 0 ∧ cap0 = 0 ∧ z0 = []) ∨ ∃ x, a0 = some x ∧ len0 ≤ cap0 ∧ cap0 ≤ maxLen ∧ z0.length = cap0 ∧ (∀ i, i < z0.length → w.cell? (x.add i) = some (.int .u8 (z0.getD i 0))) ∧ ∀ n ∈ z0, (Lit.int .u8 n).wf = true) (y0 : len0 * 1 ≤ 140737488351232) :
    Calls Tryd.prog 5 #[.slice a0 len0 cap0] w fun e w' => e = .returned (.bool true) ∧ Below w.heap.size w w' := by
  obtain ⟨l0, rfl, hr0, hm0, hw0, hc0⟩ := ReadsInt.ofRowC w0
  obtain ⟨k, h⟩ := P l0 hm0 y0 hw0
  refine (gessolaw01_CodeOnes.calls k _ _ l0 true w HTb_ (Kd.C_of_reads (d := (0 : Int)) (h1 := fun _ => rfl) hr0) hc0 h).mono ?_
  rintro e w' ⟨rfl, hd⟩
  exact ⟨rfl, hd⟩

end Go.Proofs.YtjlhehaagaaihaaDoor.P
