/- Functions of the translated program as plain Lean functions, and proofs that their calls come to these. Written by a program of the session. No condition. -/
import Derived.Test.YtjlhehaagaaihaaDoorPx0
import Derived.Test.YtjlhehaagaaihaaDoorPx2
import Derived.Test.YtjlhehaagaaihaaDoorPx3
import Derived.Test.YtjlhehaagaaihaaDoorPx16
import Derived.Test.YtjlhehaagaaihaaDoorEe
namespace Go.Proofs.YtjlhehaagaaihaaDoor.P
open Go.RowKit Go.Proofs.YtjlhehaagaaihaaDoorW.PrintWords Go.Proofs.YtjlhehaagaaihaaDoorW.PrintLast Go.Proofs.YtjlhehaagaaihaaDoorW.PrintMore
attribute [local go_sem] max2_int min2_int max_two min_two max_three min_three max_four min_four   -- for this text's walks alone
set_option linter.unusedVariables false
set_option linter.unusedSimpArgs false

/-! ### gessolaw01_CodeCodes: function 14 -/
def gessolaw01_CodeCodes.f (k : Nat) (l0 : List Int) : Option (Bool) := (some (([] : List Int) : List Int)).bind fun y366 => (if y366.length + l0.length < 140737488355328 then ((some (y366 ++ l0 : List Int)).bind fun y369 => ((code_Codes.f y369).bind fun bt372 => ((gessoref01_Codes.f k l0).bind fun bt376 => ((gessoref01_Same.f k bt372.1 bt376.1).bind fun t380 => (if t380 = true then (if bt372.2 = bt376.2 then (if (strOfNums y369).toList = (strOfNums l0).toList then ((gessolaw01_awake.f k).bind fun t381 => (some t381)) else (none)) else (none)) else (none)))))) else (none))
theorem gessolaw01_CodeCodes.mono : ∀ a0 k, LeO (gessolaw01_CodeCodes.f k a0) (gessolaw01_CodeCodes.f (k + 1) a0) := by
  intro a0 k
  unfold gessolaw01_CodeCodes.f
  repeat' first
      | (with_reducible exact gessolaw01_awake.mono _)
      | (with_reducible exact gessoref01_Codes.mono _ _)
      | (with_reducible exact gessoref01_Same.mono _ _ _)
      | (with_reducible exact LeO.refl _)
      | (with_reducible exact LeO.none _)
      | (with_reducible refine LeO.ite ?_ ?_)
      | (with_reducible refine LeO.bind ?_ (fun _ => ?_))
      | exact gessolaw01_awake.mono _
      | exact gessoref01_Codes.mono _ _
      | exact gessoref01_Same.mono _ _ _
      | exact LeO.none _
      | refine LeO.ite ?_ ?_
      | refine LeO.bind ?_ (fun _ => ?_)
set_option maxHeartbeats 8000000 in
set_option maxRecDepth 100000 in
theorem gessolaw01_CodeCodes.calls (k : Nat) (A0 : Option Addr) (c0 : Nat) (l0 : List Int) (r : Bool) (w : World) (HTb_ : Aside0 (Tabs w)) (hr0 : Kd.C (Kd.int .u8) w A0 l0.length l0) (hc0 : l0.length ≤ c0) (h : gessolaw01_CodeCodes.f k l0 = some r) :
    Calls Tryd.prog 14 #[.slice A0 l0.length c0] w fun e w' => e = .returned (.bool r) ∧ Below w.heap.size w w' := by
  have HR0 := Aside0.mk hr0
  have HC0 := Aside0.mk hc0
  clear hr0 hc0
  have HB := Aside0.mk (Below.refl w.heap.size w)
  have H : ((some (([] : List Int) : List Int)).bind fun y366 => (if y366.length + l0.length < 140737488355328 then ((some (y366 ++ l0 : List Int)).bind fun y369 => ((code_Codes.f y369).bind fun bt372 => ((gessoref01_Codes.f k l0).bind fun bt376 => ((gessoref01_Same.f k bt372.1 bt376.1).bind fun t380 => (if t380 = true then (if bt372.2 = bt376.2 then (if (strOfNums y369).toList = (strOfNums l0).toList then ((gessolaw01_awake.f k).bind fun t381 => (some t381)) else (none)) else (none)) else (none)))))) else (none))) = some r := h
  clear h
  obtain ⟨y366, hy366⟩ : ∃ y_ : List Int, y_ = (([] : List Int)) := ⟨_, rfl⟩
  replace H : (if y366.length + l0.length < 140737488355328 then ((some (y366 ++ l0 : List Int)).bind fun y369 => ((code_Codes.f y369).bind fun bt372 => ((gessoref01_Codes.f k l0).bind fun bt376 => ((gessoref01_Same.f k bt372.1 bt376.1).bind fun t380 => (if t380 = true then (if bt372.2 = bt376.2 then (if (strOfNums y369).toList = (strOfNums l0).toList then ((gessolaw01_awake.f k).bind fun t381 => (some t381)) else (none)) else (none)) else (none)))))) else (none)) = some r := by first | (rw [hy366]; with_reducible exact H) | (have H2_ := (Option.bind_some _ _).symm.trans H; rw [hy366]; with_reducible exact H2_) | (have H2_ := (Option.bind_some _ _).symm.trans H; with_reducible exact H2_) | with_reducible exact H | (rw [hy366]; exact H) | exact H
  have Ny366 := Aside0.mk hy366
  clear hy366
  by_cases c2 : y366.length + l0.length < 140737488355328
  · rw [if_pos c2] at H
    have LMc2 := Aside0.mk c2
    clear c2
    obtain ⟨y369, hy369⟩ : ∃ y_ : List Int, y_ = (y366 ++ l0) := ⟨_, rfl⟩
    replace H : ((code_Codes.f y369).bind fun bt372 => ((gessoref01_Codes.f k l0).bind fun bt376 => ((gessoref01_Same.f k bt372.1 bt376.1).bind fun t380 => (if t380 = true then (if bt372.2 = bt376.2 then (if (strOfNums y369).toList = (strOfNums l0).toList then ((gessolaw01_awake.f k).bind fun t381 => (some t381)) else (none)) else (none)) else (none))))) = some r := by first | (rw [hy369]; with_reducible exact H) | (have H2_ := (Option.bind_some _ _).symm.trans H; rw [hy369]; with_reducible exact H2_) | (have H2_ := (Option.bind_some _ _).symm.trans H; with_reducible exact H2_) | with_reducible exact H | (rw [hy369]; exact H) | exact H
    have Ny369 := Aside0.mk hy369
    clear hy369
    replace H := Option.bind_eq_some_iff.mp H
    obtain ⟨⟨t372, t373⟩, A30, H⟩ := H
    replace H : ((gessoref01_Codes.f k l0).bind fun bt376 => ((gessoref01_Same.f k t372 bt376.1).bind fun t380 => (if t380 = true then (if t373 = bt376.2 then (if (strOfNums y369).toList = (strOfNums l0).toList then ((gessolaw01_awake.f k).bind fun t381 => (some t381)) else (none)) else (none)) else (none)))) = some r := H
    have A3 := Aside0.mk A30
    clear A30
    replace H := Option.bind_eq_some_iff.mp H
    obtain ⟨⟨t376, t379⟩, A40, H⟩ := H
    replace H : ((gessoref01_Same.f k t372 t376).bind fun t380 => (if t380 = true then (if t373 = t379 then (if (strOfNums y369).toList = (strOfNums l0).toList then ((gessolaw01_awake.f k).bind fun t381 => (some t381)) else (none)) else (none)) else (none))) = some r := H
    have A4 := Aside0.mk A40
    clear A40
    replace H := Option.bind_eq_some_iff.mp H
    obtain ⟨t380, A50, H⟩ := H
    replace H : (if t380 = true then (if t373 = t379 then (if (strOfNums y369).toList = (strOfNums l0).toList then ((gessolaw01_awake.f k).bind fun t381 => (some t381)) else (none)) else (none)) else (none)) = some r := H
    have A5 := Aside0.mk A50
    clear A50
    by_cases c6 : t380 = true
    · subst c6
      have H1 : (if t373 = t379 then (if (strOfNums y369).toList = (strOfNums l0).toList then ((gessolaw01_awake.f k).bind fun t381 => (some t381)) else (none)) else (none)) = some r := by rw [if_pos rfl] at H; exact H
      clear H
      have H := H1
      clear H1
      by_cases c7 : t373 = t379
      · rw [if_pos c7] at H
        have c7b0 : (t373 == t379) = true := beq_iff_eq.mpr c7
        have c7b1 : (t373 != t379) = false := bne_eq_false_iff_eq.mpr c7
        clear c7
        by_cases c8 : (strOfNums y369).toList = (strOfNums l0).toList
        · rw [if_pos c8] at H
          have c8b0 : ((strOfNums y369).toList == (strOfNums l0).toList) = true := beq_iff_eq.mpr c8
          have c8b1 : ((strOfNums y369).toList != (strOfNums l0).toList) = false := bne_eq_false_iff_eq.mpr c8
          clear c8
          replace H := Option.bind_eq_some_iff.mp H
          obtain ⟨t381, A90, H⟩ := H
          replace H : (some t381) = some r := H
          have A9 := Aside0.mk A90
          clear A90
          obtain rfl := Option.some.inj H
          go_enter Tryd.func14, Tryd.ntmps14
          go_wp2_with (first | ((with_reducible refine gate_dst (N := 8) rfl ?_); refine Kd.R_lit (Kd.int .u8) _ 5 ?hg (N := 8) ?hd (xs := ([] : List Int)) (inner := []) (ok := fun _ => True) (okp := fun _ => True) ?hr ?hp (fun _ hk => hk) trivial (Below.refl _ _) (Nat.le_refl _) (by simp) ?_; (case hd => rfl); (case hg => rfl); (case hr => first | (go_simp; done) | (go_simp; rfl)); (case hp => exact (Reps.none _ _)); intro v367 w10 ho11 hb hg_ hnew_; clear hg_ hnew_; (first | rw [← Ny366.out] at ho11 | (simp only [Int.reduceToNat] at ho11; rw [← Ny366.out] at ho11)); have n0_ := Aside0.mk (Kd.R_lower ho11 (below_size (by repeat (first | (with_reducible first | exact HB.out | apply below_alloc | apply pw_below_drewN | apply below_drew1) | exact HB.out)))); have n1_ := Aside0.mk (below_step (by repeat (first | (with_reducible first | exact HB.out | apply below_alloc | apply pw_below_drewN | apply below_drew1) | exact HB.out)) hb); clear HB; have HO368 := n0_; have HB := n1_; clear n0_ n1_; clear hb ho11) | ((with_reducible refine gate_builtin (b := .append) (xs := #[.tmp 8, .tmp 9]) rfl ?_); at_builtin; refine Kd.R_append_rows (Kd.int .u8) (w0 := w) w.heap.size rfl (.tmp 8) (.tmp 9) 23 5 (.int .u8 0) 1 rfl Tryd.underlying23 info5 rfl (by decide) (by omega) v367 y366 l0 _ _ _ (fun _ => True) (fun _ => False) rfl rfl ?aO ?aR (fun _ _ h => h) (fun _ h => h.elim) ?aF ?aB ?aS ?aL ?_; (case aR => repeat (first | exact (Kd.C_below HR0.out HB.out) | (with_reducible refine Kd.C_alloc ?_ _) | (with_reducible refine Kd.C_drewN ?_ _) | (with_reducible refine Kd.C_drew ?_))); (case aB => exact (by repeat (first | (with_reducible first | exact HB.out | apply below_alloc | apply pw_below_drewN | apply below_drew1) | exact HB.out))); (case aF => exact (fun _ _ => trivial)); (case aO => exact (by (with_reducible repeat (first | apply Kd.R_alloc | apply Kd.R_drewN | apply Kd.R_drew)); exact HO368.out)); (case aS => exact (below_size (by repeat (first | (with_reducible first | exact HB.out | apply below_alloc | apply pw_below_drewN | apply below_drew1) | exact HB.out)))); (case aL => have := LMc2.out; omega); intro v370 w12 ho hb hg hat; rw [← Ny369.out] at ho; have n0_ := Aside0.mk (hb); have n1_ := Aside0.mk (ho); clear HB; clear HO368; have HB := n0_; have HO371 := n1_; clear n0_ n1_; clear ho hb hg hat; obtain ⟨Ao13, co13, eo13⟩ := Kd.R_slice HO371.out; subst eo13) | ((with_reducible refine gate_callee (f := 18) rfl ?_); refine goesL_ (some 13) rfl rfl Tryd.func18 (by kernel_rfl) rfl #[.slice Ao13 y369.length co13] rfl (by (try simp only [List.map_toArray, List.map_cons, List.map_nil]); first | done | rfl | (simp only [List.length_drop, List.length_take]; rfl)) ?_; (with_reducible refine (code_Codes.calls _ _ y369 t372 t373 _ ?sideT ?side1 ?side2 A3.out).mono ?_); (case sideT => first | exact ⟨HTb_.out.below (by repeat (first | (with_reducible first | exact HB.out | apply below_alloc | apply pw_below_drewN | apply below_drew1) | exact HB.out))⟩ | exact ⟨HTb_.out.drawn (by repeat (first | exact Drawn0.refl _ | apply Drawn0.step))⟩ | exact ⟨HTb_.out.below (Drawn0.below (by repeat (first | exact Drawn0.refl _ | apply Drawn0.step)))⟩); (case side1 => repeat (first | exact (Kd.R_reads' HO371.out).2.2 | (with_reducible refine Kd.C_alloc ?_ _) | (with_reducible refine Kd.C_drewN ?_ _) | (with_reducible refine Kd.C_drew ?_))); (case side2 => exact (Kd.R_reads' HO371.out).2.1); rintro e w14 ⟨v374, rfl, ho0, hb⟩; refine ⟨_, rfl, ?_⟩; have n0_ := Aside0.mk (Kd.R_below (by (with_reducible repeat (first | apply Kd.R_alloc | apply Kd.R_drewN | apply Kd.R_drew)); exact HO371.out) hb); have n1_ := Aside0.mk (Kd.R_lower ho0 (below_size (by repeat (first | (with_reducible first | exact HB.out | apply below_alloc | apply pw_below_drewN | apply below_drew1) | exact HB.out)))); have n2_ := Aside0.mk (below_step (by repeat (first | (with_reducible first | exact HB.out | apply below_alloc | apply pw_below_drewN | apply below_drew1) | exact HB.out)) hb); clear HO371; clear HB; have HO371 := n0_; have HO375 := n1_; have HB := n2_; clear n0_ n1_ n2_; (try clear hb); (try clear hb2); (try clear hk); (try clear hi); (try clear ho0)) | ((with_reducible refine gate_callee (f := 41) rfl ?_); refine goesL_ (some 18) rfl rfl Tryd.func41 (by kernel_rfl) rfl #[.slice A0 l0.length c0] rfl (by (try simp only [List.map_toArray, List.map_cons, List.map_nil]); first | done | rfl | (simp only [List.length_drop, List.length_take]; rfl)) ?_; (with_reducible refine (gessoref01_Codes.calls k (fun k_ => k_ < w.heap.size) _ _ l0 t376 t379 _ ?side1 A4.out).mono ?_); (case side1 => exact Kd.V_mk HC0.out (Kd.F_below (Kd.C_F (Kd.heap_int .u8) HR0.out) (by repeat (first | (with_reducible first | exact HB.out | apply below_alloc | apply pw_below_drewN | apply below_drew1) | exact HB.out)))); rintro e w15 ⟨v377, rfl, ho0, hb⟩; refine ⟨_, rfl, ?_⟩; have n0_ := Aside0.mk (Kd.R_below (by (with_reducible repeat (first | apply Kd.R_alloc | apply Kd.R_drewN | apply Kd.R_drew)); exact HO371.out) hb); have n1_ := Aside0.mk (Kd.R_elder' (by (with_reducible repeat (first | apply Kd.R_alloc | apply Kd.R_drewN | apply Kd.R_drew)); exact HO375.out) (Kd.R_base ho0) hb); have n2_ := Aside0.mk (Kd.R_lower (Kd.R_new' (Kd.R_mono (ok' := fun k_ => True) ho0 (fun _ hk_ => trivial)) (Kd.R_lt (by (with_reducible repeat (first | apply Kd.R_alloc | apply Kd.R_drewN | apply Kd.R_drew)); exact HO375.out))) (below_size (by repeat (first | (with_reducible first | exact HB.out | apply below_alloc | apply pw_below_drewN | apply below_drew1) | exact HB.out)))); have n3_ := Aside0.mk (below_step (by repeat (first | (with_reducible first | exact HB.out | apply below_alloc | apply pw_below_drewN | apply below_drew1) | exact HB.out)) hb); clear HO371; clear HO375; clear HB; have HO371 := n0_; have HO375 := n1_; have HO378 := n2_; have HB := n3_; clear n0_ n1_ n2_ n3_; (try clear hb); (try clear hb2); (try clear hk); (try clear hi); (try clear ho0); obtain ⟨Ao16, co16, eo16⟩ := Kd.R_slice HO375.out; subst eo16; obtain ⟨Ao17, co17, eo17⟩ := Kd.R_slice HO378.out; subst eo17) | ((with_reducible refine gate_callee (f := 19) rfl ?_); refine goesL_ (some 23) rfl rfl Tryd.func19 (by kernel_rfl) rfl #[.slice Ao16 t372.length co16, .slice Ao17 t376.length co17] rfl (by (try simp only [List.map_toArray, List.map_cons, List.map_nil]); first | done | rfl | (simp only [List.length_drop, List.length_take]; rfl)) ?_; (with_reducible refine (gessoref01_Same.calls k _ _ t372 _ _ t376 true _ ?side1 ?side2 ?side3 ?side4 A5.out).mono ?_); (case side1 => repeat (first | exact (Kd.R_reads' HO375.out).2.2 | (with_reducible refine Kd.C_alloc ?_ _) | (with_reducible refine Kd.C_drewN ?_ _) | (with_reducible refine Kd.C_drew ?_))); (case side2 => exact (Kd.R_reads' HO375.out).2.1); (case side3 => repeat (first | exact (Kd.R_reads' HO378.out).2.2 | (with_reducible refine Kd.C_alloc ?_ _) | (with_reducible refine Kd.C_drewN ?_ _) | (with_reducible refine Kd.C_drew ?_))); (case side4 => exact (Kd.R_reads' HO378.out).2.1); rintro e w' ⟨rfl, ⟨nd, rfl⟩⟩; refine ⟨_, rfl, ?_⟩; have hcv18 := own_string (P := Tryd.prog) Tryd.underlying23 Tryd.underlying5 Tryd.underlying9 (Kd.own_of_R HO371.out); have hcv18d := fun m_ => own_string (P := Tryd.prog) Tryd.underlying23 Tryd.underlying5 Tryd.underlying9 (Kd.own_of_R (Kd.R_drewN HO371.out m_)); have hcv19 := Kd.C_string (P := Tryd.prog) (A := A0) (c := c0) Tryd.underlying23 Tryd.underlying5 Tryd.underlying9 (Kd.C_below HR0.out HB.out); have hcv19d := fun m_ => Kd.C_string (P := Tryd.prog) (A := A0) (c := c0) Tryd.underlying23 Tryd.underlying5 Tryd.underlying9 (Kd.C_drewN (Kd.C_below HR0.out HB.out) m_)) | (go_at_call 21; (with_reducible refine (gessolaw01_awake.calls k  t381 _ ?sideT A9.out).mono ?_); (case sideT => first | exact ⟨HTb_.out.below (by repeat (first | (with_reducible first | exact HB.out | apply below_alloc | apply pw_below_drewN | apply below_drew1) | exact HB.out))⟩ | exact ⟨HTb_.out.drawn (by repeat (first | exact Drawn0.refl _ | apply Drawn0.step))⟩ | exact ⟨HTb_.out.below (Drawn0.below (by repeat (first | exact Drawn0.refl _ | apply Drawn0.step)))⟩); rintro e w20 ⟨rfl, hb⟩; have n0_ := Aside0.mk (Kd.R_below (by (with_reducible repeat (first | apply Kd.R_alloc | apply Kd.R_drewN | apply Kd.R_drew)); exact HO371.out) hb); have n1_ := Aside0.mk (Kd.R_below (by (with_reducible repeat (first | apply Kd.R_alloc | apply Kd.R_drewN | apply Kd.R_drew)); exact HO375.out) hb); have n2_ := Aside0.mk (Kd.R_below (by (with_reducible repeat (first | apply Kd.R_alloc | apply Kd.R_drewN | apply Kd.R_drew)); exact HO378.out) hb); have n3_ := Aside0.mk (below_step (by repeat (first | (with_reducible first | exact HB.out | apply below_alloc | apply pw_below_drewN | apply below_drew1) | exact HB.out)) hb); clear HO371; clear HO375; clear HO378; clear HB; have HO371 := n0_; have HO375 := n1_; have HO378 := n2_; have HB := n3_; clear n0_ n1_ n2_ n3_; (try clear hb); (try clear hb2); (try clear hk); (try clear hi)))
          go_ret
          exact ⟨by first | rfl | (simp [errW_none, errW_some] <;> rfl) | (simp [*, errW_none, errW_some] <;> rfl), by repeat (first | (with_reducible first | exact HB.out | apply below_alloc | apply pw_below_drewN | apply below_drew1) | exact HB.out)⟩
        · rw [if_neg c8] at H
          exact absurd H (by simp)
      · rw [if_neg c7] at H
        exact absurd H (by simp)
    · replace c6 := Bool.eq_false_iff.mpr c6
      subst c6
      have H1 : (none) = some r := by rw [if_neg (show ¬ (false = true) by decide)] at H; exact H
      clear H
      have H := H1
      clear H1
      exact absurd H (by simp)
  · rw [if_neg c2] at H
    exact absurd H (by simp)

/-- THE ONE PURE STATEMENT of gessolaw01_CodeCodes: yours. -/
def gessolaw01_CodeCodes.Pure : Prop := ∀ (l0 : List Int), l0.length ≤ maxLen → l0.length * 1 ≤ 140737488351232 → (∀ x ∈ l0, (Lit.int .u8 x).wf = true) → ∃ k, gessolaw01_CodeCodes.f k l0 = some true
theorem gessolaw01_CodeCodes.walk (P : gessolaw01_CodeCodes.Pure) (a0 : Option Addr) (len0 cap0 : Nat) (z0 : List Int) (w : World) (HTb_ : Aside0 (Tabs w)) (w0 : (a0 = none ∧ len0 = 0 ∧ cap0 = 0 ∧ z0 = []) ∨ ∃ x, a0 = some x ∧ len0 ≤ cap0 ∧ cap0 ≤ maxLen ∧ z0.length = cap0 ∧ (∀ i, i < z0.length → w.cell? (x.add i) = some (.int .u8 (z0.getD i 0))) ∧ ∀ n ∈ z0, (Lit.int .u8 n).wf = true) (y0 : len0 * 1 ≤ 140737488351232) :
    Calls Tryd.prog 14 #[.slice a0 len0 cap0] w fun e w' => e = .returned (.bool true) ∧ Below w.heap.size w w' := by
  obtain ⟨l0, rfl, hr0, hm0, hw0, hc0⟩ := ReadsInt.ofRowC w0
  obtain ⟨k, h⟩ := P l0 hm0 y0 hw0
  refine (gessolaw01_CodeCodes.calls k _ _ l0 true w HTb_ (Kd.C_of_reads (d := (0 : Int)) (h1 := fun _ => rfl) hr0) hc0 h).mono ?_
  rintro e w' ⟨rfl, hd⟩
  exact ⟨rfl, hd⟩

end Go.Proofs.YtjlhehaagaaihaaDoor.P
