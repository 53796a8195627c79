/- Functions of the translated program as plain Lean functions, and proofs that their calls come to these. Written by a program of the session. No condition. -/
import Derived.Test.YtjlhehaagaaihaaDoorPx0
import Derived.Test.YtjlhehaagaaihaaDoorPx5
import Derived.Test.YtjlhehaagaaihaaDoorPx7
import Derived.Test.YtjlhehaagaaihaaDoorPx11
import Derived.Test.YtjlhehaagaaihaaDoorPx23
namespace Go.Proofs.YtjlhehaagaaihaaDoor.P
open Go.RowKit Go.Proofs.YtjlhehaagaaihaaDoorW.PrintWords Go.Proofs.YtjlhehaagaaihaaDoorW.PrintLast Go.Proofs.YtjlhehaagaaihaaDoorW.PrintMore
attribute [local go_sem] max2_int min2_int max_two min_two max_three min_three max_four min_four   -- for this text's walks alone
set_option linter.unusedVariables false
set_option linter.unusedSimpArgs false

/-! ### gessolaw01_CodeBytes: function 9 -/
def gessolaw01_CodeBytes.f (k : Nat) (l0 : List Int) : Option (Bool) := (some (([] : List Int) : List Int)).bind fun y296 => (if y296.length + l0.length < 35184372088832 then ((some (y296 ++ l0 : List Int)).bind fun y299 => ((code_Bytes.f k y299).bind fun bt302 => ((gessoref01_Bytes.f k l0).bind fun bt306 => (if (strOfNums bt302.1).toList = (strOfNums bt306.1).toList then (if bt302.2 = bt306.2 then ((gessoref01_Same.f k y299 l0).bind fun t310 => (if t310 = true then ((gessolaw01_awake.f k).bind fun t311 => (some t311)) else (none))) else (none)) else (none))))) else (none))
theorem gessolaw01_CodeBytes.mono : ∀ a0 k, LeO (gessolaw01_CodeBytes.f k a0) (gessolaw01_CodeBytes.f (k + 1) a0) := by
  intro a0 k
  unfold gessolaw01_CodeBytes.f
  repeat' first
      | (with_reducible exact code_Bytes.mono _ _)
      | (with_reducible exact gessolaw01_awake.mono _)
      | (with_reducible exact gessoref01_Bytes.mono _ _)
      | (with_reducible exact gessoref01_Same.mono _ _ _)
      | (with_reducible exact LeO.refl _)
      | (with_reducible exact LeO.none _)
      | (with_reducible refine LeO.ite ?_ ?_)
      | (with_reducible refine LeO.bind ?_ (fun _ => ?_))
      | exact code_Bytes.mono _ _
      | exact gessolaw01_awake.mono _
      | exact gessoref01_Bytes.mono _ _
      | exact gessoref01_Same.mono _ _ _
      | exact LeO.none _
      | refine LeO.ite ?_ ?_
      | refine LeO.bind ?_ (fun _ => ?_)
set_option maxHeartbeats 8000000 in
set_option maxRecDepth 100000 in
theorem gessolaw01_CodeBytes.calls (k : Nat) (A0 : Option Addr) (c0 : Nat) (l0 : List Int) (r : Bool) (w : World) (HTb_ : Aside0 (Tabs w)) (hr0 : Kd.C (Kd.int .u32) w A0 l0.length l0) (hc0 : l0.length ≤ c0) (h : gessolaw01_CodeBytes.f k l0 = some r) :
    Calls Tryd.prog 9 #[.slice A0 l0.length c0] w fun e w' => e = .returned (.bool r) ∧ Below w.heap.size w w' := by
  have HR0 := Aside0.mk hr0
  have HC0 := Aside0.mk hc0
  clear hr0 hc0
  have HB := Aside0.mk (Below.refl w.heap.size w)
  have H : ((some (([] : List Int) : List Int)).bind fun y296 => (if y296.length + l0.length < 35184372088832 then ((some (y296 ++ l0 : List Int)).bind fun y299 => ((code_Bytes.f k y299).bind fun bt302 => ((gessoref01_Bytes.f k l0).bind fun bt306 => (if (strOfNums bt302.1).toList = (strOfNums bt306.1).toList then (if bt302.2 = bt306.2 then ((gessoref01_Same.f k y299 l0).bind fun t310 => (if t310 = true then ((gessolaw01_awake.f k).bind fun t311 => (some t311)) else (none))) else (none)) else (none))))) else (none))) = some r := h
  clear h
  obtain ⟨y296, hy296⟩ : ∃ y_ : List Int, y_ = (([] : List Int)) := ⟨_, rfl⟩
  replace H : (if y296.length + l0.length < 35184372088832 then ((some (y296 ++ l0 : List Int)).bind fun y299 => ((code_Bytes.f k y299).bind fun bt302 => ((gessoref01_Bytes.f k l0).bind fun bt306 => (if (strOfNums bt302.1).toList = (strOfNums bt306.1).toList then (if bt302.2 = bt306.2 then ((gessoref01_Same.f k y299 l0).bind fun t310 => (if t310 = true then ((gessolaw01_awake.f k).bind fun t311 => (some t311)) else (none))) else (none)) else (none))))) else (none)) = some r := by first | (rw [hy296]; with_reducible exact H) | (have H2_ := (Option.bind_some _ _).symm.trans H; rw [hy296]; with_reducible exact H2_) | (have H2_ := (Option.bind_some _ _).symm.trans H; with_reducible exact H2_) | with_reducible exact H | (rw [hy296]; exact H) | exact H
  have Ny296 := Aside0.mk hy296
  clear hy296
  by_cases c2 : y296.length + l0.length < 35184372088832
  · rw [if_pos c2] at H
    have LMc2 := Aside0.mk c2
    clear c2
    obtain ⟨y299, hy299⟩ : ∃ y_ : List Int, y_ = (y296 ++ l0) := ⟨_, rfl⟩
    replace H : ((code_Bytes.f k y299).bind fun bt302 => ((gessoref01_Bytes.f k l0).bind fun bt306 => (if (strOfNums bt302.1).toList = (strOfNums bt306.1).toList then (if bt302.2 = bt306.2 then ((gessoref01_Same.f k y299 l0).bind fun t310 => (if t310 = true then ((gessolaw01_awake.f k).bind fun t311 => (some t311)) else (none))) else (none)) else (none)))) = some r := by first | (rw [hy299]; with_reducible exact H) | (have H2_ := (Option.bind_some _ _).symm.trans H; rw [hy299]; with_reducible exact H2_) | (have H2_ := (Option.bind_some _ _).symm.trans H; with_reducible exact H2_) | with_reducible exact H | (rw [hy299]; exact H) | exact H
    have Ny299 := Aside0.mk hy299
    clear hy299
    replace H := Option.bind_eq_some_iff.mp H
    obtain ⟨⟨t302, t303⟩, A30, H⟩ := H
    replace H : ((gessoref01_Bytes.f k l0).bind fun bt306 => (if (strOfNums t302).toList = (strOfNums bt306.1).toList then (if t303 = bt306.2 then ((gessoref01_Same.f k y299 l0).bind fun t310 => (if t310 = true then ((gessolaw01_awake.f k).bind fun t311 => (some t311)) else (none))) else (none)) else (none))) = some r := H
    have A3 := Aside0.mk A30
    clear A30
    replace H := Option.bind_eq_some_iff.mp H
    obtain ⟨⟨t306, t307⟩, A40, H⟩ := H
    replace H : (if (strOfNums t302).toList = (strOfNums t306).toList then (if t303 = t307 then ((gessoref01_Same.f k y299 l0).bind fun t310 => (if t310 = true then ((gessolaw01_awake.f k).bind fun t311 => (some t311)) else (none))) else (none)) else (none)) = some r := H
    have A4 := Aside0.mk A40
    clear A40
    by_cases c5 : (strOfNums t302).toList = (strOfNums t306).toList
    · rw [if_pos c5] at H
      have c5b0 : ((strOfNums t302).toList == (strOfNums t306).toList) = true := beq_iff_eq.mpr c5
      have c5b1 : ((strOfNums t302).toList != (strOfNums t306).toList) = false := bne_eq_false_iff_eq.mpr c5
      clear c5
      by_cases c6 : t303 = t307
      · rw [if_pos c6] at H
        have c6b0 : (t303 == t307) = true := beq_iff_eq.mpr c6
        have c6b1 : (t303 != t307) = false := bne_eq_false_iff_eq.mpr c6
        clear c6
        replace H := Option.bind_eq_some_iff.mp H
        obtain ⟨t310, A70, H⟩ := H
        replace H : (if t310 = true then ((gessolaw01_awake.f k).bind fun t311 => (some t311)) else (none)) = some r := H
        have A7 := Aside0.mk A70
        clear A70
        by_cases c8 : t310 = true
        · subst c8
          have H1 : ((gessolaw01_awake.f k).bind fun t311 => (some t311)) = some r := by rw [if_pos rfl] at H; exact H
          clear H
          have H := H1
          clear H1
          replace H := Option.bind_eq_some_iff.mp H
          obtain ⟨t311, A90, H⟩ := H
          replace H : (some t311) = some r := H
          have A9 := Aside0.mk A90
          clear A90
          obtain rfl := Option.some.inj H
          go_enter Tryd.func9, Tryd.ntmps9
          go_wp2_with (first | ((with_reducible refine gate_dst (N := 8) rfl ?_); refine Kd.R_lit (Kd.int .u32) _ 35 ?hg (N := 8) ?hd (xs := ([] : List Int)) (inner := []) (ok := fun _ => True) (okp := fun _ => True) ?hr ?hp (fun _ hk => hk) trivial (Below.refl _ _) (Nat.le_refl _) (by simp) ?_; (case hd => rfl); (case hg => rfl); (case hr => first | (go_simp; done) | (go_simp; rfl)); (case hp => exact (Reps.none _ _)); intro v297 w10 ho11 hb hg_ hnew_; clear hg_ hnew_; (first | rw [← Ny296.out] at ho11 | (simp only [Int.reduceToNat] at ho11; rw [← Ny296.out] at ho11)); have n0_ := Aside0.mk (Kd.R_lower ho11 (below_size (by repeat (first | (with_reducible first | exact HB.out | apply below_alloc | apply pw_below_drewN | apply below_drew1) | exact HB.out)))); have n1_ := Aside0.mk (below_step (by repeat (first | (with_reducible first | exact HB.out | apply below_alloc | apply pw_below_drewN | apply below_drew1) | exact HB.out)) hb); clear HB; have HO298 := n0_; have HB := n1_; clear n0_ n1_; clear hb ho11) | ((with_reducible refine gate_builtin (b := .append) (xs := #[.tmp 8, .tmp 9]) rfl ?_); at_builtin; refine Kd.R_append_rows (Kd.int .u32) (w0 := w) w.heap.size rfl (.tmp 8) (.tmp 9) 22 35 (.int .u32 0) 4 rfl Tryd.underlying22 info35 rfl (by decide) (by omega) v297 y296 l0 _ _ _ (fun _ => True) (fun _ => False) rfl rfl ?aO ?aR (fun _ _ h => h) (fun _ h => h.elim) ?aF ?aB ?aS ?aL ?_; (case aR => repeat (first | exact (Kd.C_below HR0.out HB.out) | (with_reducible refine Kd.C_alloc ?_ _) | (with_reducible refine Kd.C_drewN ?_ _) | (with_reducible refine Kd.C_drew ?_))); (case aB => exact (by repeat (first | (with_reducible first | exact HB.out | apply below_alloc | apply pw_below_drewN | apply below_drew1) | exact HB.out))); (case aF => exact (fun _ _ => trivial)); (case aO => exact (by (with_reducible repeat (first | apply Kd.R_alloc | apply Kd.R_drewN | apply Kd.R_drew)); exact HO298.out)); (case aS => exact (below_size (by repeat (first | (with_reducible first | exact HB.out | apply below_alloc | apply pw_below_drewN | apply below_drew1) | exact HB.out)))); (case aL => have := LMc2.out; omega); intro v300 w12 ho hb hg hat; rw [← Ny299.out] at ho; have n0_ := Aside0.mk (hb); have n1_ := Aside0.mk (ho); clear HB; clear HO298; have HB := n0_; have HO301 := n1_; clear n0_ n1_; clear ho hb hg hat; obtain ⟨Ao13, co13, eo13⟩ := Kd.R_slice HO301.out; subst eo13) | ((with_reducible refine gate_callee (f := 17) rfl ?_); refine goesL_ (some 13) rfl rfl Tryd.func17 (by kernel_rfl) rfl #[.slice Ao13 y299.length co13] rfl (by (try simp only [List.map_toArray, List.map_cons, List.map_nil]); first | done | rfl | (simp only [List.length_drop, List.length_take]; rfl)) ?_; (with_reducible refine (code_Bytes.calls k _ _ y299 t302 t303 _ ?side1 ?side2 A3.out).mono ?_); (case side1 => repeat (first | exact (Kd.R_reads' HO301.out).2.2 | (with_reducible refine Kd.C_alloc ?_ _) | (with_reducible refine Kd.C_drewN ?_ _) | (with_reducible refine Kd.C_drew ?_))); (case side2 => exact (Kd.R_reads' HO301.out).2.1); rintro e w14 ⟨v304, rfl, ho0, hb⟩; refine ⟨_, rfl, ?_⟩; have n0_ := Aside0.mk (Kd.R_below (by (with_reducible repeat (first | apply Kd.R_alloc | apply Kd.R_drewN | apply Kd.R_drew)); exact HO301.out) hb); have n1_ := Aside0.mk (Kd.R_lower ho0 (below_size (by repeat (first | (with_reducible first | exact HB.out | apply below_alloc | apply pw_below_drewN | apply below_drew1) | exact HB.out)))); have n2_ := Aside0.mk (below_step (by repeat (first | (with_reducible first | exact HB.out | apply below_alloc | apply pw_below_drewN | apply below_drew1) | exact HB.out)) hb); clear HO301; clear HB; have HO301 := n0_; have HO305 := n1_; have HB := n2_; clear n0_ n1_ n2_; (try clear hb); (try clear hb2); (try clear hk); (try clear hi); (try clear ho0)) | ((with_reducible refine gate_callee (f := 30) rfl ?_); refine goesL_ (some 18) rfl rfl Tryd.func30 (by kernel_rfl) rfl #[.slice A0 l0.length c0] rfl (by (try simp only [List.map_toArray, List.map_cons, List.map_nil]); first | done | rfl | (simp only [List.length_drop, List.length_take]; rfl)) ?_; (with_reducible refine (gessoref01_Bytes.calls k _ _ l0 t306 t307 _ ?side1 ?side2 A4.out).mono ?_); (case side1 => repeat (first | exact (Kd.C_below HR0.out HB.out) | (with_reducible refine Kd.C_alloc ?_ _) | (with_reducible refine Kd.C_drewN ?_ _) | (with_reducible refine Kd.C_drew ?_))); (case side2 => exact HC0.out); rintro e w15 ⟨v308, rfl, ho0, hb⟩; refine ⟨_, rfl, ?_⟩; have n0_ := Aside0.mk (Kd.R_below (by (with_reducible repeat (first | apply Kd.R_alloc | apply Kd.R_drewN | apply Kd.R_drew)); exact HO301.out) hb); have n1_ := Aside0.mk (Kd.R_elder' (by (with_reducible repeat (first | apply Kd.R_alloc | apply Kd.R_drewN | apply Kd.R_drew)); exact HO305.out) (Kd.R_base ho0) hb); have n2_ := Aside0.mk (Kd.R_lower (Kd.R_new' ho0 (Kd.R_lt (by (with_reducible repeat (first | apply Kd.R_alloc | apply Kd.R_drewN | apply Kd.R_drew)); exact HO305.out))) (below_size (by repeat (first | (with_reducible first | exact HB.out | apply below_alloc | apply pw_below_drewN | apply below_drew1) | exact HB.out)))); have n3_ := Aside0.mk (below_step (by repeat (first | (with_reducible first | exact HB.out | apply below_alloc | apply pw_below_drewN | apply below_drew1) | exact HB.out)) hb); clear HO301; clear HO305; clear HB; have HO301 := n0_; have HO305 := n1_; have HO309 := n2_; have HB := n3_; clear n0_ n1_ n2_ n3_; (try clear hb); (try clear hb2); (try clear hk); (try clear hi); (try clear ho0); have hcv16 := own_string (P := Tryd.prog) Tryd.underlying23 Tryd.underlying5 Tryd.underlying9 (Kd.own_of_R HO305.out); have hcv17 := own_string (P := Tryd.prog) Tryd.underlying23 Tryd.underlying5 Tryd.underlying9 (Kd.own_of_R HO309.out)) | (go_at_call 19; (with_reducible refine (gessoref01_Same.calls k _ _ y299 _ _ l0 true _ ?side1 ?side2 ?side3 ?side4 A7.out).mono ?_); (case side1 => repeat (first | exact (Kd.R_reads' HO301.out).2.2 | (with_reducible refine Kd.C_alloc ?_ _) | (with_reducible refine Kd.C_drewN ?_ _) | (with_reducible refine Kd.C_drew ?_))); (case side2 => exact (Kd.R_reads' HO301.out).2.1); (case side3 => repeat (first | exact (Kd.C_below HR0.out HB.out) | (with_reducible refine Kd.C_alloc ?_ _) | (with_reducible refine Kd.C_drewN ?_ _) | (with_reducible refine Kd.C_drew ?_))); (case side4 => exact HC0.out); rintro e w' ⟨rfl, ⟨nd, rfl⟩⟩) | (go_at_call 21; (with_reducible refine (gessolaw01_awake.calls k  t311 _ ?sideT A9.out).mono ?_); (case sideT => first | exact ⟨HTb_.out.below (by repeat (first | (with_reducible first | exact HB.out | apply below_alloc | apply pw_below_drewN | apply below_drew1) | exact HB.out))⟩ | exact ⟨HTb_.out.drawn (by repeat (first | exact Drawn0.refl _ | apply Drawn0.step))⟩ | exact ⟨HTb_.out.below (Drawn0.below (by repeat (first | exact Drawn0.refl _ | apply Drawn0.step)))⟩); rintro e w18 ⟨rfl, hb⟩; have n0_ := Aside0.mk (Kd.R_below (by (with_reducible repeat (first | apply Kd.R_alloc | apply Kd.R_drewN | apply Kd.R_drew)); exact HO301.out) hb); have n1_ := Aside0.mk (Kd.R_below (by (with_reducible repeat (first | apply Kd.R_alloc | apply Kd.R_drewN | apply Kd.R_drew)); exact HO305.out) hb); have n2_ := Aside0.mk (Kd.R_below (by (with_reducible repeat (first | apply Kd.R_alloc | apply Kd.R_drewN | apply Kd.R_drew)); exact HO309.out) hb); have n3_ := Aside0.mk (below_step (by repeat (first | (with_reducible first | exact HB.out | apply below_alloc | apply pw_below_drewN | apply below_drew1) | exact HB.out)) hb); clear HO301; clear HO305; clear HO309; clear HB; have HO301 := n0_; have HO305 := n1_; have HO309 := n2_; have HB := n3_; clear n0_ n1_ n2_ n3_; (try clear hb); (try clear hb2); (try clear hk); (try clear hi)))
          go_ret
          exact ⟨by first | rfl | (simp [errW_none, errW_some] <;> rfl) | (simp [*, errW_none, errW_some] <;> rfl), by repeat (first | (with_reducible first | exact HB.out | apply below_alloc | apply pw_below_drewN | apply below_drew1) | exact HB.out)⟩
        · replace c8 := Bool.eq_false_iff.mpr c8
          subst c8
          have H1 : (none) = some r := by rw [if_neg (show ¬ (false = true) by decide)] at H; exact H
          clear H
          have H := H1
          clear H1
          exact absurd H (by simp)
      · rw [if_neg c6] at H
        exact absurd H (by simp)
    · rw [if_neg c5] at H
      exact absurd H (by simp)
  · rw [if_neg c2] at H
    exact absurd H (by simp)

/-- THE ONE PURE STATEMENT of gessolaw01_CodeBytes: yours. -/
def gessolaw01_CodeBytes.Pure : Prop := ∀ (l0 : List Int), l0.length ≤ maxLen → l0.length * 4 ≤ 140737488351232 → (∀ x ∈ l0, (Lit.int .u32 x).wf = true) → ∃ k, gessolaw01_CodeBytes.f k l0 = some true
theorem gessolaw01_CodeBytes.walk (P : gessolaw01_CodeBytes.Pure) (a0 : Option Addr) (len0 cap0 : Nat) (z0 : List Int) (w : World) (HTb_ : Aside0 (Tabs w)) (w0 : (a0 = none ∧ len0 = 0 ∧ cap0 = 0 ∧ z0 = []) ∨ ∃ x, a0 = some x ∧ len0 ≤ cap0 ∧ cap0 ≤ maxLen ∧ z0.length = cap0 ∧ (∀ i, i < z0.length → w.cell? (x.add i) = some (.int .u32 (z0.getD i 0))) ∧ ∀ n ∈ z0, (Lit.int .u32 n).wf = true) (y0 : len0 * 4 ≤ 140737488351232) :
    Calls Tryd.prog 9 #[.slice a0 len0 cap0] w fun e w' => e = .returned (.bool true) ∧ Below w.heap.size w w' := by
  obtain ⟨l0, rfl, hr0, hm0, hw0, hc0⟩ := ReadsInt.ofRowC w0
  obtain ⟨k, h⟩ := P l0 hm0 y0 hw0
  refine (gessolaw01_CodeBytes.calls k _ _ l0 true w HTb_ (Kd.C_of_reads (d := (0 : Int)) (h1 := fun _ => rfl) hr0) hc0 h).mono ?_
  rintro e w' ⟨rfl, hd⟩
  exact ⟨rfl, hd⟩

end Go.Proofs.YtjlhehaagaaihaaDoor.P
