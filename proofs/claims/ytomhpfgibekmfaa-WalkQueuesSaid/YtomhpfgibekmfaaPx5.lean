/- Functions of the translated program as plain Lean functions, and proofs that their calls come to these. Written by a program of the session. No condition. -/
import Derived.Test.YtomhpfgibekmfaaPx0
import Derived.Test.YtomhpfgibekmfaaPx1
import Derived.Test.YtomhpfgibekmfaaPx3
import Derived.Test.YtomhpfgibekmfaaPx4
import Derived.Test.YtomhpfgibekmfaaQt
namespace Go.Proofs.Ytomhpfgibekmfaa.P
open Go.RowKit Go.Proofs.YtomhpfgibekmfaaW.PrintWords Go.Proofs.YtomhpfgibekmfaaW.PrintLast Go.Proofs.YtomhpfgibekmfaaW.PrintMore
attribute [local go_sem] max2_int min2_int max_two min_two max_three min_three max_four min_four   -- for this text's walks alone
set_option linter.unusedVariables false
set_option linter.unusedSimpArgs false

/-! ### gessolaw15_WalkLess: function 3 -/
def gessolaw15_WalkLess.j0 : Nat → List ByteArray → List ByteArray → Bool → Option (Bool)
  | 0, _, _, _ => none
  | k + 1, x0, x1, x12 => if x12 = true then ((gessolaw15_awake.f k).bind fun t169 => (some t169)) else ((walk_Less.f k x0 x1).bind fun t170 => ((gessoref15_Less.f k x0 x1).bind fun t171 => (if (t170 == t171) = true then ((walk_Deeper.f k x0 x1).bind fun t172 => ((gessoref15_Deeper.f k x0 x1).bind fun t173 => (if (t172 == t173) = true then ((walk_Text.f x0).bind fun t174 => ((gessoref15_Text.f k x0).bind fun t175 => (if t174.toList = t175.toList then ((gessolaw15_awake.f k).bind fun t176 => (some t176)) else (none)))) else (none)))) else (none))))
def gessolaw15_WalkLess.f (k : Nat) (l0 : List ByteArray) (l1 : List ByteArray) : Option (Bool) := if (l0.length : Int) > 1000 then (gessolaw15_WalkLess.j0 k l0 l1 true) else (gessolaw15_WalkLess.j0 k l0 l1 (decide ((l1.length : Int) > 1000)))
theorem gessolaw15_WalkLess.mono_l : ∀ k, (∀ y0 y1 y2, LeO (gessolaw15_WalkLess.j0 k y0 y1 y2) (gessolaw15_WalkLess.j0 (k + 1) y0 y1 y2))
  | 0 => fun _ _ _ r h => by simp [gessolaw15_WalkLess.j0] at h
  | k + 1 => by
    have ih0 := gessolaw15_WalkLess.mono_l k
    · intro y0 y1 y2
      unfold gessolaw15_WalkLess.j0
      repeat' first
      | (with_reducible exact ih0 _ _ _)
      | (with_reducible exact gessolaw15_awake.mono _)
      | (with_reducible exact gessoref15_Deeper.mono _ _ _)
      | (with_reducible exact gessoref15_Less.mono _ _ _)
      | (with_reducible exact gessoref15_Text.mono _ _)
      | (with_reducible exact walk_Deeper.mono _ _ _)
      | (with_reducible exact walk_Less.mono _ _ _)
      | (with_reducible exact LeO.refl _)
      | (with_reducible exact LeO.none _)
      | (with_reducible refine LeO.ite ?_ ?_)
      | (with_reducible refine LeO.bind ?_ (fun _ => ?_))
      | exact ih0 _ _ _
      | exact gessolaw15_awake.mono _
      | exact gessoref15_Deeper.mono _ _ _
      | exact gessoref15_Less.mono _ _ _
      | exact gessoref15_Text.mono _ _
      | exact walk_Deeper.mono _ _ _
      | exact walk_Less.mono _ _ _
      | exact LeO.none _
      | refine LeO.ite ?_ ?_
      | refine LeO.bind ?_ (fun _ => ?_)
theorem gessolaw15_WalkLess.mono : ∀ a0 a1 k, LeO (gessolaw15_WalkLess.f k a0 a1) (gessolaw15_WalkLess.f (k + 1) a0 a1) := by
  intro a0 a1 k
  have ih0 := gessolaw15_WalkLess.mono_l k
  unfold gessolaw15_WalkLess.f
  repeat' first
      | (with_reducible exact ih0 _ _ _)
      | (with_reducible exact gessolaw15_awake.mono _)
      | (with_reducible exact gessoref15_Deeper.mono _ _ _)
      | (with_reducible exact gessoref15_Less.mono _ _ _)
      | (with_reducible exact gessoref15_Text.mono _ _)
      | (with_reducible exact walk_Deeper.mono _ _ _)
      | (with_reducible exact walk_Less.mono _ _ _)
      | (with_reducible exact LeO.refl _)
      | (with_reducible exact LeO.none _)
      | (with_reducible refine LeO.ite ?_ ?_)
      | (with_reducible refine LeO.bind ?_ (fun _ => ?_))
      | exact ih0 _ _ _
      | exact gessolaw15_awake.mono _
      | exact gessoref15_Deeper.mono _ _ _
      | exact gessoref15_Less.mono _ _ _
      | exact gessoref15_Text.mono _ _
      | exact walk_Deeper.mono _ _ _
      | exact walk_Less.mono _ _ _
      | exact LeO.none _
      | refine LeO.ite ?_ ?_
      | refine LeO.bind ?_ (fun _ => ?_)
set_option maxHeartbeats 8000000 in
set_option maxRecDepth 100000 in
theorem gessolaw15_WalkLess.calls (k : Nat) (A0 : Option Addr) (c0 : Nat) (l0 : List ByteArray) (A1 : Option Addr) (c1 : Nat) (l1 : List ByteArray) (r : Bool) (w : World) (hr0 : Kd.C Kd.string w A0 l0.length l0) (hc0 : l0.length ≤ c0) (hr1 : Kd.C Kd.string w A1 l1.length l1) (hc1 : l1.length ≤ c1) (h : gessolaw15_WalkLess.f k l0 l1 = some r) :
    Calls Try.prog 3 #[.slice A0 l0.length c0, .slice A1 l1.length c1] w fun e w' => e = .returned (.bool r) ∧ Below w.heap.size w w' := by
  have HR0 := Aside0.mk hr0
  have HC0 := Aside0.mk hc0
  clear hr0 hc0
  have HR1 := Aside0.mk hr1
  have HC1 := Aside0.mk hc1
  clear hr1 hc1
  have HB := Aside0.mk (Below.refl w.heap.size w)
  have H : (if (l0.length : Int) > 1000 then (gessolaw15_WalkLess.j0 k l0 l1 true) else (gessolaw15_WalkLess.j0 k l0 l1 (decide ((l1.length : Int) > 1000)))) = some r := h
  clear h
  have HC3 := Aside0.mk H
  clear H
  go_enter Try.func3, Try.ntmps3
  go_upto_region 1 with (fail)
  go_cut [12] (fun v12 wc => ∃ (kq : Nat) (x12_2 : Bool), v12 = .bool x12_2 ∧ Aside0 (gessolaw15_WalkLess.j0 kq l0 l1 x12_2 = some r) ∧ Aside0 (kq ≤ k) ∧ Aside0 (Below w.heap.size w wc))
  case first =>
    have H := HC3.out
    clear HC3
    by_cases c4 : (l0.length : Int) > 1000
    · rw [if_pos c4] at H
      have c4b0 : decide (1000 < (l0.length : Int)) = true := decide_eq_true c4
      have c4b1 : decide (1000 < l0.length) = true := decide_eq_true (by omega)
      clear c4
      (first | rw [c4b0] | (simp only [i64_w, i32_w]; rw [c4b0]) | skip)
      have H' := Aside0.mk H
      clear H
      go_wp2
      go_meet
      case rel => exact ⟨_, (true), (by first | rfl | (simp; done) | (simp [*]; done)), H', ⟨by first | omega | exact Nat.le_refl _⟩, ⟨by repeat (first | (with_reducible first | exact HB.out | apply below_alloc | apply pw_below_drewN | apply below_drew1) | exact HB.out)⟩⟩
    · rw [if_neg c4] at H
      have c4b0 : decide (1000 < (l0.length : Int)) = false := decide_eq_false c4
      have c4b1 : decide (1000 < l0.length) = false := decide_eq_false (by omega)
      clear c4
      (first | rw [c4b0] | (simp only [i64_w, i32_w]; rw [c4b0]) | skip)
      have H' := Aside0.mk H
      clear H
      go_wp2
      go_meet
      case rel => exact ⟨_, (decide ((l1.length : Int) > 1000)), (by first | rfl | (simp; done) | (simp [*]; done)), H', ⟨by first | omega | exact Nat.le_refl _⟩, ⟨by repeat (first | (with_reducible first | exact HB.out | apply below_alloc | apply pw_below_drewN | apply below_drew1) | exact HB.out)⟩⟩
  case rest =>
    clear HC3
    try clear c1
    try clear p2
    try clear c3
    try clear c4
    try clear c4b0
    try clear c4b1
    obtain ⟨kq, x12_2, rfl, HA, HJ2, HB⟩ := hcut
    cases kq with
    | zero => exact absurd HA.out (by simp [gessolaw15_WalkLess.j0])
    | succ kj2 =>
      have H := HA.out
      clear HA
      simp only [gessolaw15_WalkLess.j0] at H
      by_cases c5 : x12_2 = true
      · subst c5
        have H1 : ((gessolaw15_awake.f kj2).bind fun t169 => (some t169)) = some r := by rw [if_pos rfl] at H; exact H
        clear H
        have H := H1
        clear H1
        replace H := Option.bind_eq_some_iff.mp H
        obtain ⟨t169, A60, H⟩ := H
        replace H : (some t169) = some r := H
        have A6 := Aside0.mk A60
        clear A60
        obtain rfl := Option.some.inj H
        go_wp2_with (first | ((with_reducible refine gate_callee (f := 8) rfl ?_); refine goesL_ (some 13) rfl rfl Try.func8 (by kernel_rfl) rfl #[] rfl (by (try simp only [List.map_toArray, List.map_cons, List.map_nil]); first | done | rfl | (simp only [List.length_drop, List.length_take]; rfl)) ?_; (with_reducible refine (gessolaw15_awake.calls kj2  t169 _ A6.out).mono ?_); rintro e w7 ⟨rfl, hb⟩; refine ⟨_, rfl, ?_⟩; have n0_ := Aside0.mk (below_step (by repeat (first | (with_reducible first | exact HB.out | apply below_alloc | apply pw_below_drewN | apply below_drew1) | exact HB.out)) hb); clear HB; have HB := n0_; clear n0_; (try clear hb); (try clear hb2); (try clear hk); (try clear hi)))
        go_ret
        exact ⟨by first | rfl | (simp [errW_none, errW_some] <;> rfl) | (simp [*, errW_none, errW_some] <;> rfl), by repeat (first | (with_reducible first | exact HB.out | apply below_alloc | apply pw_below_drewN | apply below_drew1) | exact HB.out)⟩
      · replace c5 := Bool.eq_false_iff.mpr c5
        subst c5
        have H1 : ((walk_Less.f kj2 l0 l1).bind fun t170 => ((gessoref15_Less.f kj2 l0 l1).bind fun t171 => (if (t170 == t171) = true then ((walk_Deeper.f kj2 l0 l1).bind fun t172 => ((gessoref15_Deeper.f kj2 l0 l1).bind fun t173 => (if (t172 == t173) = true then ((walk_Text.f l0).bind fun t174 => ((gessoref15_Text.f kj2 l0).bind fun t175 => (if t174.toList = t175.toList then ((gessolaw15_awake.f kj2).bind fun t176 => (some t176)) else (none)))) else (none)))) else (none)))) = some r := by rw [if_neg (show ¬ (false = true) by decide)] at H; exact H
        clear H
        have H := H1
        clear H1
        replace H := Option.bind_eq_some_iff.mp H
        obtain ⟨t170, A80, H⟩ := H
        replace H : ((gessoref15_Less.f kj2 l0 l1).bind fun t171 => (if (t170 == t171) = true then ((walk_Deeper.f kj2 l0 l1).bind fun t172 => ((gessoref15_Deeper.f kj2 l0 l1).bind fun t173 => (if (t172 == t173) = true then ((walk_Text.f l0).bind fun t174 => ((gessoref15_Text.f kj2 l0).bind fun t175 => (if t174.toList = t175.toList then ((gessolaw15_awake.f kj2).bind fun t176 => (some t176)) else (none)))) else (none)))) else (none))) = some r := H
        have A8 := Aside0.mk A80
        clear A80
        replace H := Option.bind_eq_some_iff.mp H
        obtain ⟨t171, A90, H⟩ := H
        replace H : (if (t170 == t171) = true then ((walk_Deeper.f kj2 l0 l1).bind fun t172 => ((gessoref15_Deeper.f kj2 l0 l1).bind fun t173 => (if (t172 == t173) = true then ((walk_Text.f l0).bind fun t174 => ((gessoref15_Text.f kj2 l0).bind fun t175 => (if t174.toList = t175.toList then ((gessolaw15_awake.f kj2).bind fun t176 => (some t176)) else (none)))) else (none)))) else (none)) = some r := H
        have A9 := Aside0.mk A90
        clear A90
        by_cases c10 : (t170 == t171) = true
        · rw [if_pos c10] at H
          have c10b0 : (t170 == t171) = true := c10
          (try (have c10b1 : decide (t170 = t171) = true := by simpa using c10))
          (try (have c10b2 : (t170 == t171) = true := by simpa using c10))
          clear c10
          replace H := Option.bind_eq_some_iff.mp H
          obtain ⟨t172, A110, H⟩ := H
          replace H : ((gessoref15_Deeper.f kj2 l0 l1).bind fun t173 => (if (t172 == t173) = true then ((walk_Text.f l0).bind fun t174 => ((gessoref15_Text.f kj2 l0).bind fun t175 => (if t174.toList = t175.toList then ((gessolaw15_awake.f kj2).bind fun t176 => (some t176)) else (none)))) else (none))) = some r := H
          have A11 := Aside0.mk A110
          clear A110
          replace H := Option.bind_eq_some_iff.mp H
          obtain ⟨t173, A120, H⟩ := H
          replace H : (if (t172 == t173) = true then ((walk_Text.f l0).bind fun t174 => ((gessoref15_Text.f kj2 l0).bind fun t175 => (if t174.toList = t175.toList then ((gessolaw15_awake.f kj2).bind fun t176 => (some t176)) else (none)))) else (none)) = some r := H
          have A12 := Aside0.mk A120
          clear A120
          by_cases c13 : (t172 == t173) = true
          · rw [if_pos c13] at H
            have c13b0 : (t172 == t173) = true := c13
            (try (have c13b1 : decide (t172 = t173) = true := by simpa using c13))
            (try (have c13b2 : (t172 == t173) = true := by simpa using c13))
            clear c13
            replace H := Option.bind_eq_some_iff.mp H
            obtain ⟨t174, A140, H⟩ := H
            replace H : ((gessoref15_Text.f kj2 l0).bind fun t175 => (if t174.toList = t175.toList then ((gessolaw15_awake.f kj2).bind fun t176 => (some t176)) else (none))) = some r := H
            have A14 := Aside0.mk A140
            clear A140
            replace H := Option.bind_eq_some_iff.mp H
            obtain ⟨t175, A150, H⟩ := H
            replace H : (if t174.toList = t175.toList then ((gessolaw15_awake.f kj2).bind fun t176 => (some t176)) else (none)) = some r := H
            have A15 := Aside0.mk A150
            clear A150
            by_cases c16 : t174.toList = t175.toList
            · rw [if_pos c16] at H
              have c16b0 : (t174.toList == t175.toList) = true := beq_iff_eq.mpr c16
              have c16b1 : (t174.toList != t175.toList) = false := bne_eq_false_iff_eq.mpr c16
              clear c16
              replace H := Option.bind_eq_some_iff.mp H
              obtain ⟨t176, A170, H⟩ := H
              replace H : (some t176) = some r := H
              have A17 := Aside0.mk A170
              clear A170
              obtain rfl := Option.some.inj H
              go_wp2_with (first | ((with_reducible refine gate_callee (f := 9) rfl ?_); refine goesL_ (some 16) rfl rfl Try.func9 (by kernel_rfl) rfl #[.slice A0 l0.length c0, .slice A1 l1.length c1] rfl (by (try simp only [List.map_toArray, List.map_cons, List.map_nil]); first | done | rfl | (simp only [List.length_drop, List.length_take]; rfl)) ?_; (with_reducible refine (walk_Less.calls kj2 _ _ l0 _ _ l1 t170 _ ?side1 ?side2 ?side3 ?side4 A8.out).mono ?_); (case side1 => repeat (first | exact (Kd.C_below HR0.out HB.out) | (with_reducible refine Kd.C_alloc ?_ _) | (with_reducible refine Kd.C_drewN ?_ _) | (with_reducible refine Kd.C_drew ?_))); (case side2 => exact HC0.out); (case side3 => repeat (first | exact (Kd.C_below HR1.out HB.out) | (with_reducible refine Kd.C_alloc ?_ _) | (with_reducible refine Kd.C_drewN ?_ _) | (with_reducible refine Kd.C_drew ?_))); (case side4 => exact HC1.out); rintro e w' ⟨rfl, ⟨nd, rfl⟩⟩; refine ⟨_, rfl, ?_⟩) | ((with_reducible refine gate_callee (f := 10) rfl ?_); refine goesL_ (some 19) rfl rfl Try.func10 (by kernel_rfl) rfl #[.slice A0 l0.length c0, .slice A1 l1.length c1] rfl (by (try simp only [List.map_toArray, List.map_cons, List.map_nil]); first | done | rfl | (simp only [List.length_drop, List.length_take]; rfl)) ?_; (with_reducible refine (gessoref15_Less.calls kj2 _ _ l0 _ _ l1 t171 _ ?side1 ?side2 ?side3 ?side4 A9.out).mono ?_); (case side1 => repeat (first | exact (Kd.C_below HR0.out (by repeat (first | (with_reducible first | exact HB.out | apply below_alloc | apply pw_below_drewN | apply below_drew1) | exact HB.out))) | (with_reducible refine Kd.C_alloc ?_ _) | (with_reducible refine Kd.C_drewN ?_ _) | (with_reducible refine Kd.C_drew ?_))); (case side2 => exact HC0.out); (case side3 => repeat (first | exact (Kd.C_below HR1.out (by repeat (first | (with_reducible first | exact HB.out | apply below_alloc | apply pw_below_drewN | apply below_drew1) | exact HB.out))) | (with_reducible refine Kd.C_alloc ?_ _) | (with_reducible refine Kd.C_drewN ?_ _) | (with_reducible refine Kd.C_drew ?_))); (case side4 => exact HC1.out); rintro e w' ⟨rfl, ⟨nd, rfl⟩⟩; refine ⟨_, rfl, ?_⟩) | (go_at_call 11; (with_reducible refine (walk_Deeper.calls kj2 _ _ l0 _ _ l1 t172 _ ?side1 ?side2 ?side3 ?side4 A11.out).mono ?_); (case side1 => repeat (first | exact (Kd.C_below HR0.out (by repeat (first | (with_reducible first | exact HB.out | apply below_alloc | apply pw_below_drewN | apply below_drew1) | exact HB.out))) | (with_reducible refine Kd.C_alloc ?_ _) | (with_reducible refine Kd.C_drewN ?_ _) | (with_reducible refine Kd.C_drew ?_))); (case side2 => exact HC0.out); (case side3 => repeat (first | exact (Kd.C_below HR1.out (by repeat (first | (with_reducible first | exact HB.out | apply below_alloc | apply pw_below_drewN | apply below_drew1) | exact HB.out))) | (with_reducible refine Kd.C_alloc ?_ _) | (with_reducible refine Kd.C_drewN ?_ _) | (with_reducible refine Kd.C_drew ?_))); (case side4 => exact HC1.out); rintro e w' ⟨rfl, ⟨nd, rfl⟩⟩) | (go_at_call 12; (with_reducible refine (gessoref15_Deeper.calls kj2 _ _ l0 _ _ l1 t173 _ ?side1 ?side2 ?side3 ?side4 A12.out).mono ?_); (case side1 => repeat (first | exact (Kd.C_below HR0.out (by repeat (first | (with_reducible first | exact HB.out | apply below_alloc | apply pw_below_drewN | apply below_drew1) | exact HB.out))) | (with_reducible refine Kd.C_alloc ?_ _) | (with_reducible refine Kd.C_drewN ?_ _) | (with_reducible refine Kd.C_drew ?_))); (case side2 => exact HC0.out); (case side3 => repeat (first | exact (Kd.C_below HR1.out (by repeat (first | (with_reducible first | exact HB.out | apply below_alloc | apply pw_below_drewN | apply below_drew1) | exact HB.out))) | (with_reducible refine Kd.C_alloc ?_ _) | (with_reducible refine Kd.C_drewN ?_ _) | (with_reducible refine Kd.C_drew ?_))); (case side4 => exact HC1.out); rintro e w' ⟨rfl, ⟨nd, rfl⟩⟩) | (go_at_call 13; (with_reducible refine (walk_Text.calls _ _ l0 t174 _ ?side1 ?side2 A14.out).mono ?_); (case side1 => repeat (first | exact (Kd.C_below HR0.out (by repeat (first | (with_reducible first | exact HB.out | apply below_alloc | apply pw_below_drewN | apply below_drew1) | exact HB.out))) | (with_reducible refine Kd.C_alloc ?_ _) | (with_reducible refine Kd.C_drewN ?_ _) | (with_reducible refine Kd.C_drew ?_))); (case side2 => exact HC0.out); rintro e w18 ⟨rfl, hb⟩; have n0_ := Aside0.mk (below_step (by repeat (first | (with_reducible first | exact HB.out | apply below_alloc | apply pw_below_drewN | apply below_drew1) | exact HB.out)) hb); clear HB; have HB := n0_; clear n0_; (try clear hb); (try clear hb2); (try clear hk); (try clear hi)) | (go_at_call 14; (with_reducible refine (gessoref15_Text.calls kj2 _ _ l0 t175 _ ?side1 ?side2 A15.out).mono ?_); (case side1 => repeat (first | exact (Kd.C_below HR0.out HB.out) | (with_reducible refine Kd.C_alloc ?_ _) | (with_reducible refine Kd.C_drewN ?_ _) | (with_reducible refine Kd.C_drew ?_))); (case side2 => exact HC0.out); rintro e w' ⟨rfl, ⟨nd, rfl⟩⟩) | (go_at_call 8; (with_reducible refine (gessolaw15_awake.calls kj2  t176 _ A17.out).mono ?_); rintro e w19 ⟨rfl, hb⟩; have n0_ := Aside0.mk (below_step (by repeat (first | (with_reducible first | exact HB.out | apply below_alloc | apply pw_below_drewN | apply below_drew1) | exact HB.out)) hb); clear HB; have HB := n0_; clear n0_; (try clear hb); (try clear hb2); (try clear hk); (try clear hi)))
              go_ret
              exact ⟨by first | rfl | (simp [errW_none, errW_some] <;> rfl) | (simp [*, errW_none, errW_some] <;> rfl), by repeat (first | (with_reducible first | exact HB.out | apply below_alloc | apply pw_below_drewN | apply below_drew1) | exact HB.out)⟩
            · rw [if_neg c16] at H
              exact absurd H (by simp)
          · rw [if_neg c13] at H
            exact absurd H (by simp)
        · rw [if_neg c10] at H
          exact absurd H (by simp)

end Go.Proofs.Ytomhpfgibekmfaa.P
