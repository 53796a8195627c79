/- Functions of the translated program as plain Lean functions, and proofs that their calls come to these. Written by a program of the session. No condition. -/
import Derived.Test.YtjlhehaagaaihaaDoorPx0
import Derived.Test.YtjlhehaagaaihaaDoorPx2
import Derived.Test.YtjlhehaagaaihaaDoorPx3
import Derived.Test.YtjlhehaagaaihaaDoorEe
namespace Go.Proofs.YtjlhehaagaaihaaDoor.P
open Go.RowKit Go.Proofs.YtjlhehaagaaihaaDoorW.PrintWords Go.Proofs.YtjlhehaagaaihaaDoorW.PrintLast Go.Proofs.YtjlhehaagaaihaaDoorW.PrintMore
attribute [local go_sem] max2_int min2_int max_two min_two max_three min_three max_four min_four   -- for this text's walks alone
set_option linter.unusedVariables false
set_option linter.unusedSimpArgs false

/-! ### gessolaw01_CodeCuts: function 4 -/
def gessolaw01_CodeCuts.l0 : Nat → List Int → List Int → Int → Bool → Int → Int → Option (Bool)
  | 0, _, _, _, _, _, _ => none
  | k + 1, x0, x5, x7, x8, x9, x10 => if x10 < (x0.length : Int) then (if 0 ≤ x10 then ((code_Width.f k (rd x0 x10)).bind fun t203 => (if x8 = true then (gessolaw01_CodeCuts.l0 k x0 x5 x7 true (wrap64 (x9 + t203)) (wrap64 (x10 + 1))) else (gessolaw01_CodeCuts.l0 k x0 x5 x7 ((wrap64 (x9 + t203)) == x7) (wrap64 (x9 + t203)) (wrap64 (x10 + 1))))) else (none)) else (if 0 ≤ x7 then (if x7 ≤ (x5.length : Int) then ((code_Codes.f (x5.take (x7 : Int).toNat)).bind fun bt208 => ((code_Codes.f (x5.drop (x7 : Int).toNat)).bind fun bt216 => (if x8 = true then (if bt208.2 = 0 then (if bt216.2 = 0 then ((some (([] : List Int) : List Int)).bind fun y220 => (if y220.length + bt208.1.length < 35184372088832 then ((some (y220 ++ bt208.1 : List Int)).bind fun y223 => (if y223.length + bt216.1.length < 35184372088832 then ((gessoref01_Same.f k (y223 ++ bt216.1) x0).bind fun t229 => (if t229 = true then ((gessolaw01_awake.f k).bind fun t230 => (some t230)) else (none))) else (none))) else (none))) else (none)) else (none)) else (if bt208.2 = 6 then (if bt216.2 = 6 then ((gessolaw01_awake.f k).bind fun t231 => (some t231)) else (none)) else (none))))) else (none)) else (none))
def gessolaw01_CodeCuts.f (k : Nat) (l0 : List Int) (a1 : Int) : Option (Bool) := (code_Bytes.f k l0).bind fun bt197 => (if bt197.2 = 0 then (if (wrap64 ((bt197.1.length : Int) + 1)) = 0 then (none) else (gessolaw01_CodeCuts.l0 k l0 bt197.1 (Int.tmod (wrap64 (a1)) (wrap64 ((bt197.1.length : Int) + 1))) ((Int.tmod (wrap64 (a1)) (wrap64 ((bt197.1.length : Int) + 1))) == 0) 0 0)) else (if (bt197.1.length : Int) = 0 then ((gessolaw01_awake.f k).bind fun t201 => (some t201)) else (none)))
theorem gessolaw01_CodeCuts.mono_l : ∀ k, (∀ y0 y1 y2 y3 y4 y5, LeO (gessolaw01_CodeCuts.l0 k y0 y1 y2 y3 y4 y5) (gessolaw01_CodeCuts.l0 (k + 1) y0 y1 y2 y3 y4 y5))
  | 0 => fun _ _ _ _ _ _ r h => by simp [gessolaw01_CodeCuts.l0] at h
  | k + 1 => by
    have ih0 := gessolaw01_CodeCuts.mono_l k
    · intro y0 y1 y2 y3 y4 y5
      unfold gessolaw01_CodeCuts.l0
      repeat' first
      | (with_reducible exact ih0 _ _ _ _ _ _)
      | (with_reducible exact code_Bytes.mono _ _)
      | (with_reducible exact code_Width.mono _ _)
      | (with_reducible exact gessolaw01_awake.mono _)
      | (with_reducible exact gessoref01_Same.mono _ _ _)
      | (with_reducible exact LeO.refl _)
      | (with_reducible exact LeO.none _)
      | (with_reducible refine LeO.ite ?_ ?_)
      | (with_reducible refine LeO.bind ?_ (fun _ => ?_))
      | exact ih0 _ _ _ _ _ _
      | exact code_Bytes.mono _ _
      | exact code_Width.mono _ _
      | exact gessolaw01_awake.mono _
      | exact gessoref01_Same.mono _ _ _
      | exact LeO.none _
      | refine LeO.ite ?_ ?_
      | refine LeO.bind ?_ (fun _ => ?_)
theorem gessolaw01_CodeCuts.mono : ∀ a0 a1 k, LeO (gessolaw01_CodeCuts.f k a0 a1) (gessolaw01_CodeCuts.f (k + 1) a0 a1) := by
  intro a0 a1 k
  have ih0 := gessolaw01_CodeCuts.mono_l k
  unfold gessolaw01_CodeCuts.f
  repeat' first
      | (with_reducible exact ih0 _ _ _ _ _ _)
      | (with_reducible exact code_Bytes.mono _ _)
      | (with_reducible exact code_Width.mono _ _)
      | (with_reducible exact gessolaw01_awake.mono _)
      | (with_reducible exact gessoref01_Same.mono _ _ _)
      | (with_reducible exact LeO.refl _)
      | (with_reducible exact LeO.none _)
      | (with_reducible refine LeO.ite ?_ ?_)
      | (with_reducible refine LeO.bind ?_ (fun _ => ?_))
      | exact ih0 _ _ _ _ _ _
      | exact code_Bytes.mono _ _
      | exact code_Width.mono _ _
      | exact gessolaw01_awake.mono _
      | exact gessoref01_Same.mono _ _ _
      | exact LeO.none _
      | refine LeO.ite ?_ ?_
      | refine LeO.bind ?_ (fun _ => ?_)
set_option maxHeartbeats 8000000 in
set_option maxRecDepth 100000 in
theorem gessolaw01_CodeCuts.calls (k : Nat) (A0 : Option Addr) (c0 : Nat) (l0 : List Int) (a1 : Int) (r : Bool) (w : World) (HTb_ : Aside0 (Tabs w)) (hr0 : Kd.C (Kd.int .u32) w A0 l0.length l0) (hc0 : l0.length ≤ c0) (h : gessolaw01_CodeCuts.f k l0 a1 = some r) :
    Calls Tryd.prog 4 #[.slice A0 l0.length c0, .int .u16 a1] w fun e w' => e = .returned (.bool r) ∧ Below w.heap.size w w' := by
  have HR0 := Aside0.mk hr0
  have HC0 := Aside0.mk hc0
  clear hr0 hc0
  have HB := Aside0.mk (Below.refl w.heap.size w)
  have H : ((code_Bytes.f k l0).bind fun bt197 => (if bt197.2 = 0 then (if (wrap64 ((bt197.1.length : Int) + 1)) = 0 then (none) else (gessolaw01_CodeCuts.l0 k l0 bt197.1 (Int.tmod (wrap64 (a1)) (wrap64 ((bt197.1.length : Int) + 1))) ((Int.tmod (wrap64 (a1)) (wrap64 ((bt197.1.length : Int) + 1))) == 0) 0 0)) else (if (bt197.1.length : Int) = 0 then ((gessolaw01_awake.f k).bind fun t201 => (some t201)) else (none)))) = some r := h
  clear h
  replace H := Option.bind_eq_some_iff.mp H
  obtain ⟨⟨t197, t198⟩, A30, H⟩ := H
  replace H : (if t198 = 0 then (if (wrap64 ((t197.length : Int) + 1)) = 0 then (none) else (gessolaw01_CodeCuts.l0 k l0 t197 (Int.tmod (wrap64 (a1)) (wrap64 ((t197.length : Int) + 1))) ((Int.tmod (wrap64 (a1)) (wrap64 ((t197.length : Int) + 1))) == 0) 0 0)) else (if (t197.length : Int) = 0 then ((gessolaw01_awake.f k).bind fun t201 => (some t201)) else (none))) = some r := H
  have A3 := Aside0.mk A30
  clear A30
  by_cases c4 : t198 = 0
  · rw [if_pos c4] at H
    have c4b0 : (t198 == 0) = true := beq_iff_eq.mpr c4
    have c4b1 : (t198 != 0) = false := bne_eq_false_iff_eq.mpr c4
    clear c4
    by_cases c5 : (wrap64 ((t197.length : Int) + 1)) = 0
    · rw [if_pos c5] at H
      exact absurd H (by simp)
    · rw [if_neg c5] at H
      have c5b0 : ((wrap64 ((t197.length : Int) + 1)) == 0) = false := beq_eq_false_iff_ne.mpr c5
      have c5b1 : ((wrap64 ((t197.length : Int) + 1)) != 0) = true := bne_iff_ne.mpr c5
      have H' := Aside0.mk H
      clear H
      go_enter Tryd.func4, Tryd.ntmps4
      go_wp2_with (first | ((with_reducible refine gate_callee (f := 17) rfl ?_); refine goesL_ (some 17) rfl rfl Tryd.func17 (by kernel_rfl) rfl #[.slice A0 l0.length c0] rfl (by (try simp only [List.map_toArray, List.map_cons, List.map_nil]); first | done | rfl | (simp only [List.length_drop, List.length_take]; rfl)) ?_; (with_reducible refine (code_Bytes.calls k _ _ l0 t197 t198 _ ?side1 ?side2 A3.out).mono ?_); (case side1 => repeat (first | exact HR0.out | (with_reducible refine Kd.C_alloc ?_ _) | (with_reducible refine Kd.C_drewN ?_ _) | (with_reducible refine Kd.C_drew ?_))); (case side2 => exact HC0.out); rintro e w6 ⟨v199, rfl, ho0, hb⟩; refine ⟨_, rfl, ?_⟩; have n0_ := Aside0.mk (Kd.R_lower ho0 (below_size (by repeat (first | (with_reducible first | exact HB.out | apply below_alloc | apply pw_below_drewN | apply below_drew1) | exact HB.out)))); have n1_ := Aside0.mk (below_step (by repeat (first | (with_reducible first | exact HB.out | apply below_alloc | apply pw_below_drewN | apply below_drew1) | exact HB.out)) hb); clear HB; have HO200 := n0_; have HB := n1_; clear n0_ n1_; (try clear hb); (try clear hb2); (try clear hk); (try clear hi); (try clear ho0); obtain ⟨Ao7, co7, eo7⟩ := Kd.R_slice HO200.out; subst eo7))
      go_loopg [8, 9, 10] k (fun kq v8 v9 v10 w' => ∃ (x8_1 : Bool) (x9_1 : Int) (x10_1 : Int), v8 = .bool x8_1 ∧ v9 = .int .i64 x9_1 ∧ v10 = .int .i64 x10_1 ∧ Aside0 (gessolaw01_CodeCuts.l0 kq l0 t197 (Int.tmod (wrap64 (a1)) (wrap64 ((t197.length : Int) + 1))) x8_1 x9_1 x10_1 = some r) ∧ Aside0 (kq ≤ k) ∧ Aside0 (Kd.R (Kd.int .u8) 5 w' w.heap.size (fun _ => True) (.slice Ao7 t197.length co7) t197) ∧ Aside0 (Below w.heap.size w w'))
      case atStart => exact ⟨(((Int.tmod (wrap64 (a1)) (wrap64 ((t197.length : Int) + 1))) == 0)), (0), (0), (by first | rfl | (simp; done) | (simp [*]; done)), (by first | rfl | (simp; done) | (simp [*]; done)), (by first | rfl | (simp; done) | (simp [*]; done)), H', ⟨Nat.le_refl _⟩, ⟨by (with_reducible repeat (first | apply Kd.R_alloc | apply Kd.R_drewN | apply Kd.R_drew)); exact HO200.out⟩, ⟨by repeat (first | (with_reducible first | exact HB.out | apply below_alloc | apply pw_below_drewN | apply below_drew1) | exact HB.out)⟩⟩
      case round =>
        clear H'
        try clear c1
        try clear p2
        try clear c4
        try clear c4b0
        try clear c4b1
        try clear c5
        try clear c5b0
        try clear c5b1
        try clear p6
        obtain ⟨x8_1, x9_1, x10_1, rfl, rfl, rfl, HA, HK1, HO_5, HB⟩ := hrel
        cases gk with
        | zero => exact absurd HA.out (by simp [gessolaw01_CodeCuts.l0])
        | succ k1 =>
          have H := HA.out
          clear HA
          simp only [gessolaw01_CodeCuts.l0] at H
          by_cases c8 : x10_1 < (l0.length : Int)
          · rw [if_pos c8] at H
            have c8b0 : decide (x10_1 < (l0.length : Int)) = true := decide_eq_true c8
            clear c8
            by_cases c9 : 0 ≤ x10_1
            · rw [if_pos c9] at H
              have c9b0 : decide (0 ≤ x10_1) = true := decide_eq_true c9
              clear c9
              replace H := Option.bind_eq_some_iff.mp H
              obtain ⟨t203, A100, H⟩ := H
              replace H : (if x8_1 = true then (gessolaw01_CodeCuts.l0 k1 l0 t197 (Int.tmod (wrap64 (a1)) (wrap64 ((t197.length : Int) + 1))) true (wrap64 (x9_1 + t203)) (wrap64 (x10_1 + 1))) else (gessolaw01_CodeCuts.l0 k1 l0 t197 (Int.tmod (wrap64 (a1)) (wrap64 ((t197.length : Int) + 1))) ((wrap64 (x9_1 + t203)) == (Int.tmod (wrap64 (a1)) (wrap64 ((t197.length : Int) + 1)))) (wrap64 (x9_1 + t203)) (wrap64 (x10_1 + 1)))) = some r := H
              have A10 := Aside0.mk A100
              clear A100
              by_cases c11 : x8_1 = true
              · subst c11
                have H1 : (gessolaw01_CodeCuts.l0 k1 l0 t197 (Int.tmod (wrap64 (a1)) (wrap64 ((t197.length : Int) + 1))) true (wrap64 (x9_1 + t203)) (wrap64 (x10_1 + 1))) = some r := by rw [if_pos rfl] at H; exact H
                clear H
                have H := H1
                clear H1
                have H' := Aside0.mk H
                clear H
                have p202 : 0 ≤ (x10_1 : Int) := of_decide_eq_true (by first | (with_reducible assumption) | assumption)
                have q202 : x10_1 < (l0.length : Int) := of_decide_eq_true (by first | (with_reducible assumption) | assumption)
                obtain ⟨ad202, e202, hx202_0⟩ := Kd.at_int HR0.out x10_1 p202 q202
                cases e202
                replace hx202_0 := (HB.out.cell (World.block_lt_of_cell? w _ hx202_0)).trans hx202_0
                replace p202 := eq_true p202
                replace q202 := eq_true q202
                go_wp2_with (first | ((with_reducible refine gate_callee (f := 22) rfl ?_); refine goesL_ (some 47) rfl rfl Tryd.func22 (by kernel_rfl) rfl #[.int .u32 (rd l0 x10_1)] rfl (by (try simp only [List.map_toArray, List.map_cons, List.map_nil]); first | done | rfl | (simp only [List.length_drop, List.length_take]; rfl)) ?_; (with_reducible refine (code_Width.calls k1 (rd l0 x10_1) t203 _ A10.out).mono ?_); rintro e w' ⟨rfl, ⟨nd, rfl⟩⟩; refine ⟨_, rfl, ?_⟩))
                go_roundg k1
                case measure => have := HK1.out; omega
                case rel => exact ⟨(true), (wrap64 (x9_1 + t203)), (wrap64 (x10_1 + 1)), (by first | rfl | (simp; done) | (simp [*]; done)), (by first | rfl | (simp; done) | (simp [*]; done)), (by first | rfl | (simp; done) | (simp [*]; done)), H', ⟨by have := HK1.out; omega⟩, ⟨by (with_reducible repeat (first | apply Kd.R_alloc | apply Kd.R_drewN | apply Kd.R_drew)); exact HO_5.out⟩, ⟨by repeat (first | (with_reducible first | exact HB.out | apply below_alloc | apply pw_below_drewN | apply below_drew1) | exact HB.out)⟩⟩
              · replace c11 := Bool.eq_false_iff.mpr c11
                subst c11
                have H1 : (gessolaw01_CodeCuts.l0 k1 l0 t197 (Int.tmod (wrap64 (a1)) (wrap64 ((t197.length : Int) + 1))) ((wrap64 (x9_1 + t203)) == (Int.tmod (wrap64 (a1)) (wrap64 ((t197.length : Int) + 1)))) (wrap64 (x9_1 + t203)) (wrap64 (x10_1 + 1))) = some r := by rw [if_neg (show ¬ (false = true) by decide)] at H; exact H
                clear H
                have H := H1
                clear H1
                have H' := Aside0.mk H
                clear H
                have p202 : 0 ≤ (x10_1 : Int) := of_decide_eq_true (by first | (with_reducible assumption) | assumption)
                have q202 : x10_1 < (l0.length : Int) := of_decide_eq_true (by first | (with_reducible assumption) | assumption)
                obtain ⟨ad202, e202, hx202_0⟩ := Kd.at_int HR0.out x10_1 p202 q202
                cases e202
                replace hx202_0 := (HB.out.cell (World.block_lt_of_cell? w _ hx202_0)).trans hx202_0
                replace p202 := eq_true p202
                replace q202 := eq_true q202
                go_wp2_with (first | ((with_reducible refine gate_callee (f := 22) rfl ?_); refine goesL_ (some 47) rfl rfl Tryd.func22 (by kernel_rfl) rfl #[.int .u32 (rd l0 x10_1)] rfl (by (try simp only [List.map_toArray, List.map_cons, List.map_nil]); first | done | rfl | (simp only [List.length_drop, List.length_take]; rfl)) ?_; (with_reducible refine (code_Width.calls k1 (rd l0 x10_1) t203 _ A10.out).mono ?_); rintro e w' ⟨rfl, ⟨nd, rfl⟩⟩; refine ⟨_, rfl, ?_⟩))
                go_roundg k1
                case measure => have := HK1.out; omega
                case rel => exact ⟨(((wrap64 (x9_1 + t203)) == (Int.tmod (wrap64 (a1)) (wrap64 ((t197.length : Int) + 1))))), (wrap64 (x9_1 + t203)), (wrap64 (x10_1 + 1)), (by first | rfl | (simp; done) | (simp [*]; done)), (by first | rfl | (simp; done) | (simp [*]; done)), (by first | rfl | (simp; done) | (simp [*]; done)), H', ⟨by have := HK1.out; omega⟩, ⟨by (with_reducible repeat (first | apply Kd.R_alloc | apply Kd.R_drewN | apply Kd.R_drew)); exact HO_5.out⟩, ⟨by repeat (first | (with_reducible first | exact HB.out | apply below_alloc | apply pw_below_drewN | apply below_drew1) | exact HB.out)⟩⟩
            · rw [if_neg c9] at H
              exact absurd H (by simp)
          · rw [if_neg c8] at H
            have c8b0 : decide (x10_1 < (l0.length : Int)) = false := decide_eq_false c8
            clear c8
            obtain ⟨ji12, hji12⟩ : ∃ j_ : Int, (Int.tmod (wrap64 (a1)) (wrap64 ((t197.length : Int) + 1))) = j_ := ⟨_, rfl⟩
            replace H : (if 0 ≤ (ji12) then (if (ji12) ≤ (t197.length : Int) then ((code_Codes.f (t197.take ((ji12) : Int).toNat)).bind fun bt208 => ((code_Codes.f (t197.drop ((ji12) : Int).toNat)).bind fun bt216 => (if x8_1 = true then (if bt208.2 = 0 then (if bt216.2 = 0 then ((some (([] : List Int) : List Int)).bind fun y220 => (if y220.length + bt208.1.length < 35184372088832 then ((some (y220 ++ bt208.1 : List Int)).bind fun y223 => (if y223.length + bt216.1.length < 35184372088832 then ((gessoref01_Same.f k1 (y223 ++ bt216.1) l0).bind fun t229 => (if t229 = true then ((gessolaw01_awake.f k1).bind fun t230 => (some t230)) else (none))) else (none))) else (none))) else (none)) else (none)) else (if bt208.2 = 6 then (if bt216.2 = 6 then ((gessolaw01_awake.f k1).bind fun t231 => (some t231)) else (none)) else (none))))) else (none)) else (none)) = some r := by first | (rw [hji12] at H; exact H) | (simp only [hji12] at H ⊢; exact H)
            by_cases c13 : 0 ≤ (ji12)
            · rw [if_pos c13] at H
              have c13b0 := eq_true c13
              have c13b1 : decide (0 ≤ (ji12)) = true := decide_eq_true c13
              clear c13
              by_cases c14 : (ji12) ≤ (t197.length : Int)
              · rw [if_pos c14] at H
                have c14b0 := eq_true c14
                have c14b1 : decide ((ji12) ≤ (t197.length : Int)) = true := decide_eq_true c14
                clear c14
                obtain ⟨y204, hy204⟩ : ∃ y_ : List Int, y_ = (t197.take ((ji12) : Int).toNat) := ⟨_, rfl⟩
                replace H : ((code_Codes.f y204).bind fun bt208 => ((code_Codes.f (t197.drop ((ji12) : Int).toNat)).bind fun bt216 => (if x8_1 = true then (if bt208.2 = 0 then (if bt216.2 = 0 then ((some (([] : List Int) : List Int)).bind fun y220 => (if y220.length + bt208.1.length < 35184372088832 then ((some (y220 ++ bt208.1 : List Int)).bind fun y223 => (if y223.length + bt216.1.length < 35184372088832 then ((gessoref01_Same.f k1 (y223 ++ bt216.1) l0).bind fun t229 => (if t229 = true then ((gessolaw01_awake.f k1).bind fun t230 => (some t230)) else (none))) else (none))) else (none))) else (none)) else (none)) else (if bt208.2 = 6 then (if bt216.2 = 6 then ((gessolaw01_awake.f k1).bind fun t231 => (some t231)) else (none)) else (none))))) = some r := by first | (rw [hy204]; with_reducible exact H) | (have H2_ := (Option.bind_some _ _).symm.trans H; rw [hy204]; with_reducible exact H2_) | (have H2_ := (Option.bind_some _ _).symm.trans H; with_reducible exact H2_) | with_reducible exact H | (rw [hy204]; exact H) | exact H
                have Ny204 := Aside0.mk hy204
                clear hy204
                replace H := Option.bind_eq_some_iff.mp H
                obtain ⟨⟨t208, t209⟩, A150, H⟩ := H
                replace H : ((code_Codes.f (t197.drop ((ji12) : Int).toNat)).bind fun bt216 => (if x8_1 = true then (if t209 = 0 then (if bt216.2 = 0 then ((some (([] : List Int) : List Int)).bind fun y220 => (if y220.length + t208.length < 35184372088832 then ((some (y220 ++ t208 : List Int)).bind fun y223 => (if y223.length + bt216.1.length < 35184372088832 then ((gessoref01_Same.f k1 (y223 ++ bt216.1) l0).bind fun t229 => (if t229 = true then ((gessolaw01_awake.f k1).bind fun t230 => (some t230)) else (none))) else (none))) else (none))) else (none)) else (none)) else (if t209 = 6 then (if bt216.2 = 6 then ((gessolaw01_awake.f k1).bind fun t231 => (some t231)) else (none)) else (none)))) = some r := H
                have A15 := Aside0.mk A150
                clear A150
                have c16b0 := eq_true (of_decide_eq_true (by first | (with_reducible assumption) | assumption) : 0 ≤ (ji12))
                have c17b0 := eq_true (of_decide_eq_true (by first | (with_reducible assumption) | assumption) : (ji12) ≤ (t197.length : Int))
                obtain ⟨y212, hy212⟩ : ∃ y_ : List Int, y_ = (t197.drop ((ji12) : Int).toNat) := ⟨_, rfl⟩
                replace H : ((code_Codes.f y212).bind fun bt216 => (if x8_1 = true then (if t209 = 0 then (if bt216.2 = 0 then ((some (([] : List Int) : List Int)).bind fun y220 => (if y220.length + t208.length < 35184372088832 then ((some (y220 ++ t208 : List Int)).bind fun y223 => (if y223.length + bt216.1.length < 35184372088832 then ((gessoref01_Same.f k1 (y223 ++ bt216.1) l0).bind fun t229 => (if t229 = true then ((gessolaw01_awake.f k1).bind fun t230 => (some t230)) else (none))) else (none))) else (none))) else (none)) else (none)) else (if t209 = 6 then (if bt216.2 = 6 then ((gessolaw01_awake.f k1).bind fun t231 => (some t231)) else (none)) else (none)))) = some r := by first | (rw [hy212]; with_reducible exact H) | (have H2_ := (Option.bind_some _ _).symm.trans H; rw [hy212]; with_reducible exact H2_) | (have H2_ := (Option.bind_some _ _).symm.trans H; with_reducible exact H2_) | with_reducible exact H | (rw [hy212]; exact H) | exact H
                have Ny212 := Aside0.mk hy212
                clear hy212
                replace H := Option.bind_eq_some_iff.mp H
                obtain ⟨⟨t216, t217⟩, A180, H⟩ := H
                replace H : (if x8_1 = true then (if t209 = 0 then (if t217 = 0 then ((some (([] : List Int) : List Int)).bind fun y220 => (if y220.length + t208.length < 35184372088832 then ((some (y220 ++ t208 : List Int)).bind fun y223 => (if y223.length + t216.length < 35184372088832 then ((gessoref01_Same.f k1 (y223 ++ t216) l0).bind fun t229 => (if t229 = true then ((gessolaw01_awake.f k1).bind fun t230 => (some t230)) else (none))) else (none))) else (none))) else (none)) else (none)) else (if t209 = 6 then (if t217 = 6 then ((gessolaw01_awake.f k1).bind fun t231 => (some t231)) else (none)) else (none))) = some r := H
                have A18 := Aside0.mk A180
                clear A180
                by_cases c19 : x8_1 = true
                · subst c19
                  have H1 : (if t209 = 0 then (if t217 = 0 then ((some (([] : List Int) : List Int)).bind fun y220 => (if y220.length + t208.length < 35184372088832 then ((some (y220 ++ t208 : List Int)).bind fun y223 => (if y223.length + t216.length < 35184372088832 then ((gessoref01_Same.f k1 (y223 ++ t216) l0).bind fun t229 => (if t229 = true then ((gessolaw01_awake.f k1).bind fun t230 => (some t230)) else (none))) else (none))) else (none))) else (none)) else (none)) = some r := by rw [if_pos rfl] at H; exact H
                  clear H
                  have H := H1
                  clear H1
                  by_cases c20 : t209 = 0
                  · rw [if_pos c20] at H
                    have c20b0 : (t209 == 0) = true := beq_iff_eq.mpr c20
                    have c20b1 : (t209 != 0) = false := bne_eq_false_iff_eq.mpr c20
                    clear c20
                    by_cases c21 : t217 = 0
                    · rw [if_pos c21] at H
                      have c21b0 : (t217 == 0) = true := beq_iff_eq.mpr c21
                      have c21b1 : (t217 != 0) = false := bne_eq_false_iff_eq.mpr c21
                      clear c21
                      obtain ⟨y220, hy220⟩ : ∃ y_ : List Int, y_ = (([] : List Int)) := ⟨_, rfl⟩
                      replace H : (if y220.length + t208.length < 35184372088832 then ((some (y220 ++ t208 : List Int)).bind fun y223 => (if y223.length + t216.length < 35184372088832 then ((gessoref01_Same.f k1 (y223 ++ t216) l0).bind fun t229 => (if t229 = true then ((gessolaw01_awake.f k1).bind fun t230 => (some t230)) else (none))) else (none))) else (none)) = some r := by first | (rw [hy220]; with_reducible exact H) | (have H2_ := (Option.bind_some _ _).symm.trans H; rw [hy220]; with_reducible exact H2_) | (have H2_ := (Option.bind_some _ _).symm.trans H; with_reducible exact H2_) | with_reducible exact H | (rw [hy220]; exact H) | exact H
                      have Ny220 := Aside0.mk hy220
                      clear hy220
                      by_cases c22 : y220.length + t208.length < 35184372088832
                      · rw [if_pos c22] at H
                        have LMc22 := Aside0.mk c22
                        clear c22
                        obtain ⟨y223, hy223⟩ : ∃ y_ : List Int, y_ = (y220 ++ t208) := ⟨_, rfl⟩
                        replace H : (if y223.length + t216.length < 35184372088832 then ((gessoref01_Same.f k1 (y223 ++ t216) l0).bind fun t229 => (if t229 = true then ((gessolaw01_awake.f k1).bind fun t230 => (some t230)) else (none))) else (none)) = some r := by first | (rw [hy223]; with_reducible exact H) | (have H2_ := (Option.bind_some _ _).symm.trans H; rw [hy223]; with_reducible exact H2_) | (have H2_ := (Option.bind_some _ _).symm.trans H; with_reducible exact H2_) | with_reducible exact H | (rw [hy223]; exact H) | exact H
                        have Ny223 := Aside0.mk hy223
                        clear hy223
                        by_cases c23 : y223.length + t216.length < 35184372088832
                        · rw [if_pos c23] at H
                          have LMc23 := Aside0.mk c23
                          clear c23
                          obtain ⟨y226, hy226⟩ : ∃ y_ : List Int, y_ = (y223 ++ t216) := ⟨_, rfl⟩
                          replace H : ((gessoref01_Same.f k1 y226 l0).bind fun t229 => (if t229 = true then ((gessolaw01_awake.f k1).bind fun t230 => (some t230)) else (none))) = some r := by first | (rw [hy226]; with_reducible exact H) | (have H2_ := (Option.bind_some _ _).symm.trans H; rw [hy226]; with_reducible exact H2_) | (have H2_ := (Option.bind_some _ _).symm.trans H; with_reducible exact H2_) | with_reducible exact H | (rw [hy226]; exact H) | exact H
                          have Ny226 := Aside0.mk hy226
                          clear hy226
                          replace H := Option.bind_eq_some_iff.mp H
                          obtain ⟨t229, A240, H⟩ := H
                          replace H : (if t229 = true then ((gessolaw01_awake.f k1).bind fun t230 => (some t230)) else (none)) = some r := H
                          have A24 := Aside0.mk A240
                          clear A240
                          by_cases c25 : t229 = true
                          · subst c25
                            have H1 : ((gessolaw01_awake.f k1).bind fun t230 => (some t230)) = some r := by rw [if_pos rfl] at H; exact H
                            clear H
                            have H := H1
                            clear H1
                            replace H := Option.bind_eq_some_iff.mp H
                            obtain ⟨t230, A260, H⟩ := H
                            replace H : (some t230) = some r := H
                            have A26 := Aside0.mk A260
                            clear A260
                            obtain rfl := Option.some.inj H
                            have q27 : ((ji12) : Int) ≤ ((t197.length : Int) : Int) := of_decide_eq_true (by first | (with_reducible assumption) | assumption)
                            obtain ⟨i027, hi027, _, hsz27, _⟩ := info_parts info5
                            have hroom27 : t197.length ≤ co7 := (Kd.R_reads' HO_5.out).2.1
                            have hC27 : Kd.C (Kd.int .u8) _ Ao7 t197.length t197 := (Kd.R_reads' HO_5.out).2.2
                            have hcut27 := cut_to (P := Tryd.prog) 23 5 .i64 Tryd.underlying23 hi027 Ao7 t197.length co7 (ji12) (of_decide_eq_true (by first | (with_reducible assumption) | assumption)) q27 hroom27
                            have hr27 := Kd.C_take (m := ((ji12) : Int).toNat) hC27 (by omega)
                            have hy27 : y204.length = ((ji12) : Int).toNat := (by rw [Ny204.out, List.length_take]; omega)
                            rw [← Ny204.out] at hr27
                            rw [← hy27] at hcut27
                            have HR207 := Aside0.mk hr27
                            have HC207 := Aside0.mk (show y204.length ≤ co7 from by omega)
                            clear hr27 hC27 hroom27 hi027 hsz27
                            have KY27 := Aside0.mk hy27
                            clear hy27
                            have KL27 := Aside0.mk (show ((ji12) : Int).toNat ≤ t197.length from by omega)
                            replace q27 := eq_true q27
                            go_wp2_with (first | ((with_reducible refine gate_callee (f := 18) rfl ?_); refine goesL_ (some 59) rfl rfl Tryd.func18 (by kernel_rfl) rfl #[.slice Ao7 y204.length co7] rfl (by (try simp only [List.map_toArray, List.map_cons, List.map_nil]); first | done | rfl | (simp only [List.length_drop, List.length_take]; rfl)) ?_; (with_reducible refine (code_Codes.calls _ _ y204 t208 t209 _ ?sideT ?side1 ?side2 A15.out).mono ?_); (case sideT => first | exact ⟨HTb_.out.below (by repeat (first | (with_reducible first | exact HB.out | apply below_alloc | apply pw_below_drewN | apply below_drew1) | exact HB.out))⟩ | exact ⟨HTb_.out.drawn (by repeat (first | exact Drawn0.refl _ | apply Drawn0.step))⟩ | exact ⟨HTb_.out.below (Drawn0.below (by repeat (first | exact Drawn0.refl _ | apply Drawn0.step)))⟩); (case side1 => repeat (first | exact (by repeat (first | (with_reducible exact HR207.out) | (with_reducible refine Kd.C_alloc ?_ _) | (with_reducible refine Kd.C_drewN ?_ _) | (with_reducible refine Kd.C_drew ?_) | exact HR207.out)) | (with_reducible refine Kd.C_alloc ?_ _) | (with_reducible refine Kd.C_drewN ?_ _) | (with_reducible refine Kd.C_drew ?_))); (case side2 => exact HC207.out); rintro e w28 ⟨v210, rfl, ho0, hb⟩; refine ⟨_, rfl, ?_⟩; have n0_ := Aside0.mk (Kd.R_below (by (with_reducible repeat (first | apply Kd.R_alloc | apply Kd.R_drewN | apply Kd.R_drew)); exact HO_5.out) hb); have n1_ := Aside0.mk (Kd.R_lower ho0 (below_size (by repeat (first | (with_reducible first | exact HB.out | apply below_alloc | apply pw_below_drewN | apply below_drew1) | exact HB.out)))); have n2_ := Aside0.mk (Kd.C_below (by repeat (first | (with_reducible exact HR207.out) | (with_reducible refine Kd.C_alloc ?_ _) | (with_reducible refine Kd.C_drewN ?_ _) | (with_reducible refine Kd.C_drew ?_) | exact HR207.out)) hb); have n3_ := Aside0.mk (below_step (by repeat (first | (with_reducible first | exact HB.out | apply below_alloc | apply pw_below_drewN | apply below_drew1) | exact HB.out)) hb); clear HO_5; clear HR207; clear HB; have HO_5 := n0_; have HO211 := n1_; have HR207 := n2_; have HB := n3_; clear n0_ n1_ n2_ n3_; (try clear hb); (try clear hb2); (try clear hk); (try clear hi); (try clear ho0); have q29 : ((ji12) : Int) ≤ ((t197.length : Int) : Int) := of_decide_eq_true (by first | (with_reducible assumption) | assumption); obtain ⟨i029, hi029, _, hsz29, _⟩ := info_parts info5; have hroom29 : t197.length ≤ co7 := (Kd.R_reads' HO_5.out).2.1; have hC29 : Kd.C (Kd.int .u8) _ Ao7 t197.length t197 := (Kd.R_reads' HO_5.out).2.2; have q029 : (0 : Int) ≤ ((ji12) : Int) := of_decide_eq_true (by first | (with_reducible assumption) | assumption); have hcut29 := cut_from (P := Tryd.prog) 23 5 .i64 Tryd.underlying23 hi029 1 hsz29 Ao7 t197.length co7 (ji12) q029 q29; have hr29 := Kd.C_drop (m := ((ji12) : Int).toNat) (c := co7) hC29 (by omega) hroom29; obtain ⟨A29, hA29⟩ : ∃ A1, A1 = (if co7 = ((ji12) : Int).toNat then Ao7 else (Ao7 : Option Addr).map (·.add (((ji12) : Int).toNat * 1))) := ⟨_, rfl⟩; obtain ⟨c29, hc29⟩ : ∃ c1, c1 = co7 - ((ji12) : Int).toNat := ⟨_, rfl⟩; have hy29 : y212.length = t197.length - ((ji12) : Int).toNat := (by rw [Ny212.out, List.length_drop] <;> omega); rw [show (t197).drop ((ji12) : Int).toNat = y212 from Ny212.out.symm] at hr29; replace hr29 : Kd.C (Kd.int .u8) _ A29 y212.length y212 := (by rw [hA29]; exact hr29); rw [← hy29, ← hA29, ← hc29] at hcut29; have HR215 := Aside0.mk hr29; have HC215 := Aside0.mk (show y212.length ≤ c29 from by rw [hy29, hc29]; exact Nat.sub_le_sub_right hroom29 _); clear hr29 hC29 hroom29 hi029 hsz29 hc29; have KY29 := Aside0.mk hy29; have KA29 := Aside0.mk hA29; clear hy29 hA29; have KL29 := Aside0.mk (show ((ji12) : Int).toNat ≤ t197.length from by omega); replace q29 := eq_true q29) | ((with_reducible refine gate_callee (f := 18) rfl ?_); refine goesL_ (some 66) rfl rfl Tryd.func18 (by kernel_rfl) rfl #[.slice A29 y212.length c29] rfl (by (try simp only [List.map_toArray, List.map_cons, List.map_nil]); first | done | rfl | (simp only [List.length_drop, List.length_take]; rfl)) ?_; (with_reducible refine (code_Codes.calls _ _ y212 t216 t217 _ ?sideT ?side1 ?side2 A18.out).mono ?_); (case sideT => first | exact ⟨HTb_.out.below (by repeat (first | (with_reducible first | exact HB.out | apply below_alloc | apply pw_below_drewN | apply below_drew1) | exact HB.out))⟩ | exact ⟨HTb_.out.drawn (by repeat (first | exact Drawn0.refl _ | apply Drawn0.step))⟩ | exact ⟨HTb_.out.below (Drawn0.below (by repeat (first | exact Drawn0.refl _ | apply Drawn0.step)))⟩); (case side1 => repeat (first | exact (by repeat (first | (with_reducible exact HR215.out) | (with_reducible refine Kd.C_alloc ?_ _) | (with_reducible refine Kd.C_drewN ?_ _) | (with_reducible refine Kd.C_drew ?_) | exact HR215.out)) | (with_reducible refine Kd.C_alloc ?_ _) | (with_reducible refine Kd.C_drewN ?_ _) | (with_reducible refine Kd.C_drew ?_))); (case side2 => exact HC215.out); rintro e w30 ⟨v218, rfl, ho0, hb⟩; refine ⟨_, rfl, ?_⟩; have n0_ := Aside0.mk (Kd.R_below (by (with_reducible repeat (first | apply Kd.R_alloc | apply Kd.R_drewN | apply Kd.R_drew)); exact HO_5.out) hb); have n1_ := Aside0.mk (Kd.R_elder' (by (with_reducible repeat (first | apply Kd.R_alloc | apply Kd.R_drewN | apply Kd.R_drew)); exact HO211.out) (Kd.R_base ho0) hb); have n2_ := Aside0.mk (Kd.R_lower (Kd.R_new' ho0 (Kd.R_lt (by (with_reducible repeat (first | apply Kd.R_alloc | apply Kd.R_drewN | apply Kd.R_drew)); exact HO211.out))) (below_size (by repeat (first | (with_reducible first | exact HB.out | apply below_alloc | apply pw_below_drewN | apply below_drew1) | exact HB.out)))); have n3_ := Aside0.mk (Kd.C_below (by repeat (first | (with_reducible exact HR207.out) | (with_reducible refine Kd.C_alloc ?_ _) | (with_reducible refine Kd.C_drewN ?_ _) | (with_reducible refine Kd.C_drew ?_) | exact HR207.out)) hb); have n4_ := Aside0.mk (Kd.C_below (by repeat (first | (with_reducible exact HR215.out) | (with_reducible refine Kd.C_alloc ?_ _) | (with_reducible refine Kd.C_drewN ?_ _) | (with_reducible refine Kd.C_drew ?_) | exact HR215.out)) hb); have n5_ := Aside0.mk (below_step (by repeat (first | (with_reducible first | exact HB.out | apply below_alloc | apply pw_below_drewN | apply below_drew1) | exact HB.out)) hb); clear HO_5; clear HO211; clear HR207; clear HR215; clear HB; have HO_5 := n0_; have HO211 := n1_; have HO219 := n2_; have HR207 := n3_; have HR215 := n4_; have HB := n5_; clear n0_ n1_ n2_ n3_ n4_ n5_; (try clear hb); (try clear hb2); (try clear hk); (try clear hi); (try clear ho0)) | ((with_reducible refine gate_dst (N := 87) rfl ?_); (try (refine gate_guard (by rfl) ?_; dsimp only)); refine Kd.R_lit (Kd.int .u32) _ 35 ?hg (N := 87) ?hd (xs := ([] : List Int)) (inner := []) (ok := fun _ => True) (okp := fun _ => True) ?hr ?hp (fun _ hk => hk) trivial (Below.refl _ _) (Nat.le_refl _) (by simp) ?_; (case hd => rfl); (case hg => rfl); (case hr => first | (go_simp; done) | (go_simp; rfl)); (case hp => exact (Reps.none _ _)); intro v221 w31 ho32 hb hg_ hnew_; clear hg_ hnew_; (first | rw [← Ny220.out] at ho32 | (simp only [Int.reduceToNat] at ho32; rw [← Ny220.out] at ho32)); have n0_ := Aside0.mk (Kd.R_below (by (with_reducible repeat (first | apply Kd.R_alloc | apply Kd.R_drewN | apply Kd.R_drew)); exact HO_5.out) hb); have n1_ := Aside0.mk (Kd.R_elder' (by (with_reducible repeat (first | apply Kd.R_alloc | apply Kd.R_drewN | apply Kd.R_drew)); exact HO211.out) (Kd.R_base ho32) hb); have n2_ := Aside0.mk (Kd.R_elder' (by (with_reducible repeat (first | apply Kd.R_alloc | apply Kd.R_drewN | apply Kd.R_drew)); exact HO219.out) (Kd.R_base ho32) hb); have n3_ := Aside0.mk (Kd.R_lower (Kd.R_new' (Kd.R_new' ho32 (Kd.R_lt (by (with_reducible repeat (first | apply Kd.R_alloc | apply Kd.R_drewN | apply Kd.R_drew)); exact HO211.out))) (Kd.R_lt (by (with_reducible repeat (first | apply Kd.R_alloc | apply Kd.R_drewN | apply Kd.R_drew)); exact HO219.out))) (below_size (by repeat (first | (with_reducible first | exact HB.out | apply below_alloc | apply pw_below_drewN | apply below_drew1) | exact HB.out)))); have n4_ := Aside0.mk (Kd.C_below (by repeat (first | (with_reducible exact HR207.out) | (with_reducible refine Kd.C_alloc ?_ _) | (with_reducible refine Kd.C_drewN ?_ _) | (with_reducible refine Kd.C_drew ?_) | exact HR207.out)) hb); have n5_ := Aside0.mk (Kd.C_below (by repeat (first | (with_reducible exact HR215.out) | (with_reducible refine Kd.C_alloc ?_ _) | (with_reducible refine Kd.C_drewN ?_ _) | (with_reducible refine Kd.C_drew ?_) | exact HR215.out)) hb); have n6_ := Aside0.mk (below_step (by repeat (first | (with_reducible first | exact HB.out | apply below_alloc | apply pw_below_drewN | apply below_drew1) | exact HB.out)) hb); clear HO_5; clear HO211; clear HO219; clear HR207; clear HR215; clear HB; have HO_5 := n0_; have HO211 := n1_; have HO219 := n2_; have HO222 := n3_; have HR207 := n4_; have HR215 := n5_; have HB := n6_; clear n0_ n1_ n2_ n3_ n4_ n5_ n6_; clear hb ho32; obtain ⟨Ao34, co34, eo34⟩ := Kd.R_slice HO211.out; subst eo34) | ((with_reducible refine gate_builtin (b := .append) (xs := #[.tmp 87, .tmp 88]) rfl ?_); (try (refine gate_guard (by rfl) ?_; dsimp only)); at_builtin; refine Kd.R_append_rows (Kd.int .u32) (w0 := w) w.heap.size rfl (.tmp 87) (.tmp 88) 22 35 (.int .u32 0) 4 rfl Tryd.underlying22 info35 rfl (by decide) (by omega) v221 y220 t208 _ _ _ (fun k_ => some k_ ≠ (.slice Ao34 t208.length co34 : Value).ownBlock ∧ some k_ ≠ (v218 : Value).ownBlock) (fun _ => False) rfl rfl ?aO ?aR (fun _ _ h => h) (fun _ h => h.elim) ?aF ?aB ?aS ?aL ?_; (case aR => repeat (first | exact (Kd.R_reads' HO211.out).2.2 | (with_reducible refine Kd.C_alloc ?_ _) | (with_reducible refine Kd.C_drewN ?_ _) | (with_reducible refine Kd.C_drew ?_))); (case aB => exact (by repeat (first | (with_reducible first | exact HB.out | apply below_alloc | apply pw_below_drewN | apply below_drew1) | exact HB.out))); (case aF => exact (fun k_ hk => ⟨Kd.fresh' (Kd.R_lt (by (with_reducible repeat (first | apply Kd.R_alloc | apply Kd.R_drewN | apply Kd.R_drew)); exact HO211.out)) k_ hk, Kd.fresh' (Kd.R_lt (by (with_reducible repeat (first | apply Kd.R_alloc | apply Kd.R_drewN | apply Kd.R_drew)); exact HO219.out)) k_ hk⟩)); (case aO => exact (by (with_reducible repeat (first | apply Kd.R_alloc | apply Kd.R_drewN | apply Kd.R_drew)); exact Kd.R_mono HO222.out (fun _ hk => ⟨hk.1.2, hk.2⟩))); (case aS => exact (below_size (by repeat (first | (with_reducible first | exact HB.out | apply below_alloc | apply pw_below_drewN | apply below_drew1) | exact HB.out)))); (case aL => have := LMc22.out; omega); intro v224 w33 ho hb hg hat; rw [← Ny223.out] at ho; have n0_ := Aside0.mk (Kd.R_over' (by (with_reducible repeat (first | apply Kd.R_alloc | apply Kd.R_drewN | apply Kd.R_drew)); exact HO_5.out) (Kd.R_typed (by (with_reducible repeat (first | apply Kd.R_alloc | apply Kd.R_drewN | apply Kd.R_drew)); exact HO222.out)) (by decide) hg); have n1_ := Aside0.mk (Kd.R_after (ok := (fun k_ => some k_ ≠ (v218 : Value).ownBlock)) (by (with_reducible repeat (first | apply Kd.R_alloc | apply Kd.R_drewN | apply Kd.R_drew)); exact Kd.R_mono HO211.out (fun _ hk => ⟨hk.1.2, hk.2⟩)) hg hat); have n2_ := Aside0.mk (Kd.R_after (ok := (fun k_ => some k_ ≠ (.slice Ao34 t208.length co34 : Value).ownBlock)) (by (with_reducible repeat (first | apply Kd.R_alloc | apply Kd.R_drewN | apply Kd.R_drew)); exact Kd.R_mono HO219.out (fun _ hk => ⟨hk.1.2, hk.2⟩)) hg hat); have n3_ := Aside0.mk (hb); have n4_ := Aside0.mk ((show Kd.C (Kd.int .u8) w33 Ao7 y204.length y204 from by rw [Ny204.out]; exact Kd.C_take (m := ((ji12) : Int).toNat) ((Kd.R_reads' (Kd.R_over' (by (with_reducible repeat (first | apply Kd.R_alloc | apply Kd.R_drewN | apply Kd.R_drew)); exact HO_5.out) (Kd.R_typed (by (with_reducible repeat (first | apply Kd.R_alloc | apply Kd.R_drewN | apply Kd.R_drew)); exact HO222.out)) (by decide) hg)).2.2) KL27.out)); have n5_ := Aside0.mk ((show Kd.C (Kd.int .u8) w33 A29 y212.length y212 from by rw [Ny212.out, KA29.out]; exact Kd.C_drop (m := ((ji12) : Int).toNat) (c := co7) ((Kd.R_reads' (Kd.R_over' (by (with_reducible repeat (first | apply Kd.R_alloc | apply Kd.R_drewN | apply Kd.R_drew)); exact HO_5.out) (Kd.R_typed (by (with_reducible repeat (first | apply Kd.R_alloc | apply Kd.R_drewN | apply Kd.R_drew)); exact HO222.out)) (by decide) hg)).2.2) KL29.out ((Kd.R_reads' (Kd.R_over' (by (with_reducible repeat (first | apply Kd.R_alloc | apply Kd.R_drewN | apply Kd.R_drew)); exact HO_5.out) (Kd.R_typed (by (with_reducible repeat (first | apply Kd.R_alloc | apply Kd.R_drewN | apply Kd.R_drew)); exact HO222.out)) (by decide) hg)).2.1))); have n6_ := Aside0.mk (ho); clear HO_5; clear HO211; clear HO219; clear HB; clear HR207; clear HR215; clear HO222; have HO_5 := n0_; have HO211 := n1_; have HO219 := n2_; have HB := n3_; have HR207 := n4_; have HR215 := n5_; have HO225 := n6_; clear n0_ n1_ n2_ n3_ n4_ n5_ n6_; clear ho hb hg hat; obtain ⟨Ao36, co36, eo36⟩ := Kd.R_slice HO219.out; subst eo36) | ((with_reducible refine gate_builtin (b := .append) (xs := #[.tmp 89, .tmp 90]) rfl ?_); (try (refine gate_guard (by rfl) ?_; dsimp only)); at_builtin; refine Kd.R_append_rows (Kd.int .u32) (w0 := w) w.heap.size rfl (.tmp 89) (.tmp 90) 22 35 (.int .u32 0) 4 rfl Tryd.underlying22 info35 rfl (by decide) (by omega) v224 y223 t216 _ _ _ (fun k_ => some k_ ≠ (.slice Ao34 t208.length co34 : Value).ownBlock ∧ some k_ ≠ (.slice Ao36 t216.length co36 : Value).ownBlock) (fun _ => False) rfl rfl ?aO ?aR (fun _ _ h => h) (fun _ h => h.elim) ?aF ?aB ?aS ?aL ?_; (case aR => repeat (first | exact (Kd.R_reads' HO219.out).2.2 | (with_reducible refine Kd.C_alloc ?_ _) | (with_reducible refine Kd.C_drewN ?_ _) | (with_reducible refine Kd.C_drew ?_))); (case aB => exact (by repeat (first | (with_reducible first | exact HB.out | apply below_alloc | apply pw_below_drewN | apply below_drew1) | exact HB.out))); (case aF => exact (fun k_ hk => ⟨Kd.fresh' (Kd.R_lt (by (with_reducible repeat (first | apply Kd.R_alloc | apply Kd.R_drewN | apply Kd.R_drew)); exact HO211.out)) k_ hk, Kd.fresh' (Kd.R_lt (by (with_reducible repeat (first | apply Kd.R_alloc | apply Kd.R_drewN | apply Kd.R_drew)); exact HO219.out)) k_ hk⟩)); (case aO => exact (by (with_reducible repeat (first | apply Kd.R_alloc | apply Kd.R_drewN | apply Kd.R_drew)); exact HO225.out)); (case aS => exact (below_size (by repeat (first | (with_reducible first | exact HB.out | apply below_alloc | apply pw_below_drewN | apply below_drew1) | exact HB.out)))); (case aL => have := LMc23.out; omega); intro v227 w35 ho hb hg hat; rw [← Ny226.out] at ho; have n0_ := Aside0.mk (Kd.R_over' (by (with_reducible repeat (first | apply Kd.R_alloc | apply Kd.R_drewN | apply Kd.R_drew)); exact HO_5.out) (Kd.R_typed (by (with_reducible repeat (first | apply Kd.R_alloc | apply Kd.R_drewN | apply Kd.R_drew)); exact HO225.out)) (by decide) hg); have n1_ := Aside0.mk (Kd.R_after (ok := (fun k_ => some k_ ≠ (.slice Ao36 t216.length co36 : Value).ownBlock)) (by (with_reducible repeat (first | apply Kd.R_alloc | apply Kd.R_drewN | apply Kd.R_drew)); exact HO211.out) hg hat); have n2_ := Aside0.mk (Kd.R_after (ok := (fun k_ => some k_ ≠ (.slice Ao34 t208.length co34 : Value).ownBlock)) (by (with_reducible repeat (first | apply Kd.R_alloc | apply Kd.R_drewN | apply Kd.R_drew)); exact HO219.out) hg hat); have n3_ := Aside0.mk (hb); have n4_ := Aside0.mk ((show Kd.C (Kd.int .u8) w35 Ao7 y204.length y204 from by rw [Ny204.out]; exact Kd.C_take (m := ((ji12) : Int).toNat) ((Kd.R_reads' (Kd.R_over' (by (with_reducible repeat (first | apply Kd.R_alloc | apply Kd.R_drewN | apply Kd.R_drew)); exact HO_5.out) (Kd.R_typed (by (with_reducible repeat (first | apply Kd.R_alloc | apply Kd.R_drewN | apply Kd.R_drew)); exact HO225.out)) (by decide) hg)).2.2) KL27.out)); have n5_ := Aside0.mk ((show Kd.C (Kd.int .u8) w35 A29 y212.length y212 from by rw [Ny212.out, KA29.out]; exact Kd.C_drop (m := ((ji12) : Int).toNat) (c := co7) ((Kd.R_reads' (Kd.R_over' (by (with_reducible repeat (first | apply Kd.R_alloc | apply Kd.R_drewN | apply Kd.R_drew)); exact HO_5.out) (Kd.R_typed (by (with_reducible repeat (first | apply Kd.R_alloc | apply Kd.R_drewN | apply Kd.R_drew)); exact HO225.out)) (by decide) hg)).2.2) KL29.out ((Kd.R_reads' (Kd.R_over' (by (with_reducible repeat (first | apply Kd.R_alloc | apply Kd.R_drewN | apply Kd.R_drew)); exact HO_5.out) (Kd.R_typed (by (with_reducible repeat (first | apply Kd.R_alloc | apply Kd.R_drewN | apply Kd.R_drew)); exact HO225.out)) (by decide) hg)).2.1))); have n6_ := Aside0.mk (ho); clear HO_5; clear HO211; clear HO219; clear HB; clear HR207; clear HR215; clear HO225; have HO_5 := n0_; have HO211 := n1_; have HO219 := n2_; have HB := n3_; have HR207 := n4_; have HR215 := n5_; have HO228 := n6_; clear n0_ n1_ n2_ n3_ n4_ n5_ n6_; clear ho hb hg hat; obtain ⟨Ao37, co37, eo37⟩ := Kd.R_slice HO228.out; subst eo37) | (go_at_call 19; (with_reducible refine (gessoref01_Same.calls k1 _ _ y226 _ _ l0 true _ ?side1 ?side2 ?side3 ?side4 A24.out).mono ?_); (case side1 => repeat (first | exact (Kd.R_reads' HO228.out).2.2 | (with_reducible refine Kd.C_alloc ?_ _) | (with_reducible refine Kd.C_drewN ?_ _) | (with_reducible refine Kd.C_drew ?_))); (case side2 => exact (Kd.R_reads' HO228.out).2.1); (case side3 => repeat (first | exact (Kd.C_below HR0.out HB.out) | (with_reducible refine Kd.C_alloc ?_ _) | (with_reducible refine Kd.C_drewN ?_ _) | (with_reducible refine Kd.C_drew ?_))); (case side4 => exact HC0.out); rintro e w' ⟨rfl, ⟨nd, rfl⟩⟩) | (go_at_call 21; (with_reducible refine (gessolaw01_awake.calls k1  t230 _ ?sideT A26.out).mono ?_); (case sideT => first | exact ⟨HTb_.out.below (by repeat (first | (with_reducible first | exact HB.out | apply below_alloc | apply pw_below_drewN | apply below_drew1) | exact HB.out))⟩ | exact ⟨HTb_.out.drawn (by repeat (first | exact Drawn0.refl _ | apply Drawn0.step))⟩ | exact ⟨HTb_.out.below (Drawn0.below (by repeat (first | exact Drawn0.refl _ | apply Drawn0.step)))⟩); rintro e w38 ⟨rfl, hb⟩; have n0_ := Aside0.mk (Kd.R_below (by (with_reducible repeat (first | apply Kd.R_alloc | apply Kd.R_drewN | apply Kd.R_drew)); exact HO_5.out) hb); have n1_ := Aside0.mk (Kd.R_below (by (with_reducible repeat (first | apply Kd.R_alloc | apply Kd.R_drewN | apply Kd.R_drew)); exact HO211.out) hb); have n2_ := Aside0.mk (Kd.R_below (by (with_reducible repeat (first | apply Kd.R_alloc | apply Kd.R_drewN | apply Kd.R_drew)); exact HO219.out) hb); have n3_ := Aside0.mk (Kd.R_below (by (with_reducible repeat (first | apply Kd.R_alloc | apply Kd.R_drewN | apply Kd.R_drew)); exact HO228.out) hb); have n4_ := Aside0.mk (Kd.C_below (by repeat (first | (with_reducible exact HR207.out) | (with_reducible refine Kd.C_alloc ?_ _) | (with_reducible refine Kd.C_drewN ?_ _) | (with_reducible refine Kd.C_drew ?_) | exact HR207.out)) hb); have n5_ := Aside0.mk (Kd.C_below (by repeat (first | (with_reducible exact HR215.out) | (with_reducible refine Kd.C_alloc ?_ _) | (with_reducible refine Kd.C_drewN ?_ _) | (with_reducible refine Kd.C_drew ?_) | exact HR215.out)) hb); have n6_ := Aside0.mk (below_step (by repeat (first | (with_reducible first | exact HB.out | apply below_alloc | apply pw_below_drewN | apply below_drew1) | exact HB.out)) hb); clear HO_5; clear HO211; clear HO219; clear HO228; clear HR207; clear HR215; clear HB; have HO_5 := n0_; have HO211 := n1_; have HO219 := n2_; have HO228 := n3_; have HR207 := n4_; have HR215 := n5_; have HB := n6_; clear n0_ n1_ n2_ n3_ n4_ n5_ n6_; (try clear hb); (try clear hb2); (try clear hk); (try clear hi)))
                            go_ret
                            exact ⟨by first | rfl | (simp [errW_none, errW_some] <;> rfl) | (simp only [← hji12]; first | rfl | (simp [errW_none, errW_some] <;> rfl)) | (simp [*, errW_none, errW_some] <;> rfl), by repeat (first | (with_reducible first | exact HB.out | apply below_alloc | apply pw_below_drewN | apply below_drew1) | exact HB.out)⟩
                          · replace c25 := Bool.eq_false_iff.mpr c25
                            subst c25
                            have H1 : (none) = some r := by rw [if_neg (show ¬ (false = true) by decide)] at H; exact H
                            clear H
                            have H := H1
                            clear H1
                            exact absurd H (by simp)
                        · rw [if_neg c23] at H
                          exact absurd H (by simp)
                      · rw [if_neg c22] at H
                        exact absurd H (by simp)
                    · rw [if_neg c21] at H
                      exact absurd H (by simp)
                  · rw [if_neg c20] at H
                    exact absurd H (by simp)
                · replace c19 := Bool.eq_false_iff.mpr c19
                  subst c19
                  have H1 : (if t209 = 6 then (if t217 = 6 then ((gessolaw01_awake.f k1).bind fun t231 => (some t231)) else (none)) else (none)) = some r := by rw [if_neg (show ¬ (false = true) by decide)] at H; exact H
                  clear H
                  have H := H1
                  clear H1
                  by_cases c39 : t209 = 6
                  · rw [if_pos c39] at H
                    have c39b0 : (t209 == 6) = true := beq_iff_eq.mpr c39
                    have c39b1 : (t209 != 6) = false := bne_eq_false_iff_eq.mpr c39
                    clear c39
                    by_cases c40 : t217 = 6
                    · rw [if_pos c40] at H
                      have c40b0 : (t217 == 6) = true := beq_iff_eq.mpr c40
                      have c40b1 : (t217 != 6) = false := bne_eq_false_iff_eq.mpr c40
                      clear c40
                      replace H := Option.bind_eq_some_iff.mp H
                      obtain ⟨t231, A410, H⟩ := H
                      replace H : (some t231) = some r := H
                      have A41 := Aside0.mk A410
                      clear A410
                      obtain rfl := Option.some.inj H
                      have q42 : ((ji12) : Int) ≤ ((t197.length : Int) : Int) := of_decide_eq_true (by first | (with_reducible assumption) | assumption)
                      obtain ⟨i042, hi042, _, hsz42, _⟩ := info_parts info5
                      have hroom42 : t197.length ≤ co7 := (Kd.R_reads' HO_5.out).2.1
                      have hC42 : Kd.C (Kd.int .u8) _ Ao7 t197.length t197 := (Kd.R_reads' HO_5.out).2.2
                      have hcut42 := cut_to (P := Tryd.prog) 23 5 .i64 Tryd.underlying23 hi042 Ao7 t197.length co7 (ji12) (of_decide_eq_true (by first | (with_reducible assumption) | assumption)) q42 hroom42
                      have hr42 := Kd.C_take (m := ((ji12) : Int).toNat) hC42 (by omega)
                      have hy42 : y204.length = ((ji12) : Int).toNat := (by rw [Ny204.out, List.length_take]; omega)
                      rw [← Ny204.out] at hr42
                      rw [← hy42] at hcut42
                      have HR207 := Aside0.mk hr42
                      have HC207 := Aside0.mk (show y204.length ≤ co7 from by omega)
                      clear hr42 hC42 hroom42 hi042 hsz42
                      have KY42 := Aside0.mk hy42
                      clear hy42
                      have KL42 := Aside0.mk (show ((ji12) : Int).toNat ≤ t197.length from by omega)
                      replace q42 := eq_true q42
                      go_wp2_with (first | ((with_reducible refine gate_callee (f := 18) rfl ?_); refine goesL_ (some 59) rfl rfl Tryd.func18 (by kernel_rfl) rfl #[.slice Ao7 y204.length co7] rfl (by (try simp only [List.map_toArray, List.map_cons, List.map_nil]); first | done | rfl | (simp only [List.length_drop, List.length_take]; rfl)) ?_; (with_reducible refine (code_Codes.calls _ _ y204 t208 t209 _ ?sideT ?side1 ?side2 A15.out).mono ?_); (case sideT => first | exact ⟨HTb_.out.below (by repeat (first | (with_reducible first | exact HB.out | apply below_alloc | apply pw_below_drewN | apply below_drew1) | exact HB.out))⟩ | exact ⟨HTb_.out.drawn (by repeat (first | exact Drawn0.refl _ | apply Drawn0.step))⟩ | exact ⟨HTb_.out.below (Drawn0.below (by repeat (first | exact Drawn0.refl _ | apply Drawn0.step)))⟩); (case side1 => repeat (first | exact (by repeat (first | (with_reducible exact HR207.out) | (with_reducible refine Kd.C_alloc ?_ _) | (with_reducible refine Kd.C_drewN ?_ _) | (with_reducible refine Kd.C_drew ?_) | exact HR207.out)) | (with_reducible refine Kd.C_alloc ?_ _) | (with_reducible refine Kd.C_drewN ?_ _) | (with_reducible refine Kd.C_drew ?_))); (case side2 => exact HC207.out); rintro e w43 ⟨v210, rfl, ho0, hb⟩; refine ⟨_, rfl, ?_⟩; have n0_ := Aside0.mk (Kd.R_below (by (with_reducible repeat (first | apply Kd.R_alloc | apply Kd.R_drewN | apply Kd.R_drew)); exact HO_5.out) hb); have n1_ := Aside0.mk (Kd.R_lower ho0 (below_size (by repeat (first | (with_reducible first | exact HB.out | apply below_alloc | apply pw_below_drewN | apply below_drew1) | exact HB.out)))); have n2_ := Aside0.mk (Kd.C_below (by repeat (first | (with_reducible exact HR207.out) | (with_reducible refine Kd.C_alloc ?_ _) | (with_reducible refine Kd.C_drewN ?_ _) | (with_reducible refine Kd.C_drew ?_) | exact HR207.out)) hb); have n3_ := Aside0.mk (below_step (by repeat (first | (with_reducible first | exact HB.out | apply below_alloc | apply pw_below_drewN | apply below_drew1) | exact HB.out)) hb); clear HO_5; clear HR207; clear HB; have HO_5 := n0_; have HO211 := n1_; have HR207 := n2_; have HB := n3_; clear n0_ n1_ n2_ n3_; (try clear hb); (try clear hb2); (try clear hk); (try clear hi); (try clear ho0); have q44 : ((ji12) : Int) ≤ ((t197.length : Int) : Int) := of_decide_eq_true (by first | (with_reducible assumption) | assumption); obtain ⟨i044, hi044, _, hsz44, _⟩ := info_parts info5; have hroom44 : t197.length ≤ co7 := (Kd.R_reads' HO_5.out).2.1; have hC44 : Kd.C (Kd.int .u8) _ Ao7 t197.length t197 := (Kd.R_reads' HO_5.out).2.2; have q044 : (0 : Int) ≤ ((ji12) : Int) := of_decide_eq_true (by first | (with_reducible assumption) | assumption); have hcut44 := cut_from (P := Tryd.prog) 23 5 .i64 Tryd.underlying23 hi044 1 hsz44 Ao7 t197.length co7 (ji12) q044 q44; have hr44 := Kd.C_drop (m := ((ji12) : Int).toNat) (c := co7) hC44 (by omega) hroom44; obtain ⟨A44, hA44⟩ : ∃ A1, A1 = (if co7 = ((ji12) : Int).toNat then Ao7 else (Ao7 : Option Addr).map (·.add (((ji12) : Int).toNat * 1))) := ⟨_, rfl⟩; obtain ⟨c44, hc44⟩ : ∃ c1, c1 = co7 - ((ji12) : Int).toNat := ⟨_, rfl⟩; have hy44 : y212.length = t197.length - ((ji12) : Int).toNat := (by rw [Ny212.out, List.length_drop] <;> omega); rw [show (t197).drop ((ji12) : Int).toNat = y212 from Ny212.out.symm] at hr44; replace hr44 : Kd.C (Kd.int .u8) _ A44 y212.length y212 := (by rw [hA44]; exact hr44); rw [← hy44, ← hA44, ← hc44] at hcut44; have HR215 := Aside0.mk hr44; have HC215 := Aside0.mk (show y212.length ≤ c44 from by rw [hy44, hc44]; exact Nat.sub_le_sub_right hroom44 _); clear hr44 hC44 hroom44 hi044 hsz44 hc44; have KY44 := Aside0.mk hy44; have KA44 := Aside0.mk hA44; clear hy44 hA44; have KL44 := Aside0.mk (show ((ji12) : Int).toNat ≤ t197.length from by omega); replace q44 := eq_true q44) | ((with_reducible refine gate_callee (f := 18) rfl ?_); refine goesL_ (some 66) rfl rfl Tryd.func18 (by kernel_rfl) rfl #[.slice A44 y212.length c44] rfl (by (try simp only [List.map_toArray, List.map_cons, List.map_nil]); first | done | rfl | (simp only [List.length_drop, List.length_take]; rfl)) ?_; (with_reducible refine (code_Codes.calls _ _ y212 t216 t217 _ ?sideT ?side1 ?side2 A18.out).mono ?_); (case sideT => first | exact ⟨HTb_.out.below (by repeat (first | (with_reducible first | exact HB.out | apply below_alloc | apply pw_below_drewN | apply below_drew1) | exact HB.out))⟩ | exact ⟨HTb_.out.drawn (by repeat (first | exact Drawn0.refl _ | apply Drawn0.step))⟩ | exact ⟨HTb_.out.below (Drawn0.below (by repeat (first | exact Drawn0.refl _ | apply Drawn0.step)))⟩); (case side1 => repeat (first | exact (by repeat (first | (with_reducible exact HR215.out) | (with_reducible refine Kd.C_alloc ?_ _) | (with_reducible refine Kd.C_drewN ?_ _) | (with_reducible refine Kd.C_drew ?_) | exact HR215.out)) | (with_reducible refine Kd.C_alloc ?_ _) | (with_reducible refine Kd.C_drewN ?_ _) | (with_reducible refine Kd.C_drew ?_))); (case side2 => exact HC215.out); rintro e w45 ⟨v218, rfl, ho0, hb⟩; refine ⟨_, rfl, ?_⟩; have n0_ := Aside0.mk (Kd.R_below (by (with_reducible repeat (first | apply Kd.R_alloc | apply Kd.R_drewN | apply Kd.R_drew)); exact HO_5.out) hb); have n1_ := Aside0.mk (Kd.R_elder' (by (with_reducible repeat (first | apply Kd.R_alloc | apply Kd.R_drewN | apply Kd.R_drew)); exact HO211.out) (Kd.R_base ho0) hb); have n2_ := Aside0.mk (Kd.R_lower (Kd.R_new' ho0 (Kd.R_lt (by (with_reducible repeat (first | apply Kd.R_alloc | apply Kd.R_drewN | apply Kd.R_drew)); exact HO211.out))) (below_size (by repeat (first | (with_reducible first | exact HB.out | apply below_alloc | apply pw_below_drewN | apply below_drew1) | exact HB.out)))); have n3_ := Aside0.mk (Kd.C_below (by repeat (first | (with_reducible exact HR207.out) | (with_reducible refine Kd.C_alloc ?_ _) | (with_reducible refine Kd.C_drewN ?_ _) | (with_reducible refine Kd.C_drew ?_) | exact HR207.out)) hb); have n4_ := Aside0.mk (Kd.C_below (by repeat (first | (with_reducible exact HR215.out) | (with_reducible refine Kd.C_alloc ?_ _) | (with_reducible refine Kd.C_drewN ?_ _) | (with_reducible refine Kd.C_drew ?_) | exact HR215.out)) hb); have n5_ := Aside0.mk (below_step (by repeat (first | (with_reducible first | exact HB.out | apply below_alloc | apply pw_below_drewN | apply below_drew1) | exact HB.out)) hb); clear HO_5; clear HO211; clear HR207; clear HR215; clear HB; have HO_5 := n0_; have HO211 := n1_; have HO219 := n2_; have HR207 := n3_; have HR215 := n4_; have HB := n5_; clear n0_ n1_ n2_ n3_ n4_ n5_; (try clear hb); (try clear hb2); (try clear hk); (try clear hi); (try clear ho0)) | (go_at_call 21; (with_reducible refine (gessolaw01_awake.calls k1  t231 _ ?sideT A41.out).mono ?_); (case sideT => first | exact ⟨HTb_.out.below (by repeat (first | (with_reducible first | exact HB.out | apply below_alloc | apply pw_below_drewN | apply below_drew1) | exact HB.out))⟩ | exact ⟨HTb_.out.drawn (by repeat (first | exact Drawn0.refl _ | apply Drawn0.step))⟩ | exact ⟨HTb_.out.below (Drawn0.below (by repeat (first | exact Drawn0.refl _ | apply Drawn0.step)))⟩); rintro e w46 ⟨rfl, hb⟩; have n0_ := Aside0.mk (Kd.R_below (by (with_reducible repeat (first | apply Kd.R_alloc | apply Kd.R_drewN | apply Kd.R_drew)); exact HO_5.out) hb); have n1_ := Aside0.mk (Kd.R_below (by (with_reducible repeat (first | apply Kd.R_alloc | apply Kd.R_drewN | apply Kd.R_drew)); exact HO211.out) hb); have n2_ := Aside0.mk (Kd.R_below (by (with_reducible repeat (first | apply Kd.R_alloc | apply Kd.R_drewN | apply Kd.R_drew)); exact HO219.out) hb); have n3_ := Aside0.mk (Kd.C_below (by repeat (first | (with_reducible exact HR207.out) | (with_reducible refine Kd.C_alloc ?_ _) | (with_reducible refine Kd.C_drewN ?_ _) | (with_reducible refine Kd.C_drew ?_) | exact HR207.out)) hb); have n4_ := Aside0.mk (Kd.C_below (by repeat (first | (with_reducible exact HR215.out) | (with_reducible refine Kd.C_alloc ?_ _) | (with_reducible refine Kd.C_drewN ?_ _) | (with_reducible refine Kd.C_drew ?_) | exact HR215.out)) hb); have n5_ := Aside0.mk (below_step (by repeat (first | (with_reducible first | exact HB.out | apply below_alloc | apply pw_below_drewN | apply below_drew1) | exact HB.out)) hb); clear HO_5; clear HO211; clear HO219; clear HR207; clear HR215; clear HB; have HO_5 := n0_; have HO211 := n1_; have HO219 := n2_; have HR207 := n3_; have HR215 := n4_; have HB := n5_; clear n0_ n1_ n2_ n3_ n4_ n5_; (try clear hb); (try clear hb2); (try clear hk); (try clear hi)))
                      go_ret
                      exact ⟨by first | rfl | (simp [errW_none, errW_some] <;> rfl) | (simp only [← hji12]; first | rfl | (simp [errW_none, errW_some] <;> rfl)) | (simp [*, errW_none, errW_some] <;> rfl), by repeat (first | (with_reducible first | exact HB.out | apply below_alloc | apply pw_below_drewN | apply below_drew1) | exact HB.out)⟩
                    · rw [if_neg c40] at H
                      exact absurd H (by simp)
                  · rw [if_neg c39] at H
                    exact absurd H (by simp)
              · rw [if_neg c14] at H
                exact absurd H (by simp)
            · rw [if_neg c13] at H
              exact absurd H (by simp)
  · rw [if_neg c4] at H
    have c4b0 : (t198 == 0) = false := beq_eq_false_iff_ne.mpr c4
    have c4b1 : (t198 != 0) = true := bne_iff_ne.mpr c4
    by_cases c47 : (t197.length : Int) = 0
    · rw [if_pos c47] at H
      have c47b0 : ((t197.length : Int) == 0) = true := beq_iff_eq.mpr c47
      have c47b1 : ((t197.length : Int) != 0) = false := bne_eq_false_iff_eq.mpr c47
      clear c47
      replace H := Option.bind_eq_some_iff.mp H
      obtain ⟨t201, A480, H⟩ := H
      replace H : (some t201) = some r := H
      have A48 := Aside0.mk A480
      clear A480
      obtain rfl := Option.some.inj H
      go_enter Tryd.func4, Tryd.ntmps4
      go_wp2_with (first | ((with_reducible refine gate_callee (f := 17) rfl ?_); refine goesL_ (some 17) rfl rfl Tryd.func17 (by kernel_rfl) rfl #[.slice A0 l0.length c0] rfl (by (try simp only [List.map_toArray, List.map_cons, List.map_nil]); first | done | rfl | (simp only [List.length_drop, List.length_take]; rfl)) ?_; (with_reducible refine (code_Bytes.calls k _ _ l0 t197 t198 _ ?side1 ?side2 A3.out).mono ?_); (case side1 => repeat (first | exact HR0.out | (with_reducible refine Kd.C_alloc ?_ _) | (with_reducible refine Kd.C_drewN ?_ _) | (with_reducible refine Kd.C_drew ?_))); (case side2 => exact HC0.out); rintro e w49 ⟨v199, rfl, ho0, hb⟩; refine ⟨_, rfl, ?_⟩; have n0_ := Aside0.mk (Kd.R_lower ho0 (below_size (by repeat (first | (with_reducible first | exact HB.out | apply below_alloc | apply pw_below_drewN | apply below_drew1) | exact HB.out)))); have n1_ := Aside0.mk (below_step (by repeat (first | (with_reducible first | exact HB.out | apply below_alloc | apply pw_below_drewN | apply below_drew1) | exact HB.out)) hb); clear HB; have HO200 := n0_; have HB := n1_; clear n0_ n1_; (try clear hb); (try clear hb2); (try clear hk); (try clear hi); (try clear ho0); obtain ⟨Ao50, co50, eo50⟩ := Kd.R_slice HO200.out; subst eo50) | (go_at_call 21; (with_reducible refine (gessolaw01_awake.calls k  t201 _ ?sideT A48.out).mono ?_); (case sideT => first | exact ⟨HTb_.out.below (by repeat (first | (with_reducible first | exact HB.out | apply below_alloc | apply pw_below_drewN | apply below_drew1) | exact HB.out))⟩ | exact ⟨HTb_.out.drawn (by repeat (first | exact Drawn0.refl _ | apply Drawn0.step))⟩ | exact ⟨HTb_.out.below (Drawn0.below (by repeat (first | exact Drawn0.refl _ | apply Drawn0.step)))⟩); rintro e w51 ⟨rfl, hb⟩; have n0_ := Aside0.mk (Kd.R_below (by (with_reducible repeat (first | apply Kd.R_alloc | apply Kd.R_drewN | apply Kd.R_drew)); exact HO200.out) hb); have n1_ := Aside0.mk (below_step (by repeat (first | (with_reducible first | exact HB.out | apply below_alloc | apply pw_below_drewN | apply below_drew1) | exact HB.out)) hb); clear HO200; clear HB; have HO200 := n0_; have HB := n1_; clear n0_ n1_; (try clear hb); (try clear hb2); (try clear hk); (try clear hi)))
      go_ret
      exact ⟨by first | rfl | (simp [errW_none, errW_some] <;> rfl) | (simp [*, errW_none, errW_some] <;> rfl), by repeat (first | (with_reducible first | exact HB.out | apply below_alloc | apply pw_below_drewN | apply below_drew1) | exact HB.out)⟩
    · rw [if_neg c47] at H
      exact absurd H (by simp)

/-- THE ONE PURE STATEMENT of gessolaw01_CodeCuts: yours. -/
def gessolaw01_CodeCuts.Pure : Prop := ∀ (l0 : List Int) (a1 : Int), l0.length ≤ maxLen → l0.length * 4 ≤ 140737488351232 → (∀ x ∈ l0, (Lit.int .u32 x).wf = true) → (Lit.int .u16 a1).wf = true → ∃ k, gessolaw01_CodeCuts.f k l0 a1 = some true
theorem gessolaw01_CodeCuts.walk (P : gessolaw01_CodeCuts.Pure) (a0 : Option Addr) (len0 cap0 : Nat) (z0 : List Int) (a1 : Int) (w : World) (HTb_ : Aside0 (Tabs w)) (w0 : (a0 = none ∧ len0 = 0 ∧ cap0 = 0 ∧ z0 = []) ∨ ∃ x, a0 = some x ∧ len0 ≤ cap0 ∧ cap0 ≤ maxLen ∧ z0.length = cap0 ∧ (∀ i, i < z0.length → w.cell? (x.add i) = some (.int .u32 (z0.getD i 0))) ∧ ∀ n ∈ z0, (Lit.int .u32 n).wf = true) (y0 : len0 * 4 ≤ 140737488351232) (w1 : (Lit.int .u16 a1).wf = true) :
    Calls Tryd.prog 4 #[.slice a0 len0 cap0, .int .u16 a1] w fun e w' => e = .returned (.bool true) ∧ Below w.heap.size w w' := by
  obtain ⟨l0, rfl, hr0, hm0, hw0, hc0⟩ := ReadsInt.ofRowC w0
  obtain ⟨k, h⟩ := P l0 a1 hm0 y0 hw0 w1
  refine (gessolaw01_CodeCuts.calls k _ _ l0 a1 true w HTb_ (Kd.C_of_reads (d := (0 : Int)) (h1 := fun _ => rfl) hr0) hc0 h).mono ?_
  rintro e w' ⟨rfl, hd⟩
  exact ⟨rfl, hd⟩

end Go.Proofs.YtjlhehaagaaihaaDoor.P
