/- Functions of the translated program as plain Lean functions, and proofs that their calls come to these. Written by a program of the session. No condition. -/
import Derived.Test.YtjlhehaagaaihaaDoorPx0
namespace Go.Proofs.YtjlhehaagaaihaaDoor.P
open Go.RowKit Go.Proofs.YtjlhehaagaaihaaDoorW.PrintWords Go.Proofs.YtjlhehaagaaihaaDoorW.PrintLast Go.Proofs.YtjlhehaagaaihaaDoorW.PrintMore
attribute [local go_sem] max2_int min2_int max_two min_two max_three min_three max_four min_four   -- for this text's walks alone
set_option linter.unusedVariables false
set_option linter.unusedSimpArgs false

/-! ### gessoref01_number: function 49 -/
mutual
def gessoref01_number.j0 : Nat → List Int → Int → Int → Option (Int × Bool)
  | 0, _, _, _ => none
  | k + 1, x0, x1, x6 => gessoref01_number.l0 k x0 x1 x6 1
def gessoref01_number.l0 : Nat → List Int → Int → Int → Int → Option (Int × Bool)
  | 0, _, _, _, _ => none
  | k + 1, x0, x1, x6, x7 => if x7 < x1 then (if 0 ≤ x7 then (if x7 < (x0.length : Int) then (if (rd x0 x7) < 128 then (some (0, false)) else (if (rd x0 x7) > 191 then (some (0, false)) else (gessoref01_number.l0 k x0 x1 ((((64 * x6) % 4294967296) + (((rd x0 x7) - 128) % 256)) % 4294967296) (wrap64 (x7 + 1))))) else (none)) else (none)) else (some (x6, true))
end
def gessoref01_number.f (k : Nat) (l0 : List Int) (a1 : Int) : Option (Int × Bool) := if 0 < (l0.length : Int) then (if a1 = 2 then (gessoref01_number.j0 k l0 a1 ((((rd l0 0) % 4294967296) - 192) % 4294967296)) else (if a1 = 3 then (gessoref01_number.j0 k l0 a1 ((((rd l0 0) % 4294967296) - 224) % 4294967296)) else (if a1 = 4 then (gessoref01_number.j0 k l0 a1 ((((rd l0 0) % 4294967296) - 240) % 4294967296)) else (gessoref01_number.j0 k l0 a1 ((rd l0 0) % 4294967296))))) else (none)
theorem gessoref01_number.mono_l : ∀ k, (∀ y0 y1 y2, LeO (gessoref01_number.j0 k y0 y1 y2) (gessoref01_number.j0 (k + 1) y0 y1 y2)) ∧ (∀ y0 y1 y2 y3, LeO (gessoref01_number.l0 k y0 y1 y2 y3) (gessoref01_number.l0 (k + 1) y0 y1 y2 y3))
  | 0 => ⟨fun _ _ _ r h => by simp [gessoref01_number.j0] at h, fun _ _ _ _ r h => by simp [gessoref01_number.l0] at h⟩
  | k + 1 => by
    obtain ⟨ih0, ih1⟩ := gessoref01_number.mono_l k
    refine ⟨?_, ?_⟩
    · intro y0 y1 y2
      unfold gessoref01_number.j0
      repeat' first
      | (with_reducible exact ih0 _ _ _)
      | (with_reducible exact ih1 _ _ _ _)
      | (with_reducible exact LeO.refl _)
      | (with_reducible exact LeO.none _)
      | (with_reducible refine LeO.ite ?_ ?_)
      | (with_reducible refine LeO.bind ?_ (fun _ => ?_))
      | exact ih0 _ _ _
      | exact ih1 _ _ _ _
      | exact LeO.none _
      | refine LeO.ite ?_ ?_
      | refine LeO.bind ?_ (fun _ => ?_)
    · intro y0 y1 y2 y3
      unfold gessoref01_number.l0
      repeat' first
      | (with_reducible exact ih0 _ _ _)
      | (with_reducible exact ih1 _ _ _ _)
      | (with_reducible exact LeO.refl _)
      | (with_reducible exact LeO.none _)
      | (with_reducible refine LeO.ite ?_ ?_)
      | (with_reducible refine LeO.bind ?_ (fun _ => ?_))
      | exact ih0 _ _ _
      | exact ih1 _ _ _ _
      | exact LeO.none _
      | refine LeO.ite ?_ ?_
      | refine LeO.bind ?_ (fun _ => ?_)
theorem gessoref01_number.mono : ∀ a0 a1 k, LeO (gessoref01_number.f k a0 a1) (gessoref01_number.f (k + 1) a0 a1) := by
  intro a0 a1 k
  obtain ⟨ih0, ih1⟩ := gessoref01_number.mono_l k
  unfold gessoref01_number.f
  repeat' first
      | (with_reducible exact ih0 _ _ _)
      | (with_reducible exact ih1 _ _ _ _)
      | (with_reducible exact LeO.refl _)
      | (with_reducible exact LeO.none _)
      | (with_reducible refine LeO.ite ?_ ?_)
      | (with_reducible refine LeO.bind ?_ (fun _ => ?_))
      | exact ih0 _ _ _
      | exact ih1 _ _ _ _
      | exact LeO.none _
      | refine LeO.ite ?_ ?_
      | refine LeO.bind ?_ (fun _ => ?_)
set_option maxHeartbeats 8000000 in
set_option maxRecDepth 100000 in
theorem gessoref01_number.calls (k : Nat) (A0 : Option Addr) (c0 : Nat) (l0 : List Int) (a1 : Int) (r1 : Int) (r2 : Bool) (w : World) (hr0 : Kd.C (Kd.int .u8) w A0 l0.length l0) (hc0 : l0.length ≤ c0) (h : gessoref01_number.f k l0 a1 = some (r1, r2)) :
    Calls Tryd.prog 49 #[.slice A0 l0.length c0, .int .i64 a1] w fun e w' => e = .returned (.tuple #[.int .u32 r1, .bool r2]) ∧ Drawn0 w w' := by
  have HR0 := Aside0.mk hr0
  have HC0 := Aside0.mk hc0
  clear hr0 hc0
  have H : (if 0 < (l0.length : Int) then (if a1 = 2 then (gessoref01_number.j0 k l0 a1 ((((rd l0 0) % 4294967296) - 192) % 4294967296)) else (if a1 = 3 then (gessoref01_number.j0 k l0 a1 ((((rd l0 0) % 4294967296) - 224) % 4294967296)) else (if a1 = 4 then (gessoref01_number.j0 k l0 a1 ((((rd l0 0) % 4294967296) - 240) % 4294967296)) else (gessoref01_number.j0 k l0 a1 ((rd l0 0) % 4294967296))))) else (none)) = some (r1, r2) := h
  clear h
  by_cases c3 : 0 < (l0.length : Int)
  · rw [if_pos c3] at H
    have c3b0 : decide (0 < (l0.length : Int)) = true := decide_eq_true c3
    have c3b1 : decide (0 < l0.length) = true := decide_eq_true (by omega)
    clear c3
    have HC4 := Aside0.mk H
    clear H
    have p202 : 0 ≤ (0 : Int) := (by omega)
    have q202 : 0 < (l0.length : Int) := of_decide_eq_true (by first | (with_reducible assumption) | assumption)
    obtain ⟨ad202, e202, hx202_0⟩ := Kd.at_int HR0.out 0 p202 q202
    cases e202
    have qi202 : (0 < l0.length) = True := eq_true (by omega)
    (try rw [show ((0 : Int)).toNat = 0 from rfl] at hx202_0)
    (try rw [Addr.add_zero'] at hx202_0)
    replace p202 := eq_true p202
    replace q202 := eq_true q202
    go_enter Tryd.func49, Tryd.ntmps49
    go_upto_block 0 with (fail)
    go_cut [6] (fun v6 wc => ∃ (kq : Nat) (x6_3 : Int), v6 = .int .u32 x6_3 ∧ Aside0 (gessoref01_number.j0 kq l0 a1 x6_3 = some (r1, r2)) ∧ Aside0 (kq ≤ k) ∧ Drawn0 w wc)
    case first =>
      have H := HC4.out
      clear HC4
      by_cases c5 : a1 = 2
      · rw [if_pos c5] at H
        have c5b0 : (a1 == 2) = true := beq_iff_eq.mpr c5
        have c5b1 : (a1 != 2) = false := bne_eq_false_iff_eq.mpr c5
        clear c5
        (first | rw [c5b0] | (simp only [i64_w, i32_w]; rw [c5b0]) | skip)
        have H' := Aside0.mk H
        clear H
        go_wp2
        go_meet
        case rel => exact ⟨_, ((((rd l0 0) % 4294967296) - 192) % 4294967296), (by first | rfl | (simp; done) | (simp [*]; done)), H', ⟨by first | omega | exact Nat.le_refl _⟩, by repeat (first | exact Drawn0.refl _ | apply Drawn0.step)⟩
      · rw [if_neg c5] at H
        have c5b0 : (a1 == 2) = false := beq_eq_false_iff_ne.mpr c5
        have c5b1 : (a1 != 2) = true := bne_iff_ne.mpr c5
        (first | rw [c5b0] | (simp only [i64_w, i32_w]; rw [c5b0]) | skip)
        by_cases c6 : a1 = 3
        · rw [if_pos c6] at H
          have c6b0 : (a1 == 3) = true := beq_iff_eq.mpr c6
          have c6b1 : (a1 != 3) = false := bne_eq_false_iff_eq.mpr c6
          clear c6
          have H' := Aside0.mk H
          clear H
          go_wp2
          go_meet
          case rel => exact ⟨_, ((((rd l0 0) % 4294967296) - 224) % 4294967296), (by first | rfl | (simp; done) | (simp [*]; done)), H', ⟨by first | omega | exact Nat.le_refl _⟩, by repeat (first | exact Drawn0.refl _ | apply Drawn0.step)⟩
        · rw [if_neg c6] at H
          have c6b0 : (a1 == 3) = false := beq_eq_false_iff_ne.mpr c6
          have c6b1 : (a1 != 3) = true := bne_iff_ne.mpr c6
          by_cases c7 : a1 = 4
          · rw [if_pos c7] at H
            have c7b0 : (a1 == 4) = true := beq_iff_eq.mpr c7
            have c7b1 : (a1 != 4) = false := bne_eq_false_iff_eq.mpr c7
            clear c7
            have H' := Aside0.mk H
            clear H
            go_wp2
            go_meet
            case rel => exact ⟨_, ((((rd l0 0) % 4294967296) - 240) % 4294967296), (by first | rfl | (simp; done) | (simp [*]; done)), H', ⟨by first | omega | exact Nat.le_refl _⟩, by repeat (first | exact Drawn0.refl _ | apply Drawn0.step)⟩
          · rw [if_neg c7] at H
            have c7b0 : (a1 == 4) = false := beq_eq_false_iff_ne.mpr c7
            have c7b1 : (a1 != 4) = true := bne_iff_ne.mpr c7
            have H' := Aside0.mk H
            clear H
            go_wp2
            go_meet
            case rel => exact ⟨_, ((rd l0 0) % 4294967296), (by first | rfl | (simp; done) | (simp [*]; done)), H', ⟨by first | omega | exact Nat.le_refl _⟩, by repeat (first | exact Drawn0.refl _ | apply Drawn0.step)⟩
    case rest =>
      clear HC4
      try clear p2
      try clear q2
      try clear hx2
      try clear qi2
      try clear c3
      try clear c3b0
      try clear c3b1
      try clear c4
      try clear c5
      try clear c5b0
      try clear c5b1
      try clear c6
      try clear c6b0
      try clear c6b1
      try clear c7
      try clear c7b0
      try clear c7b1
      try clear hx202_0
      try clear p202
      try clear q202
      obtain ⟨kq, x6_3, rfl, HA, HJ3, ⟨mc3, rfl⟩⟩ := hcut
      cases kq with
      | zero => exact absurd HA.out (by simp [gessoref01_number.j0])
      | succ kj3 =>
        have H := HA.out
        clear HA
        simp only [gessoref01_number.j0] at H
        have H' := Aside0.mk H
        clear H
        go_wp2
        go_loopg [6, 7] kj3 (fun kq v6 v7 w' => ∃ (x6_2 : Int) (x7_2 : Int), v6 = .int .u32 x6_2 ∧ v7 = .int .i64 x7_2 ∧ Aside0 (gessoref01_number.l0 kq l0 a1 x6_2 x7_2 = some (r1, r2)) ∧ Aside0 (kq ≤ kj3) ∧ Drawn0 w w')
        case atStart => exact ⟨(x6_3), (1), (by first | rfl | (simp; done) | (simp [*]; done)), (by first | rfl | (simp; done) | (simp [*]; done)), H', ⟨Nat.le_refl _⟩, by repeat (first | exact Drawn0.refl _ | apply Drawn0.step)⟩
        case round =>
          clear H'
          try clear p2
          try clear q2
          try clear hx2
          try clear qi2
          try clear c3
          try clear c3b0
          try clear c3b1
          try clear c4
          try clear c5
          try clear c5b0
          try clear c5b1
          try clear c6
          try clear c6b0
          try clear c6b1
          try clear c7
          try clear c7b0
          try clear c7b1
          try clear hx202_0
          try clear p2
          try clear p202
          try clear q2
          try clear q202
          obtain ⟨x6_2, x7_2, rfl, rfl, HA, HK2, ⟨m2, rfl⟩⟩ := hrel
          cases gk with
          | zero => exact absurd HA.out (by simp [gessoref01_number.l0])
          | succ k2 =>
            have H := HA.out
            clear HA
            simp only [gessoref01_number.l0] at H
            by_cases c8 : x7_2 < a1
            · rw [if_pos c8] at H
              have c8b0 : decide (x7_2 < a1) = true := decide_eq_true c8
              clear c8
              by_cases c9 : 0 ≤ x7_2
              · rw [if_pos c9] at H
                have c9b0 : decide (0 ≤ x7_2) = true := decide_eq_true c9
                clear c9
                by_cases c10 : x7_2 < (l0.length : Int)
                · rw [if_pos c10] at H
                  have c10b0 : decide (x7_2 < (l0.length : Int)) = true := decide_eq_true c10
                  clear c10
                  by_cases c11 : (rd l0 x7_2) < 128
                  · rw [if_pos c11] at H
                    have c11b0 : decide ((rd l0 x7_2) < 128) = true := decide_eq_true c11
                    clear c11
                    simp only [Option.some.injEq, Prod.mk.injEq] at H
                    obtain ⟨rfl, rfl⟩ := H
                    have p203 : 0 ≤ (x7_2 : Int) := of_decide_eq_true (by first | (with_reducible assumption) | assumption)
                    have q203 : x7_2 < (l0.length : Int) := of_decide_eq_true (by first | (with_reducible assumption) | assumption)
                    obtain ⟨ad203, e203, hx203_0⟩ := Kd.at_int HR0.out x7_2 p203 q203
                    obtain rfl : ad202 = ad203 := (by injection e203)
                    replace p203 := eq_true p203
                    replace q203 := eq_true q203
                    go_wp2
                    go_ret2
                    exact ⟨by first | rfl | (simp; done) | (simp [*]; done), by repeat (first | exact Drawn0.refl _ | apply Drawn0.step)⟩
                  · rw [if_neg c11] at H
                    have c11b0 : decide ((rd l0 x7_2) < 128) = false := decide_eq_false c11
                    clear c11
                    by_cases c12 : (rd l0 x7_2) > 191
                    · rw [if_pos c12] at H
                      have c12b0 : decide (191 < (rd l0 x7_2)) = true := decide_eq_true c12
                      clear c12
                      simp only [Option.some.injEq, Prod.mk.injEq] at H
                      obtain ⟨rfl, rfl⟩ := H
                      have p203 : 0 ≤ (x7_2 : Int) := of_decide_eq_true (by first | (with_reducible assumption) | assumption)
                      have q203 : x7_2 < (l0.length : Int) := of_decide_eq_true (by first | (with_reducible assumption) | assumption)
                      obtain ⟨ad203, e203, hx203_0⟩ := Kd.at_int HR0.out x7_2 p203 q203
                      obtain rfl : ad202 = ad203 := (by injection e203)
                      replace p203 := eq_true p203
                      replace q203 := eq_true q203
                      have p204 : 0 ≤ (x7_2 : Int) := of_decide_eq_true (by first | (with_reducible assumption) | assumption)
                      have q204 : x7_2 < (l0.length : Int) := of_decide_eq_true (by first | (with_reducible assumption) | assumption)
                      obtain ⟨ad204, e204, hx204_0⟩ := Kd.at_int HR0.out x7_2 p204 q204
                      obtain rfl : ad202 = ad204 := (by injection e204)
                      replace p204 := eq_true p204
                      replace q204 := eq_true q204
                      go_wp2
                      go_ret2
                      exact ⟨by first | rfl | (simp; done) | (simp [*]; done), by repeat (first | exact Drawn0.refl _ | apply Drawn0.step)⟩
                    · rw [if_neg c12] at H
                      have c12b0 : decide (191 < (rd l0 x7_2)) = false := decide_eq_false c12
                      clear c12
                      have H' := Aside0.mk H
                      clear H
                      have p203 : 0 ≤ (x7_2 : Int) := of_decide_eq_true (by first | (with_reducible assumption) | assumption)
                      have q203 : x7_2 < (l0.length : Int) := of_decide_eq_true (by first | (with_reducible assumption) | assumption)
                      obtain ⟨ad203, e203, hx203_0⟩ := Kd.at_int HR0.out x7_2 p203 q203
                      obtain rfl : ad202 = ad203 := (by injection e203)
                      replace p203 := eq_true p203
                      replace q203 := eq_true q203
                      have p204 : 0 ≤ (x7_2 : Int) := of_decide_eq_true (by first | (with_reducible assumption) | assumption)
                      have q204 : x7_2 < (l0.length : Int) := of_decide_eq_true (by first | (with_reducible assumption) | assumption)
                      obtain ⟨ad204, e204, hx204_0⟩ := Kd.at_int HR0.out x7_2 p204 q204
                      obtain rfl : ad202 = ad204 := (by injection e204)
                      replace p204 := eq_true p204
                      replace q204 := eq_true q204
                      have p205 : 0 ≤ (x7_2 : Int) := of_decide_eq_true (by first | (with_reducible assumption) | assumption)
                      have q205 : x7_2 < (l0.length : Int) := of_decide_eq_true (by first | (with_reducible assumption) | assumption)
                      obtain ⟨ad205, e205, hx205_0⟩ := Kd.at_int HR0.out x7_2 p205 q205
                      obtain rfl : ad202 = ad205 := (by injection e205)
                      replace p205 := eq_true p205
                      replace q205 := eq_true q205
                      go_wp2
                      go_roundg k2
                      case measure => have := HJ3.out; have := HK2.out; omega
                      case rel => exact ⟨((((64 * x6_2) % 4294967296) + (((rd l0 x7_2) - 128) % 256)) % 4294967296), (wrap64 (x7_2 + 1)), (by first | rfl | (simp; done) | (simp [*]; done)), (by first | rfl | (simp; done) | (simp [*]; done)), H', ⟨by have := HJ3.out; have := HK2.out; omega⟩, by repeat (first | exact Drawn0.refl _ | apply Drawn0.step)⟩
                · rw [if_neg c10] at H
                  exact absurd H (by simp)
              · rw [if_neg c9] at H
                exact absurd H (by simp)
            · rw [if_neg c8] at H
              have c8b0 : decide (x7_2 < a1) = false := decide_eq_false c8
              clear c8
              simp only [Option.some.injEq, Prod.mk.injEq] at H
              obtain ⟨rfl, rfl⟩ := H
              go_wp2
              go_ret2
              exact ⟨by first | rfl | (simp; done) | (simp [*]; done), by repeat (first | exact Drawn0.refl _ | apply Drawn0.step)⟩
  · rw [if_neg c3] at H
    exact absurd H (by simp)

end Go.Proofs.YtjlhehaagaaihaaDoor.P
