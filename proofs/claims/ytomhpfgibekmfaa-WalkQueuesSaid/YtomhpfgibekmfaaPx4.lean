/- Functions of the translated program as plain Lean functions, and proofs that their calls come to these. Written by a program of the session. No condition. -/
import Derived.Test.YtomhpfgibekmfaaPx0
namespace Go.Proofs.Ytomhpfgibekmfaa.P
open Go.RowKit Go.Proofs.YtomhpfgibekmfaaW.PrintWords Go.Proofs.YtomhpfgibekmfaaW.PrintLast Go.Proofs.YtomhpfgibekmfaaW.PrintMore
attribute [local go_sem] max2_int min2_int max_two min_two max_three min_three max_four min_four   -- for this text's walks alone
set_option linter.unusedVariables false
set_option linter.unusedSimpArgs false

/-! ### gessoref15_Text: function 14 -/
def gessoref15_Text.l0 : Nat → List ByteArray → ByteArray → Int → Option (ByteArray)
  | 0, _, _, _ => none
  | k + 1, x0, x3, x4 => if x4 < (x0.length : Int) then (if x3.size + 1 ≤ 9223372036854775807 then (if 0 ≤ x4 then (if (x3 ++ (⟨#[47]⟩ : ByteArray)).size + (rdOf ByteArray.empty x0 x4).size ≤ 9223372036854775807 then (gessoref15_Text.l0 k x0 ((x3 ++ (⟨#[47]⟩ : ByteArray)) ++ (rdOf ByteArray.empty x0 x4)) (wrap64 (x4 + 1))) else (none)) else (none)) else (none)) else (if x3.toList = ([] : List UInt8) then (some (⟨#[47]⟩ : ByteArray)) else (some x3))
def gessoref15_Text.f (k : Nat) (l0 : List ByteArray) : Option (ByteArray) := gessoref15_Text.l0 k l0 (⟨#[]⟩ : ByteArray) 0
theorem gessoref15_Text.mono_l : ∀ k, (∀ y0 y1 y2, LeO (gessoref15_Text.l0 k y0 y1 y2) (gessoref15_Text.l0 (k + 1) y0 y1 y2))
  | 0 => fun _ _ _ r h => by simp [gessoref15_Text.l0] at h
  | k + 1 => by
    have ih0 := gessoref15_Text.mono_l k
    · intro y0 y1 y2
      unfold gessoref15_Text.l0
      repeat' first
      | (with_reducible exact ih0 _ _ _)
      | (with_reducible exact LeO.refl _)
      | (with_reducible exact LeO.none _)
      | (with_reducible refine LeO.ite ?_ ?_)
      | (with_reducible refine LeO.bind ?_ (fun _ => ?_))
      | exact ih0 _ _ _
      | exact LeO.none _
      | refine LeO.ite ?_ ?_
      | refine LeO.bind ?_ (fun _ => ?_)
theorem gessoref15_Text.mono : ∀ a0 k, LeO (gessoref15_Text.f k a0) (gessoref15_Text.f (k + 1) a0) := by
  intro a0 k
  have ih0 := gessoref15_Text.mono_l k
  unfold gessoref15_Text.f
  repeat' first
      | (with_reducible exact ih0 _ _ _)
      | (with_reducible exact LeO.refl _)
      | (with_reducible exact LeO.none _)
      | (with_reducible refine LeO.ite ?_ ?_)
      | (with_reducible refine LeO.bind ?_ (fun _ => ?_))
      | exact ih0 _ _ _
      | exact LeO.none _
      | refine LeO.ite ?_ ?_
      | refine LeO.bind ?_ (fun _ => ?_)
set_option maxHeartbeats 8000000 in
set_option maxRecDepth 100000 in
theorem gessoref15_Text.calls (k : Nat) (A0 : Option Addr) (c0 : Nat) (l0 : List ByteArray) (r : ByteArray) (w : World) (hr0 : Kd.C Kd.string w A0 l0.length l0) (hc0 : l0.length ≤ c0) (h : gessoref15_Text.f k l0 = some r) :
    Calls Try.prog 14 #[.slice A0 l0.length c0] w fun e w' => e = .returned (.string r) ∧ Drawn0 w w' := by
  have HR0 := Aside0.mk hr0
  have HC0 := Aside0.mk hc0
  clear hr0 hc0
  have H : (gessoref15_Text.l0 k l0 (⟨#[]⟩ : ByteArray) 0) = some r := h
  clear h
  have H' := Aside0.mk H
  clear H
  go_enter Try.func14, Try.ntmps14
  go_wp2
  go_loopg [3, 4] k (fun kq v3 v4 w' => ∃ (x3_1 : ByteArray) (x4_1 : Int), v3 = .string x3_1 ∧ v4 = .int .i64 x4_1 ∧ Aside0 (gessoref15_Text.l0 kq l0 x3_1 x4_1 = some r) ∧ Aside0 (kq ≤ k) ∧ Drawn0 w w')
  case atStart => exact ⟨((⟨#[]⟩ : ByteArray)), (0), (by first | rfl | (simp; done) | (simp [*]; done)), (by first | rfl | (simp; done) | (simp [*]; done)), H', ⟨Nat.le_refl _⟩, by repeat (first | exact Drawn0.refl _ | apply Drawn0.step)⟩
  case round =>
    clear H'
    try clear c1
    obtain ⟨x3_1, x4_1, rfl, rfl, HA, HK1, ⟨m1, rfl⟩⟩ := hrel
    cases gk with
    | zero => exact absurd HA.out (by simp [gessoref15_Text.l0])
    | succ k1 =>
      have H := HA.out
      clear HA
      simp only [gessoref15_Text.l0] at H
      by_cases c2 : x4_1 < (l0.length : Int)
      · rw [if_pos c2] at H
        have c2b0 : decide (x4_1 < (l0.length : Int)) = true := decide_eq_true c2
        clear c2
        by_cases c3 : x3_1.size + 1 ≤ 9223372036854775807
        · rw [if_pos c3] at H
          have c3b0 := eq_true c3
          have c3b1 : decide (x3_1.size + 1 ≤ 9223372036854775807) = true := decide_eq_true c3
          try have c3b2 : (9223372036854775807 < x3_1.size + 1) = False := eq_false (Nat.not_lt.2 c3)
          by_cases c4 : 0 ≤ x4_1
          · rw [if_pos c4] at H
            have c4b0 : decide (0 ≤ x4_1) = true := decide_eq_true c4
            clear c4
            by_cases c5 : (x3_1 ++ (⟨#[47]⟩ : ByteArray)).size + (rdOf ByteArray.empty l0 x4_1).size ≤ 9223372036854775807
            · rw [if_pos c5] at H
              have c5b0 := eq_true c5
              have c5b1 : decide ((x3_1 ++ (⟨#[47]⟩ : ByteArray)).size + (rdOf ByteArray.empty l0 x4_1).size ≤ 9223372036854775807) = true := decide_eq_true c5
              try have c5b2 : (9223372036854775807 < (x3_1 ++ (⟨#[47]⟩ : ByteArray)).size + (rdOf ByteArray.empty l0 x4_1).size) = False := eq_false (Nat.not_lt.2 c5)
              have H' := Aside0.mk H
              clear H
              have p168 : 0 ≤ (x4_1 : Int) := of_decide_eq_true (by first | (with_reducible assumption) | assumption)
              have q168 : x4_1 < (l0.length : Int) := of_decide_eq_true (by first | (with_reducible assumption) | assumption)
              obtain ⟨ad168, e168, hx168_0⟩ := Kd.at_string HR0.out x4_1 p168 q168
              cases e168
              replace p168 := eq_true p168
              replace q168 := eq_true q168
              go_wp2
              go_roundg k1
              case measure => have := HK1.out; omega
              case rel => exact ⟨((x3_1 ++ (⟨#[47]⟩ : ByteArray)) ++ (rdOf ByteArray.empty l0 x4_1)), (wrap64 (x4_1 + 1)), (by first | rfl | (simp; done) | (simp [*]; done)), (by first | rfl | (simp; done) | (simp [*]; done)), H', ⟨by have := HK1.out; omega⟩, by repeat (first | exact Drawn0.refl _ | apply Drawn0.step)⟩
            · rw [if_neg c5] at H
              exact absurd H (by simp)
          · rw [if_neg c4] at H
            exact absurd H (by simp)
        · rw [if_neg c3] at H
          exact absurd H (by simp)
      · rw [if_neg c2] at H
        have c2b0 : decide (x4_1 < (l0.length : Int)) = false := decide_eq_false c2
        clear c2
        by_cases c6 : x3_1.toList = ([] : List UInt8)
        · rw [if_pos c6] at H
          have c6b0 : (x3_1.toList == ([] : List UInt8)) = true := beq_iff_eq.mpr c6
          have c6b1 : (x3_1.toList != ([] : List UInt8)) = false := bne_eq_false_iff_eq.mpr c6
          clear c6
          obtain rfl := Option.some.inj H
          go_wp2
          go_ret
          exact ⟨by first | rfl | (simp; done) | (simp [*]; done), by repeat (first | exact Drawn0.refl _ | apply Drawn0.step)⟩
        · rw [if_neg c6] at H
          have c6b0 : (x3_1.toList == ([] : List UInt8)) = false := beq_eq_false_iff_ne.mpr c6
          have c6b1 : (x3_1.toList != ([] : List UInt8)) = true := bne_iff_ne.mpr c6
          obtain rfl := Option.some.inj H
          go_wp2
          go_ret
          exact ⟨by first | rfl | (simp; done) | (simp [*]; done), by repeat (first | exact Drawn0.refl _ | apply Drawn0.step)⟩

end Go.Proofs.Ytomhpfgibekmfaa.P
