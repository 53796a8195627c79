/- Functions of the translated program as plain Lean functions, and proofs that their calls come to these. Written by a program of the session. No condition. -/
import Derived.Test.YtejbkjbldmaodaaPx0
namespace Go.Proofs.Ytejbkjbldmaodaa.P
open Go.RowKit Go.Proofs.YtejbkjbldmaodaaW.PrintWords Go.Proofs.YtejbkjbldmaodaaW.PrintLast Go.Proofs.YtejbkjbldmaodaaW.PrintMore
attribute [local go_sem] max2_int min2_int max_two min_two max_three min_three max_four min_four   -- for this text's walks alone
set_option linter.unusedVariables false
set_option linter.unusedSimpArgs false

/-! ### gessoref11_Number: function 15 -/
mutual
def gessoref11_Number.j0 : Nat → List Int → Bool → Option (Int × Int)
  | 0, _, _ => none
  | k + 1, x0, x19 => if x19 = true then (some (0, 4)) else (gessoref11_Number.l0 k x0 0 0)
def gessoref11_Number.l0 : Nat → List Int → Int → Int → Option (Int × Int)
  | 0, _, _, _ => none
  | k + 1, x0, x4, x5 => if x5 < (x0.length : Int) then (if 0 ≤ x5 then (gessoref11_Number.l0 k x0 (IntKind.u64.wrap ((IntKind.u64.wrap (256 * x4)) + (IntKind.u64.wrap (rd x0 x5)))) (wrap64 (x5 + 1))) else (none)) else (some (x4, 0))
end
def gessoref11_Number.f (k : Nat) (l0 : List Int) : Option (Int × Int) := if (l0.length : Int) > 8 then (gessoref11_Number.j0 k l0 true) else (if (l0.length : Int) > 0 then (if 0 < (l0.length : Int) then (gessoref11_Number.j0 k l0 ((rd l0 0) == 0)) else (none)) else (gessoref11_Number.j0 k l0 false))
theorem gessoref11_Number.mono_l : ∀ k, (∀ y0 y1, LeO (gessoref11_Number.j0 k y0 y1) (gessoref11_Number.j0 (k + 1) y0 y1)) ∧ (∀ y0 y1 y2, LeO (gessoref11_Number.l0 k y0 y1 y2) (gessoref11_Number.l0 (k + 1) y0 y1 y2))
  | 0 => ⟨fun _ _ r h => by simp [gessoref11_Number.j0] at h, fun _ _ _ r h => by simp [gessoref11_Number.l0] at h⟩
  | k + 1 => by
    obtain ⟨ih0, ih1⟩ := gessoref11_Number.mono_l k
    refine ⟨?_, ?_⟩
    · intro y0 y1
      unfold gessoref11_Number.j0
      repeat' first
      | (with_reducible exact ih0 _ _)
      | (with_reducible exact ih1 _ _ _)
      | (with_reducible exact LeO.refl _)
      | (with_reducible exact LeO.none _)
      | (with_reducible refine LeO.ite ?_ ?_)
      | (with_reducible refine LeO.bind ?_ (fun _ => ?_))
      | exact ih0 _ _
      | exact ih1 _ _ _
      | exact LeO.none _
      | refine LeO.ite ?_ ?_
      | refine LeO.bind ?_ (fun _ => ?_)
    · intro y0 y1 y2
      unfold gessoref11_Number.l0
      repeat' first
      | (with_reducible exact ih0 _ _)
      | (with_reducible exact ih1 _ _ _)
      | (with_reducible exact LeO.refl _)
      | (with_reducible exact LeO.none _)
      | (with_reducible refine LeO.ite ?_ ?_)
      | (with_reducible refine LeO.bind ?_ (fun _ => ?_))
      | exact ih0 _ _
      | exact ih1 _ _ _
      | exact LeO.none _
      | refine LeO.ite ?_ ?_
      | refine LeO.bind ?_ (fun _ => ?_)
theorem gessoref11_Number.mono : ∀ a0 k, LeO (gessoref11_Number.f k a0) (gessoref11_Number.f (k + 1) a0) := by
  intro a0 k
  obtain ⟨ih0, ih1⟩ := gessoref11_Number.mono_l k
  unfold gessoref11_Number.f
  repeat' first
      | (with_reducible exact ih0 _ _)
      | (with_reducible exact ih1 _ _ _)
      | (with_reducible exact LeO.refl _)
      | (with_reducible exact LeO.none _)
      | (with_reducible refine LeO.ite ?_ ?_)
      | (with_reducible refine LeO.bind ?_ (fun _ => ?_))
      | exact ih0 _ _
      | exact ih1 _ _ _
      | exact LeO.none _
      | refine LeO.ite ?_ ?_
      | refine LeO.bind ?_ (fun _ => ?_)
set_option maxHeartbeats 8000000 in
set_option maxRecDepth 100000 in
theorem gessoref11_Number.calls (k : Nat) (A0 : Option Addr) (c0 : Nat) (l0 : List Int) (r1 : Int) (r2 : Int) (w : World) (hr0 : Kd.C (Kd.int .u8) w A0 l0.length l0) (hc0 : l0.length ≤ c0) (h : gessoref11_Number.f k l0 = some (r1, r2)) :
    Calls Try.prog 15 #[.slice A0 l0.length c0] w fun e w' => e = .returned (.tuple #[.int .u64 r1, .int .i64 r2]) ∧ Below w.heap.size w w' := by
  have HR0 := Aside0.mk hr0
  have HC0 := Aside0.mk hc0
  clear hr0 hc0
  have HB := Aside0.mk (Below.refl w.heap.size w)
  have H : (if (l0.length : Int) > 8 then (gessoref11_Number.j0 k l0 true) else (if (l0.length : Int) > 0 then (if 0 < (l0.length : Int) then (gessoref11_Number.j0 k l0 ((rd l0 0) == 0)) else (none)) else (gessoref11_Number.j0 k l0 false))) = some (r1, r2) := h
  clear h
  have HC2 := Aside0.mk H
  clear H
  go_enter Try.func15, Try.ntmps15
  go_upto_region 1 with (fail)
  go_cut [19] (fun v19 wc => ∃ (kq : Nat) (x19_1 : Bool), v19 = .bool x19_1 ∧ Aside0 (gessoref11_Number.j0 kq l0 x19_1 = some (r1, r2)) ∧ Aside0 (kq ≤ k) ∧ Aside0 (Below w.heap.size w wc))
  case first =>
    have H := HC2.out
    clear HC2
    by_cases c3 : (l0.length : Int) > 8
    · rw [if_pos c3] at H
      have c3b0 : decide (8 < (l0.length : Int)) = true := decide_eq_true c3
      have c3b1 : decide (8 < l0.length) = true := decide_eq_true (by omega)
      clear c3
      (first | rw [c3b0] | (simp only [i64_w, i32_w]; rw [c3b0]) | skip)
      have H' := Aside0.mk H
      clear H
      go_wp2
      go_meet
      case rel => exact ⟨_, (true), (by first | rfl | (simp; done) | (simp [*]; done)), H', ⟨by first | omega | exact Nat.le_refl _⟩, ⟨by repeat (first | (with_reducible first | exact HB.out | apply below_alloc | apply pw_below_drewN | apply below_drew1) | exact HB.out)⟩⟩
    · rw [if_neg c3] at H
      have c3b0 : decide (8 < (l0.length : Int)) = false := decide_eq_false c3
      have c3b1 : decide (8 < l0.length) = false := decide_eq_false (by omega)
      clear c3
      (first | rw [c3b0] | (simp only [i64_w, i32_w]; rw [c3b0]) | skip)
      by_cases c4 : (l0.length : Int) > 0
      · rw [if_pos c4] at H
        have c4b0 : decide (0 < (l0.length : Int)) = true := decide_eq_true c4
        have c4b1 : decide (0 < l0.length) = true := decide_eq_true (by omega)
        clear c4
        by_cases c5 : 0 < (l0.length : Int)
        · rw [if_pos c5] at H
          have c5b0 : decide (0 < (l0.length : Int)) = true := decide_eq_true c5
          have c5b1 : decide (0 < l0.length) = true := decide_eq_true (by omega)
          clear c5
          have H' := Aside0.mk H
          clear H
          have p161 : 0 ≤ (0 : Int) := (by omega)
          have q161 : 0 < (l0.length : Int) := of_decide_eq_true (by first | (with_reducible assumption) | assumption)
          obtain ⟨ad161, e161, hx161_0⟩ := Kd.at_int HR0.out 0 p161 q161
          cases e161
          have qi161 : (0 < l0.length) = True := eq_true (by omega)
          (try rw [show ((0 : Int)).toNat = 0 from rfl] at hx161_0)
          (try rw [Addr.add_zero'] at hx161_0)
          replace hx161_0 := (HB.out.cell (World.block_lt_of_cell? w _ hx161_0)).trans hx161_0
          replace p161 := eq_true p161
          replace q161 := eq_true q161
          go_wp2
          go_meet
          case rel => exact ⟨_, (((rd l0 0) == 0)), (by first | rfl | (simp; done) | (simp [*]; done)), H', ⟨by first | omega | exact Nat.le_refl _⟩, ⟨by repeat (first | (with_reducible first | exact HB.out | apply below_alloc | apply pw_below_drewN | apply below_drew1) | exact HB.out)⟩⟩
        · rw [if_neg c5] at H
          exact absurd H (by simp)
      · rw [if_neg c4] at H
        have c4b0 : decide (0 < (l0.length : Int)) = false := decide_eq_false c4
        have c4b1 : decide (0 < l0.length) = false := decide_eq_false (by omega)
        clear c4
        have H' := Aside0.mk H
        clear H
        go_wp2
        go_meet
        case rel => exact ⟨_, (false), (by first | rfl | (simp; done) | (simp [*]; done)), H', ⟨by first | omega | exact Nat.le_refl _⟩, ⟨by repeat (first | (with_reducible first | exact HB.out | apply below_alloc | apply pw_below_drewN | apply below_drew1) | exact HB.out)⟩⟩
  case rest =>
    clear HC2
    try clear c1
    try clear p1
    try clear q1
    try clear hx1
    try clear qi1
    try clear p2
    try clear c3
    try clear c3b0
    try clear c3b1
    try clear c4
    try clear c4b0
    try clear c4b1
    try clear c5
    try clear c5b0
    try clear c5b1
    try clear hx161_0
    try clear p161
    try clear q161
    obtain ⟨kq, x19_1, rfl, HA, HJ1, HB⟩ := hcut
    cases kq with
    | zero => exact absurd HA.out (by simp [gessoref11_Number.j0])
    | succ kj1 =>
      have H := HA.out
      clear HA
      simp only [gessoref11_Number.j0] at H
      by_cases c6 : x19_1 = true
      · subst c6
        have H1 : (some (0, 4)) = some (r1, r2) := by rw [if_pos rfl] at H; exact H
        clear H
        have H := H1
        clear H1
        simp only [Option.some.injEq, Prod.mk.injEq] at H
        obtain ⟨rfl, rfl⟩ := H
        go_wp2
        go_ret2
        exact ⟨by first | rfl | (simp [errW_none, errW_some] <;> rfl) | (simp [*, errW_none, errW_some] <;> rfl), by repeat (first | (with_reducible first | exact HB.out | apply below_alloc | apply pw_below_drewN | apply below_drew1) | exact HB.out)⟩
      · replace c6 := Bool.eq_false_iff.mpr c6
        subst c6
        have H1 : (gessoref11_Number.l0 kj1 l0 0 0) = some (r1, r2) := by rw [if_neg (show ¬ (false = true) by decide)] at H; exact H
        clear H
        have H := H1
        clear H1
        have H' := Aside0.mk H
        clear H
        go_wp2
        go_loopg [4, 5] kj1 (fun kq v4 v5 w' => ∃ (x4_2 : Int) (x5_2 : Int), v4 = .int .u64 x4_2 ∧ v5 = .int .i64 x5_2 ∧ Aside0 (gessoref11_Number.l0 kq l0 x4_2 x5_2 = some (r1, r2)) ∧ Aside0 (kq ≤ kj1) ∧ Aside0 (Below w.heap.size w w'))
        case atStart => exact ⟨(0), (0), (by first | rfl | (simp; done) | (simp [*]; done)), (by first | rfl | (simp; done) | (simp [*]; done)), H', ⟨Nat.le_refl _⟩, ⟨by repeat (first | (with_reducible first | exact HB.out | apply below_alloc | apply pw_below_drewN | apply below_drew1) | exact HB.out)⟩⟩
        case round =>
          clear H'
          try clear c1
          try clear p1
          try clear q1
          try clear hx1
          try clear qi1
          try clear p2
          try clear c3
          try clear c3b0
          try clear c3b1
          try clear c4
          try clear c4b0
          try clear c4b1
          try clear c5
          try clear c5b0
          try clear c5b1
          try clear c6
          try clear hx161_0
          try clear p1
          try clear p161
          try clear p2
          try clear q1
          try clear q161
          obtain ⟨x4_2, x5_2, rfl, rfl, HA, HK2, HB⟩ := hrel
          cases gk with
          | zero => exact absurd HA.out (by simp [gessoref11_Number.l0])
          | succ k2 =>
            have H := HA.out
            clear HA
            simp only [gessoref11_Number.l0] at H
            by_cases c7 : x5_2 < (l0.length : Int)
            · rw [if_pos c7] at H
              have c7b0 : decide (x5_2 < (l0.length : Int)) = true := decide_eq_true c7
              clear c7
              by_cases c8 : 0 ≤ x5_2
              · rw [if_pos c8] at H
                have c8b0 : decide (0 ≤ x5_2) = true := decide_eq_true c8
                clear c8
                have H' := Aside0.mk H
                clear H
                have p162 : 0 ≤ (x5_2 : Int) := of_decide_eq_true (by first | (with_reducible assumption) | assumption)
                have q162 : x5_2 < (l0.length : Int) := of_decide_eq_true (by first | (with_reducible assumption) | assumption)
                obtain ⟨ad162, e162, hx162_0⟩ := Kd.at_int HR0.out x5_2 p162 q162
                cases e162
                replace hx162_0 := (HB.out.cell (World.block_lt_of_cell? w _ hx162_0)).trans hx162_0
                replace p162 := eq_true p162
                replace q162 := eq_true q162
                go_wp2
                go_roundg k2
                case measure => have := HJ1.out; have := HK2.out; omega
                case rel => exact ⟨(IntKind.u64.wrap ((IntKind.u64.wrap (256 * x4_2)) + (IntKind.u64.wrap (rd l0 x5_2)))), (wrap64 (x5_2 + 1)), (by first | rfl | (simp; done) | (simp [*]; done)), (by first | rfl | (simp; done) | (simp [*]; done)), H', ⟨by have := HJ1.out; have := HK2.out; omega⟩, ⟨by repeat (first | (with_reducible first | exact HB.out | apply below_alloc | apply pw_below_drewN | apply below_drew1) | exact HB.out)⟩⟩
              · rw [if_neg c8] at H
                exact absurd H (by simp)
            · rw [if_neg c7] at H
              have c7b0 : decide (x5_2 < (l0.length : Int)) = false := decide_eq_false c7
              clear c7
              simp only [Option.some.injEq, Prod.mk.injEq] at H
              obtain ⟨rfl, rfl⟩ := H
              go_wp2
              go_ret2
              exact ⟨by first | rfl | (simp [errW_none, errW_some] <;> rfl) | (simp [*, errW_none, errW_some] <;> rfl), by repeat (first | (with_reducible first | exact HB.out | apply below_alloc | apply pw_below_drewN | apply below_drew1) | exact HB.out)⟩

end Go.Proofs.Ytejbkjbldmaodaa.P
