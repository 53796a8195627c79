/- Functions of the translated program as plain Lean functions, and proofs that their calls come to these. Written by a program of the session. No condition. -/
import Derived.Test.YtejbkjbldmaodaaPx0
namespace Go.Proofs.Ytejbkjbldmaodaa.P
open Go.RowKit Go.Proofs.YtejbkjbldmaodaaW.PrintWords Go.Proofs.YtejbkjbldmaodaaW.PrintLast Go.Proofs.YtejbkjbldmaodaaW.PrintMore
attribute [local go_sem] max2_int min2_int max_two min_two max_three min_three max_four min_four   -- for this text's walks alone
set_option linter.unusedVariables false
set_option linter.unusedSimpArgs false

/-! ### pack_Number: function 14 -/
def pack_Number.l0 : Nat → Int → List Int → Int → Int → Option (Int × Int)
  | 0, _, _, _, _ => none
  | k + 1, x4, x7, x8, x9 => if x9 < x8 then (if 0 ≤ x9 then (if x9 < (x7.length : Int) then (if x4 = 0 then (if (rd x7 x9) = 0 then (some (0, 4)) else (if (x4 / 72057594037927936) = 0 then (pack_Number.l0 k (Go.bits .or .u64 (IntKind.u64.wrap (x4 * 256)) (IntKind.u64.wrap (rd x7 x9))) x7 x8 (wrap64 (x9 + 1))) else (some (0, 4)))) else (if (x4 / 72057594037927936) = 0 then (pack_Number.l0 k (Go.bits .or .u64 (IntKind.u64.wrap (x4 * 256)) (IntKind.u64.wrap (rd x7 x9))) x7 x8 (wrap64 (x9 + 1))) else (some (0, 4)))) else (none)) else (none)) else (some (x4, 0))
def pack_Number.f (k : Nat) (l0 : List Int) : Option (Int × Int) := pack_Number.l0 k 0 l0 (l0.length : Int) 0
theorem pack_Number.mono_l : ∀ k, (∀ y0 y1 y2 y3, LeO (pack_Number.l0 k y0 y1 y2 y3) (pack_Number.l0 (k + 1) y0 y1 y2 y3))
  | 0 => fun _ _ _ _ r h => by simp [pack_Number.l0] at h
  | k + 1 => by
    have ih0 := pack_Number.mono_l k
    · intro y0 y1 y2 y3
      unfold pack_Number.l0
      repeat' first
      | (with_reducible exact ih0 _ _ _ _)
      | (with_reducible exact LeO.refl _)
      | (with_reducible exact LeO.none _)
      | (with_reducible refine LeO.ite ?_ ?_)
      | (with_reducible refine LeO.bind ?_ (fun _ => ?_))
      | exact ih0 _ _ _ _
      | exact LeO.none _
      | refine LeO.ite ?_ ?_
      | refine LeO.bind ?_ (fun _ => ?_)
theorem pack_Number.mono : ∀ a0 k, LeO (pack_Number.f k a0) (pack_Number.f (k + 1) a0) := by
  intro a0 k
  have ih0 := pack_Number.mono_l k
  unfold pack_Number.f
  repeat' first
      | (with_reducible exact ih0 _ _ _ _)
      | (with_reducible exact LeO.refl _)
      | (with_reducible exact LeO.none _)
      | (with_reducible refine LeO.ite ?_ ?_)
      | (with_reducible refine LeO.bind ?_ (fun _ => ?_))
      | exact ih0 _ _ _ _
      | exact LeO.none _
      | refine LeO.ite ?_ ?_
      | refine LeO.bind ?_ (fun _ => ?_)
set_option maxHeartbeats 8000000 in
set_option maxRecDepth 100000 in
theorem pack_Number.calls (k : Nat) (A0 : Option Addr) (c0 : Nat) (l0 : List Int) (r1 : Int) (r2 : Int) (w : World) (hr0 : Kd.C (Kd.int .u8) w A0 l0.length l0) (hc0 : l0.length ≤ c0) (h : pack_Number.f k l0 = some (r1, r2)) :
    Calls Try.prog 14 #[.slice A0 l0.length c0] w fun e w' => e = .returned (.tuple #[.int .u64 r1, .int .i64 r2]) ∧ Below w.heap.size w w' := by
  have HR0 := Aside0.mk hr0
  have HC0 := Aside0.mk hc0
  clear hr0 hc0
  have HB := Aside0.mk (Below.refl w.heap.size w)
  have H : (pack_Number.l0 k 0 l0 (l0.length : Int) 0) = some (r1, r2) := h
  clear h
  have H' := Aside0.mk H
  clear H
  go_enter Try.func14, Try.ntmps14
  go_wp2
  go_loopg [4, 9] k (fun kq v4 v9 w' => ∃ (x4_1 : Int) (x9_1 : Int), v4 = .int .u64 x4_1 ∧ v9 = .int .i64 x9_1 ∧ Aside0 (pack_Number.l0 kq x4_1 l0 (l0.length : Int) x9_1 = some (r1, r2)) ∧ Aside0 (kq ≤ k) ∧ Aside0 (Below w.heap.size w w'))
  case atStart => exact ⟨(0), (0), (by first | rfl | (simp; done) | (simp [*]; done)), (by first | rfl | (simp; done) | (simp [*]; done)), H', ⟨Nat.le_refl _⟩, ⟨by repeat (first | (with_reducible first | exact HB.out | apply below_alloc | apply pw_below_drewN | apply below_drew1) | exact HB.out)⟩⟩
  case round =>
    clear H'
    try clear c1
    obtain ⟨x4_1, x9_1, rfl, rfl, HA, HK1, HB⟩ := hrel
    cases gk with
    | zero => exact absurd HA.out (by simp [pack_Number.l0])
    | succ k1 =>
      have H := HA.out
      clear HA
      simp only [pack_Number.l0] at H
      by_cases c2 : x9_1 < (l0.length : Int)
      · rw [if_pos c2] at H
        have c2b0 : decide (x9_1 < (l0.length : Int)) = true := decide_eq_true c2
        clear c2
        by_cases c3 : 0 ≤ x9_1
        · rw [if_pos c3] at H
          have c3b0 : decide (0 ≤ x9_1) = true := decide_eq_true c3
          clear c3
          by_cases c4 : x9_1 < (l0.length : Int)
          · rw [if_pos c4] at H
            have c4b0 : decide (x9_1 < (l0.length : Int)) = true := decide_eq_true c4
            clear c4
            by_cases c5 : x4_1 = 0
            · rw [if_pos c5] at H
              have c5b0 : (x4_1 == 0) = true := beq_iff_eq.mpr c5
              have c5b1 : (x4_1 != 0) = false := bne_eq_false_iff_eq.mpr c5
              clear c5
              by_cases c6 : (rd l0 x9_1) = 0
              · rw [if_pos c6] at H
                have c6b0 : ((rd l0 x9_1) == 0) = true := beq_iff_eq.mpr c6
                have c6b1 : ((rd l0 x9_1) != 0) = false := bne_eq_false_iff_eq.mpr c6
                clear c6
                simp only [Option.some.injEq, Prod.mk.injEq] at H
                obtain ⟨rfl, rfl⟩ := H
                have p114 : 0 ≤ (x9_1 : Int) := of_decide_eq_true (by first | (with_reducible assumption) | assumption)
                have q114 : x9_1 < (l0.length : Int) := of_decide_eq_true (by first | (with_reducible assumption) | assumption)
                obtain ⟨ad114, e114, hx114_0⟩ := Kd.at_int HR0.out x9_1 p114 q114
                cases e114
                replace hx114_0 := (HB.out.cell (World.block_lt_of_cell? w _ hx114_0)).trans hx114_0
                replace p114 := eq_true p114
                replace q114 := eq_true q114
                go_wp2
                go_ret2
                exact ⟨by first | rfl | (simp [errW_none, errW_some] <;> rfl) | (simp [*, errW_none, errW_some] <;> rfl), by repeat (first | (with_reducible first | exact HB.out | apply below_alloc | apply pw_below_drewN | apply below_drew1) | exact HB.out)⟩
              · rw [if_neg c6] at H
                have c6b0 : ((rd l0 x9_1) == 0) = false := beq_eq_false_iff_ne.mpr c6
                have c6b1 : ((rd l0 x9_1) != 0) = true := bne_iff_ne.mpr c6
                by_cases c7 : (x4_1 / 72057594037927936) = 0
                · rw [if_pos c7] at H
                  have c7b0 : ((x4_1 / 72057594037927936) == 0) = true := beq_iff_eq.mpr c7
                  have c7b1 : ((x4_1 / 72057594037927936) != 0) = false := bne_eq_false_iff_eq.mpr c7
                  clear c7
                  have H' := Aside0.mk H
                  clear H
                  have p114 : 0 ≤ (x9_1 : Int) := of_decide_eq_true (by first | (with_reducible assumption) | assumption)
                  have q114 : x9_1 < (l0.length : Int) := of_decide_eq_true (by first | (with_reducible assumption) | assumption)
                  obtain ⟨ad114, e114, hx114_0⟩ := Kd.at_int HR0.out x9_1 p114 q114
                  cases e114
                  replace hx114_0 := (HB.out.cell (World.block_lt_of_cell? w _ hx114_0)).trans hx114_0
                  replace p114 := eq_true p114
                  replace q114 := eq_true q114
                  go_wp2
                  go_roundg k1
                  case measure => have := HK1.out; omega
                  case rel => exact ⟨(Go.bits .or .u64 (IntKind.u64.wrap (x4_1 * 256)) (IntKind.u64.wrap (rd l0 x9_1))), (wrap64 (x9_1 + 1)), (by first | rfl | (simp; done) | (simp [*]; done)), (by first | rfl | (simp; done) | (simp [*]; done)), H', ⟨by have := HK1.out; omega⟩, ⟨by repeat (first | (with_reducible first | exact HB.out | apply below_alloc | apply pw_below_drewN | apply below_drew1) | exact HB.out)⟩⟩
                · rw [if_neg c7] at H
                  have c7b0 : ((x4_1 / 72057594037927936) == 0) = false := beq_eq_false_iff_ne.mpr c7
                  have c7b1 : ((x4_1 / 72057594037927936) != 0) = true := bne_iff_ne.mpr c7
                  simp only [Option.some.injEq, Prod.mk.injEq] at H
                  obtain ⟨rfl, rfl⟩ := H
                  have p114 : 0 ≤ (x9_1 : Int) := of_decide_eq_true (by first | (with_reducible assumption) | assumption)
                  have q114 : x9_1 < (l0.length : Int) := of_decide_eq_true (by first | (with_reducible assumption) | assumption)
                  obtain ⟨ad114, e114, hx114_0⟩ := Kd.at_int HR0.out x9_1 p114 q114
                  cases e114
                  replace hx114_0 := (HB.out.cell (World.block_lt_of_cell? w _ hx114_0)).trans hx114_0
                  replace p114 := eq_true p114
                  replace q114 := eq_true q114
                  go_wp2
                  go_ret2
                  exact ⟨by first | rfl | (simp [errW_none, errW_some] <;> rfl) | (simp [*, errW_none, errW_some] <;> rfl), by repeat (first | (with_reducible first | exact HB.out | apply below_alloc | apply pw_below_drewN | apply below_drew1) | exact HB.out)⟩
            · rw [if_neg c5] at H
              have c5b0 : (x4_1 == 0) = false := beq_eq_false_iff_ne.mpr c5
              have c5b1 : (x4_1 != 0) = true := bne_iff_ne.mpr c5
              by_cases c8 : (x4_1 / 72057594037927936) = 0
              · rw [if_pos c8] at H
                have c8b0 : ((x4_1 / 72057594037927936) == 0) = true := beq_iff_eq.mpr c8
                have c8b1 : ((x4_1 / 72057594037927936) != 0) = false := bne_eq_false_iff_eq.mpr c8
                clear c8
                have H' := Aside0.mk H
                clear H
                have p114 : 0 ≤ (x9_1 : Int) := of_decide_eq_true (by first | (with_reducible assumption) | assumption)
                have q114 : x9_1 < (l0.length : Int) := of_decide_eq_true (by first | (with_reducible assumption) | assumption)
                obtain ⟨ad114, e114, hx114_0⟩ := Kd.at_int HR0.out x9_1 p114 q114
                cases e114
                replace hx114_0 := (HB.out.cell (World.block_lt_of_cell? w _ hx114_0)).trans hx114_0
                replace p114 := eq_true p114
                replace q114 := eq_true q114
                go_wp2
                go_roundg k1
                case measure => have := HK1.out; omega
                case rel => exact ⟨(Go.bits .or .u64 (IntKind.u64.wrap (x4_1 * 256)) (IntKind.u64.wrap (rd l0 x9_1))), (wrap64 (x9_1 + 1)), (by first | rfl | (simp; done) | (simp [*]; done)), (by first | rfl | (simp; done) | (simp [*]; done)), H', ⟨by have := HK1.out; omega⟩, ⟨by repeat (first | (with_reducible first | exact HB.out | apply below_alloc | apply pw_below_drewN | apply below_drew1) | exact HB.out)⟩⟩
              · rw [if_neg c8] at H
                have c8b0 : ((x4_1 / 72057594037927936) == 0) = false := beq_eq_false_iff_ne.mpr c8
                have c8b1 : ((x4_1 / 72057594037927936) != 0) = true := bne_iff_ne.mpr c8
                simp only [Option.some.injEq, Prod.mk.injEq] at H
                obtain ⟨rfl, rfl⟩ := H
                have p114 : 0 ≤ (x9_1 : Int) := of_decide_eq_true (by first | (with_reducible assumption) | assumption)
                have q114 : x9_1 < (l0.length : Int) := of_decide_eq_true (by first | (with_reducible assumption) | assumption)
                obtain ⟨ad114, e114, hx114_0⟩ := Kd.at_int HR0.out x9_1 p114 q114
                cases e114
                replace hx114_0 := (HB.out.cell (World.block_lt_of_cell? w _ hx114_0)).trans hx114_0
                replace p114 := eq_true p114
                replace q114 := eq_true q114
                go_wp2
                go_ret2
                exact ⟨by first | rfl | (simp [errW_none, errW_some] <;> rfl) | (simp [*, errW_none, errW_some] <;> rfl), by repeat (first | (with_reducible first | exact HB.out | apply below_alloc | apply pw_below_drewN | apply below_drew1) | exact HB.out)⟩
          · rw [if_neg c4] at H
            exact absurd H (by simp)
        · rw [if_neg c3] at H
          exact absurd H (by simp)
      · rw [if_neg c2] at H
        have c2b0 : decide (x9_1 < (l0.length : Int)) = false := decide_eq_false c2
        clear c2
        simp only [Option.some.injEq, Prod.mk.injEq] at H
        obtain ⟨rfl, rfl⟩ := H
        go_wp2
        go_ret2
        exact ⟨by first | rfl | (simp [errW_none, errW_some] <;> rfl) | (simp [*, errW_none, errW_some] <;> rfl), by repeat (first | (with_reducible first | exact HB.out | apply below_alloc | apply pw_below_drewN | apply below_drew1) | exact HB.out)⟩

end Go.Proofs.Ytejbkjbldmaodaa.P
