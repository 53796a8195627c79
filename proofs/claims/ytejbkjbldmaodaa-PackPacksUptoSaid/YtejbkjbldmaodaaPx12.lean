/- Functions of the translated program as plain Lean functions, and proofs that their calls come to these. Written by a program of the session. No condition. -/
import Derived.Test.YtejbkjbldmaodaaPx0
namespace Go.Proofs.Ytejbkjbldmaodaa.P
open Go.RowKit Go.Proofs.YtejbkjbldmaodaaW.PrintWords Go.Proofs.YtejbkjbldmaodaaW.PrintLast Go.Proofs.YtejbkjbldmaodaaW.PrintMore
attribute [local go_sem] max2_int min2_int max_two min_two max_three min_three max_four min_four   -- for this text's walks alone
set_option linter.unusedVariables false
set_option linter.unusedSimpArgs false

/-! ### gessoref11_Unpack: function 19 -/
def gessoref11_Unpack.l0 : Nat → List Int → List (List Int) → Option ((List (List Int)) × Int)
  | 0, _, _ => none
  | k + 1, x0, x4 => if (x0.length : Int) > 0 then (if (x0.length : Int) < 2 then (some (([] : List (List Int)), 4)) else (if 0 < (x0.length : Int) then (if 1 < (x0.length : Int) then (if (wrap64 ((wrap64 (256 * (wrap64 (rd x0 0)))) + (wrap64 (rd x0 1)))) > 1024 then (some (([] : List (List Int)), 4)) else (if (wrap64 ((wrap64 (256 * (wrap64 (rd x0 0)))) + (wrap64 (rd x0 1)))) > (wrap64 ((x0.length : Int) - 2)) then (some (([] : List (List Int)), 4)) else ((some (([] : List Int) : List Int)).bind fun y205 => (if 2 ≤ (wrap64 (2 + (wrap64 ((wrap64 (256 * (wrap64 (rd x0 0)))) + (wrap64 (rd x0 1)))))) then (if (wrap64 (2 + (wrap64 ((wrap64 (256 * (wrap64 (rd x0 0)))) + (wrap64 (rd x0 1)))))) ≤ (x0.length : Int) then ((some ((x0.take ((wrap64 (2 + (wrap64 ((wrap64 (256 * (wrap64 (rd x0 0)))) + (wrap64 (rd x0 1)))))) : Int).toNat).drop 2 : List Int)).bind fun y208 => (if y205.length + y208.length < 140737488355328 then (if x4.length < 5864062014805 then (if 0 ≤ (wrap64 (2 + (wrap64 ((wrap64 (256 * (wrap64 (rd x0 0)))) + (wrap64 (rd x0 1)))))) then (gessoref11_Unpack.l0 k (x0.drop ((wrap64 (2 + (wrap64 ((wrap64 (256 * (wrap64 (rd x0 0)))) + (wrap64 (rd x0 1)))))) : Int).toNat) (x4 ++ [(y205 ++ y208)])) else (none)) else (none)) else (none))) else (none)) else (none))))) else (none)) else (none))) else (some (x4, 0))
def gessoref11_Unpack.f (k : Nat) (l0 : List Int) : Option ((List (List Int)) × Int) := gessoref11_Unpack.l0 k l0 ([] : List (List Int))
theorem gessoref11_Unpack.mono_l : ∀ k, (∀ y0 y1, LeO (gessoref11_Unpack.l0 k y0 y1) (gessoref11_Unpack.l0 (k + 1) y0 y1))
  | 0 => fun _ _ r h => by simp [gessoref11_Unpack.l0] at h
  | k + 1 => by
    have ih0 := gessoref11_Unpack.mono_l k
    · intro y0 y1
      unfold gessoref11_Unpack.l0
      repeat' first
      | (with_reducible exact ih0 _ _)
      | (with_reducible exact LeO.refl _)
      | (with_reducible exact LeO.none _)
      | (with_reducible refine LeO.ite ?_ ?_)
      | (with_reducible refine LeO.bind ?_ (fun _ => ?_))
      | exact ih0 _ _
      | exact LeO.none _
      | refine LeO.ite ?_ ?_
      | refine LeO.bind ?_ (fun _ => ?_)
theorem gessoref11_Unpack.mono : ∀ a0 k, LeO (gessoref11_Unpack.f k a0) (gessoref11_Unpack.f (k + 1) a0) := by
  intro a0 k
  have ih0 := gessoref11_Unpack.mono_l k
  unfold gessoref11_Unpack.f
  repeat' first
      | (with_reducible exact ih0 _ _)
      | (with_reducible exact LeO.refl _)
      | (with_reducible exact LeO.none _)
      | (with_reducible refine LeO.ite ?_ ?_)
      | (with_reducible refine LeO.bind ?_ (fun _ => ?_))
      | exact ih0 _ _
      | exact LeO.none _
      | refine LeO.ite ?_ ?_
      | refine LeO.bind ?_ (fun _ => ?_)
set_option maxHeartbeats 8000000 in
set_option maxRecDepth 100000 in
theorem gessoref11_Unpack.calls (k : Nat) (P0_ : Nat → Prop) (A0 : Option Addr) (c0 : Nat) (l0 : List Int) (r1 : List (List Int)) (r2 : Int) (w : World) (hs0 : Kd.V (Kd.int .u8) 5 w w.heap.size (fun k_ => P0_ k_) (.slice A0 l0.length c0) l0) (h : gessoref11_Unpack.f k l0 = some (r1, r2)) :
    Calls Try.prog 19 #[.slice A0 l0.length c0] w fun e w' => ∃ v0_ : Value, e = .returned (.tuple #[v0_, .int .i64 r2]) ∧ Kd.S (Kd.slice 5 (Kd.int .u8)) 23 w' w.heap.size (fun k_ => (w.heap.size ≤ k_)) v0_ r1 ∧ Below w.heap.size w w' := by
  have HO0 := Aside0.mk (show Kd.V (Kd.int .u8) 5 w w.heap.size (fun k_ => (P0_ k_ ∨ w.heap.size ≤ k_)) (.slice A0 l0.length c0) l0 from Kd.V_mono hs0 (fun k_ hk => .inl hk))
  have HB := Aside0.mk (Below.refl w.heap.size w)
  have H : (gessoref11_Unpack.l0 k l0 ([] : List (List Int))) = some (r1, r2) := h
  clear h
  have H' := Aside0.mk H
  clear H
  go_enter Try.func19, Try.ntmps19
  go_wp2
  repeat (go_quiet (fail); try go_wp2)
  go_loopg [0, 4] k (fun kq v0 v4 w' => ∃ (x0_1 : List Int) (x4_1 : List (List Int)), Aside0 (gessoref11_Unpack.l0 kq x0_1 x4_1 = some (r1, r2)) ∧ Aside0 (kq ≤ k) ∧ Aside0 (Kd.V (Kd.int .u8) 5 w' w.heap.size (fun k_ => (P0_ k_ ∨ w.heap.size ≤ k_) ∧ some k_ ≠ (v4 : Value).ownBlock) v0 x0_1) ∧ Aside0 (Kd.S (Kd.slice 5 (Kd.int .u8)) 23 w' w.heap.size (fun k_ => (w.heap.size ≤ k_)) v4 x4_1) ∧ Aside0 (Below w.heap.size w w'))
  case atStart => exact ⟨(l0), (([] : List (List Int))), H', ⟨Nat.le_refl _⟩, ⟨by (with_reducible repeat (first | apply Kd.V_alloc | apply Kd.V_drewN | apply Kd.V_drew)); exact Kd.V_mono HO0.out (fun _ hk => ⟨hk, (by simp [Value.ownBlock])⟩)⟩, ⟨by first | exact Kd.S_nil _ _ _ _ _ | exact Kd.N_nil _ _ _ _ _ | exact Kd.V_nil _ _ _ _ _ | exact Kd.Q_nil _ _ _ _ _ | exact Kd.R_nil _ _ _ _ _⟩, ⟨by repeat (first | (with_reducible first | exact HB.out | apply below_alloc | apply pw_below_drewN | apply below_drew1) | exact HB.out)⟩⟩
  case round =>
    clear H'
    try clear c1
    obtain ⟨x0_1, x4_1, HA, HK1, HO_0, HO_4, HB⟩ := hrel
    cases gk with
    | zero => exact absurd HA.out (by simp [gessoref11_Unpack.l0])
    | succ k1 =>
      have H := HA.out
      clear HA
      simp only [gessoref11_Unpack.l0] at H
      by_cases c2 : (x0_1.length : Int) > 0
      · rw [if_pos c2] at H
        have c2b0 : decide (0 < (x0_1.length : Int)) = true := decide_eq_true c2
        have c2b1 : decide (0 < x0_1.length) = true := decide_eq_true (by omega)
        clear c2
        by_cases c3 : (x0_1.length : Int) < 2
        · rw [if_pos c3] at H
          have c3b0 : decide ((x0_1.length : Int) < 2) = true := decide_eq_true c3
          have c3b1 : decide (x0_1.length < 2) = true := decide_eq_true (by omega)
          clear c3
          simp only [Option.some.injEq, Prod.mk.injEq] at H
          obtain ⟨rfl, rfl⟩ := H
          obtain ⟨Ao4, co4, eo4⟩ := Kd.V_slice HO_0.out
          subst eo4
          go_wp2
          repeat (go_quiet (fail); try go_wp2)
          go_ret2
          exact ⟨_, by first | rfl | (simp [errW_none, errW_some] <;> rfl) | (simp [*, errW_none, errW_some] <;> rfl), by first | exact Kd.S_nil _ _ _ _ _ | exact Kd.N_nil _ _ _ _ _ | exact Kd.V_nil _ _ _ _ _ | exact Kd.Q_nil _ _ _ _ _ | exact Kd.R_nil _ _ _ _ _, by repeat (first | (with_reducible first | exact HB.out | apply below_alloc | apply pw_below_drewN | apply below_drew1) | exact HB.out)⟩
        · rw [if_neg c3] at H
          have c3b0 : decide ((x0_1.length : Int) < 2) = false := decide_eq_false c3
          have c3b1 : decide (x0_1.length < 2) = false := decide_eq_false (by omega)
          clear c3
          by_cases c5 : 0 < (x0_1.length : Int)
          · rw [if_pos c5] at H
            have c5b0 : decide (0 < (x0_1.length : Int)) = true := decide_eq_true c5
            have c5b1 : decide (0 < x0_1.length) = true := decide_eq_true (by omega)
            clear c5
            by_cases c6 : 1 < (x0_1.length : Int)
            · rw [if_pos c6] at H
              have c6b0 : decide (1 < (x0_1.length : Int)) = true := decide_eq_true c6
              have c6b1 : decide (1 < x0_1.length) = true := decide_eq_true (by omega)
              clear c6
              by_cases c7 : (wrap64 ((wrap64 (256 * (wrap64 (rd x0_1 0)))) + (wrap64 (rd x0_1 1)))) > 1024
              · rw [if_pos c7] at H
                have c7b0 : decide (1024 < (wrap64 ((wrap64 (256 * (wrap64 (rd x0_1 0)))) + (wrap64 (rd x0_1 1))))) = true := decide_eq_true c7
                clear c7
                simp only [Option.some.injEq, Prod.mk.injEq] at H
                obtain ⟨rfl, rfl⟩ := H
                obtain ⟨Ao8, co8, eo8⟩ := Kd.V_slice HO_0.out
                subst eo8
                have p203 : 0 ≤ (0 : Int) := (by omega)
                have q203 : 0 < (x0_1.length : Int) := of_decide_eq_true (by first | (with_reducible assumption) | assumption)
                obtain ⟨ad203, e203, hx203_0⟩ := Kd.at_int (Kd.V_reads' HO_0.out).2.2 0 p203 q203
                cases e203
                have qi203 : (0 < x0_1.length) = True := eq_true (by omega)
                (try rw [show ((0 : Int)).toNat = 0 from rfl] at hx203_0)
                (try rw [Addr.add_zero'] at hx203_0)
                replace p203 := eq_true p203
                replace q203 := eq_true q203
                have p204 : 0 ≤ (1 : Int) := (by omega)
                have q204 : 1 < (x0_1.length : Int) := of_decide_eq_true (by first | (with_reducible assumption) | assumption)
                obtain ⟨ad204, e204, hx204_0⟩ := Kd.at_int (Kd.V_reads' HO_0.out).2.2 1 p204 q204
                obtain rfl : ad203 = ad204 := (by injection e204)
                (try simp only [show (1 : Int).toNat = 1 from rfl, Nat.reduceMul, Nat.reduceEqDiff, Go.Addr.add, ↓reduceIte] at hx204_0)
                have qi204 : (1 < x0_1.length) = True := eq_true (by omega)
                (try rw [show ((1 : Int)).toNat = 1 from rfl] at hx204_0)
                replace p204 := eq_true p204
                replace q204 := eq_true q204
                go_wp2
                repeat (go_quiet (fail); try go_wp2)
                go_ret2
                exact ⟨_, by first | rfl | (simp [errW_none, errW_some] <;> rfl) | (simp [*, errW_none, errW_some] <;> rfl), by first | exact Kd.S_nil _ _ _ _ _ | exact Kd.N_nil _ _ _ _ _ | exact Kd.V_nil _ _ _ _ _ | exact Kd.Q_nil _ _ _ _ _ | exact Kd.R_nil _ _ _ _ _, by repeat (first | (with_reducible first | exact HB.out | apply below_alloc | apply pw_below_drewN | apply below_drew1) | exact HB.out)⟩
              · rw [if_neg c7] at H
                have c7b0 : decide (1024 < (wrap64 ((wrap64 (256 * (wrap64 (rd x0_1 0)))) + (wrap64 (rd x0_1 1))))) = false := decide_eq_false c7
                clear c7
                by_cases c9 : (wrap64 ((wrap64 (256 * (wrap64 (rd x0_1 0)))) + (wrap64 (rd x0_1 1)))) > (wrap64 ((x0_1.length : Int) - 2))
                · rw [if_pos c9] at H
                  have c9b0 : decide ((wrap64 ((x0_1.length : Int) - 2)) < (wrap64 ((wrap64 (256 * (wrap64 (rd x0_1 0)))) + (wrap64 (rd x0_1 1))))) = true := decide_eq_true c9
                  clear c9
                  simp only [Option.some.injEq, Prod.mk.injEq] at H
                  obtain ⟨rfl, rfl⟩ := H
                  obtain ⟨Ao10, co10, eo10⟩ := Kd.V_slice HO_0.out
                  subst eo10
                  have p203 : 0 ≤ (0 : Int) := (by omega)
                  have q203 : 0 < (x0_1.length : Int) := of_decide_eq_true (by first | (with_reducible assumption) | assumption)
                  obtain ⟨ad203, e203, hx203_0⟩ := Kd.at_int (Kd.V_reads' HO_0.out).2.2 0 p203 q203
                  cases e203
                  have qi203 : (0 < x0_1.length) = True := eq_true (by omega)
                  (try rw [show ((0 : Int)).toNat = 0 from rfl] at hx203_0)
                  (try rw [Addr.add_zero'] at hx203_0)
                  replace p203 := eq_true p203
                  replace q203 := eq_true q203
                  have p204 : 0 ≤ (1 : Int) := (by omega)
                  have q204 : 1 < (x0_1.length : Int) := of_decide_eq_true (by first | (with_reducible assumption) | assumption)
                  obtain ⟨ad204, e204, hx204_0⟩ := Kd.at_int (Kd.V_reads' HO_0.out).2.2 1 p204 q204
                  obtain rfl : ad203 = ad204 := (by injection e204)
                  (try simp only [show (1 : Int).toNat = 1 from rfl, Nat.reduceMul, Nat.reduceEqDiff, Go.Addr.add, ↓reduceIte] at hx204_0)
                  have qi204 : (1 < x0_1.length) = True := eq_true (by omega)
                  (try rw [show ((1 : Int)).toNat = 1 from rfl] at hx204_0)
                  replace p204 := eq_true p204
                  replace q204 := eq_true q204
                  go_wp2
                  repeat (go_quiet (fail); try go_wp2)
                  go_ret2
                  exact ⟨_, by first | rfl | (simp [errW_none, errW_some] <;> rfl) | (simp [*, errW_none, errW_some] <;> rfl), by first | exact Kd.S_nil _ _ _ _ _ | exact Kd.N_nil _ _ _ _ _ | exact Kd.V_nil _ _ _ _ _ | exact Kd.Q_nil _ _ _ _ _ | exact Kd.R_nil _ _ _ _ _, by repeat (first | (with_reducible first | exact HB.out | apply below_alloc | apply pw_below_drewN | apply below_drew1) | exact HB.out)⟩
                · rw [if_neg c9] at H
                  have c9b0 : decide ((wrap64 ((x0_1.length : Int) - 2)) < (wrap64 ((wrap64 (256 * (wrap64 (rd x0_1 0)))) + (wrap64 (rd x0_1 1))))) = false := decide_eq_false c9
                  clear c9
                  obtain ⟨y205, hy205⟩ : ∃ y_ : List Int, y_ = (([] : List Int)) := ⟨_, rfl⟩
                  replace H : (if 2 ≤ (wrap64 (2 + (wrap64 ((wrap64 (256 * (wrap64 (rd x0_1 0)))) + (wrap64 (rd x0_1 1)))))) then (if (wrap64 (2 + (wrap64 ((wrap64 (256 * (wrap64 (rd x0_1 0)))) + (wrap64 (rd x0_1 1)))))) ≤ (x0_1.length : Int) then ((some ((x0_1.take ((wrap64 (2 + (wrap64 ((wrap64 (256 * (wrap64 (rd x0_1 0)))) + (wrap64 (rd x0_1 1)))))) : Int).toNat).drop 2 : List Int)).bind fun y208 => (if y205.length + y208.length < 140737488355328 then (if x4_1.length < 5864062014805 then (if 0 ≤ (wrap64 (2 + (wrap64 ((wrap64 (256 * (wrap64 (rd x0_1 0)))) + (wrap64 (rd x0_1 1)))))) then (gessoref11_Unpack.l0 k1 (x0_1.drop ((wrap64 (2 + (wrap64 ((wrap64 (256 * (wrap64 (rd x0_1 0)))) + (wrap64 (rd x0_1 1)))))) : Int).toNat) (x4_1 ++ [(y205 ++ y208)])) else (none)) else (none)) else (none))) else (none)) else (none)) = some (r1, r2) := by first | (rw [hy205]; with_reducible exact H) | (have H2_ := (Option.bind_some _ _).symm.trans H; rw [hy205]; with_reducible exact H2_) | (have H2_ := (Option.bind_some _ _).symm.trans H; with_reducible exact H2_) | with_reducible exact H | (rw [hy205]; exact H) | exact H
                  have Ny205 := Aside0.mk hy205
                  clear hy205
                  by_cases c11 : 2 ≤ (wrap64 (2 + (wrap64 ((wrap64 (256 * (wrap64 (rd x0_1 0)))) + (wrap64 (rd x0_1 1))))))
                  · rw [if_pos c11] at H
                    have c11b0 := eq_true c11
                    have c11b1 : decide (2 ≤ (wrap64 (2 + (wrap64 ((wrap64 (256 * (wrap64 (rd x0_1 0)))) + (wrap64 (rd x0_1 1))))))) = true := decide_eq_true c11
                    by_cases c12 : (wrap64 (2 + (wrap64 ((wrap64 (256 * (wrap64 (rd x0_1 0)))) + (wrap64 (rd x0_1 1)))))) ≤ (x0_1.length : Int)
                    · rw [if_pos c12] at H
                      have c12b0 := eq_true c12
                      have c12b1 : decide ((wrap64 (2 + (wrap64 ((wrap64 (256 * (wrap64 (rd x0_1 0)))) + (wrap64 (rd x0_1 1)))))) ≤ (x0_1.length : Int)) = true := decide_eq_true c12
                      obtain ⟨y208, hy208⟩ : ∃ y_ : List Int, y_ = ((x0_1.take ((wrap64 (2 + (wrap64 ((wrap64 (256 * (wrap64 (rd x0_1 0)))) + (wrap64 (rd x0_1 1)))))) : Int).toNat).drop 2) := ⟨_, rfl⟩
                      replace H : (if y205.length + y208.length < 140737488355328 then (if x4_1.length < 5864062014805 then (if 0 ≤ (wrap64 (2 + (wrap64 ((wrap64 (256 * (wrap64 (rd x0_1 0)))) + (wrap64 (rd x0_1 1)))))) then (gessoref11_Unpack.l0 k1 (x0_1.drop ((wrap64 (2 + (wrap64 ((wrap64 (256 * (wrap64 (rd x0_1 0)))) + (wrap64 (rd x0_1 1)))))) : Int).toNat) (x4_1 ++ [(y205 ++ y208)])) else (none)) else (none)) else (none)) = some (r1, r2) := by first | (rw [hy208]; with_reducible exact H) | (have H2_ := (Option.bind_some _ _).symm.trans H; rw [hy208]; with_reducible exact H2_) | (have H2_ := (Option.bind_some _ _).symm.trans H; with_reducible exact H2_) | with_reducible exact H | (rw [hy208]; exact H) | exact H
                      have Ny208 := Aside0.mk hy208
                      clear hy208
                      by_cases c13 : y205.length + y208.length < 140737488355328
                      · rw [if_pos c13] at H
                        have LMc13 := Aside0.mk c13
                        clear c13
                        obtain ⟨y213, hy213⟩ : ∃ y_ : List Int, y_ = (y205 ++ y208) := ⟨_, rfl⟩
                        replace H : (if x4_1.length < 5864062014805 then (if 0 ≤ (wrap64 (2 + (wrap64 ((wrap64 (256 * (wrap64 (rd x0_1 0)))) + (wrap64 (rd x0_1 1)))))) then (gessoref11_Unpack.l0 k1 (x0_1.drop ((wrap64 (2 + (wrap64 ((wrap64 (256 * (wrap64 (rd x0_1 0)))) + (wrap64 (rd x0_1 1)))))) : Int).toNat) (x4_1 ++ [y213])) else (none)) else (none)) = some (r1, r2) := by first | (rw [hy213]; with_reducible exact H) | (have H2_ := (Option.bind_some _ _).symm.trans H; rw [hy213]; with_reducible exact H2_) | (have H2_ := (Option.bind_some _ _).symm.trans H; with_reducible exact H2_) | with_reducible exact H | (rw [hy213]; exact H) | exact H
                        have Ny213 := Aside0.mk hy213
                        clear hy213
                        by_cases c14 : x4_1.length < 5864062014805
                        · rw [if_pos c14] at H
                          have LMc14 := Aside0.mk c14
                          clear c14
                          obtain ⟨y216, hy216⟩ : ∃ y_ : List (List Int), y_ = (x4_1 ++ [y213]) := ⟨_, rfl⟩
                          replace H : (if 0 ≤ (wrap64 (2 + (wrap64 ((wrap64 (256 * (wrap64 (rd x0_1 0)))) + (wrap64 (rd x0_1 1)))))) then (gessoref11_Unpack.l0 k1 (x0_1.drop ((wrap64 (2 + (wrap64 ((wrap64 (256 * (wrap64 (rd x0_1 0)))) + (wrap64 (rd x0_1 1)))))) : Int).toNat) y216) else (none)) = some (r1, r2) := by first | (rw [hy216]; with_reducible exact H) | (have H2_ := (Option.bind_some _ _).symm.trans H; rw [hy216]; with_reducible exact H2_) | (have H2_ := (Option.bind_some _ _).symm.trans H; with_reducible exact H2_) | with_reducible exact H | (rw [hy216]; exact H) | exact H
                          have Ny216 := Aside0.mk hy216
                          clear hy216
                          obtain ⟨ji15, hji15⟩ : ∃ j_ : Int, (wrap64 (2 + (wrap64 ((wrap64 (256 * (wrap64 (rd x0_1 0)))) + (wrap64 (rd x0_1 1)))))) = j_ := ⟨_, rfl⟩
                          replace H : (if 0 ≤ (ji15) then (gessoref11_Unpack.l0 k1 (x0_1.drop ((ji15) : Int).toNat) y216) else (none)) = some (r1, r2) := by first | (rw [hji15] at H; exact H) | (simp only [hji15] at H ⊢; exact H)
                          (try rw [hji15] at c11b0)
                          (try rw [hji15] at c11b1)
                          (try rw [hji15] at c11)
                          (try rw [hji15] at c12b0)
                          (try rw [hji15] at c12b1)
                          (try rw [hji15] at c12)
                          (try rw [hji15] at Ny208)
                          (try rw [hji15] at Ny208)
                          have hji15w : (IntKind.i64.wrap (2 + (wrap64 ((wrap64 (256 * (wrap64 (rd x0_1 0)))) + (wrap64 (rd x0_1 1)))))) = ji15 := (i64_w _).trans hji15
                          by_cases c16 : 0 ≤ (ji15)
                          · rw [if_pos c16] at H
                            have c16b0 := eq_true c16
                            have c16b1 : decide (0 ≤ (ji15)) = true := decide_eq_true c16
                            clear c16
                            have c17b0 := eq_true (of_decide_eq_true (by first | (with_reducible assumption) | assumption) : (ji15) ≤ (x0_1.length : Int))
                            obtain ⟨y219, hy219⟩ : ∃ y_ : List Int, y_ = (x0_1.drop ((ji15) : Int).toNat) := ⟨_, rfl⟩
                            replace H : (gessoref11_Unpack.l0 k1 y219 y216) = some (r1, r2) := by first | (rw [hy219]; with_reducible exact H) | (have H2_ := (Option.bind_some _ _).symm.trans H; rw [hy219]; with_reducible exact H2_) | (have H2_ := (Option.bind_some _ _).symm.trans H; with_reducible exact H2_) | with_reducible exact H | (rw [hy219]; exact H) | exact H
                            have Ny219 := Aside0.mk hy219
                            clear hy219
                            have H' := Aside0.mk H
                            clear H
                            obtain ⟨Ao18, co18, eo18⟩ := Kd.V_slice HO_0.out
                            subst eo18
                            have p203 : 0 ≤ (0 : Int) := (by omega)
                            have q203 : 0 < (x0_1.length : Int) := of_decide_eq_true (by first | (with_reducible assumption) | assumption)
                            obtain ⟨ad203, e203, hx203_0⟩ := Kd.at_int (Kd.V_reads' HO_0.out).2.2 0 p203 q203
                            cases e203
                            have qi203 : (0 < x0_1.length) = True := eq_true (by omega)
                            (try rw [show ((0 : Int)).toNat = 0 from rfl] at hx203_0)
                            (try rw [Addr.add_zero'] at hx203_0)
                            replace p203 := eq_true p203
                            replace q203 := eq_true q203
                            have p204 : 0 ≤ (1 : Int) := (by omega)
                            have q204 : 1 < (x0_1.length : Int) := of_decide_eq_true (by first | (with_reducible assumption) | assumption)
                            obtain ⟨ad204, e204, hx204_0⟩ := Kd.at_int (Kd.V_reads' HO_0.out).2.2 1 p204 q204
                            obtain rfl : ad203 = ad204 := (by injection e204)
                            (try simp only [show (1 : Int).toNat = 1 from rfl, Nat.reduceMul, Nat.reduceEqDiff, Go.Addr.add, ↓reduceIte] at hx204_0)
                            have qi204 : (1 < x0_1.length) = True := eq_true (by omega)
                            (try rw [show ((1 : Int)).toNat = 1 from rfl] at hx204_0)
                            replace p204 := eq_true p204
                            replace q204 := eq_true q204
                            go_wp2_with (first | ((with_reducible refine gate_dst (N := 32) rfl ?_); (try (refine gate_guard (by rfl) ?_; dsimp only)); refine Kd.R_lit (Kd.int .u8) _ 5 ?hg (N := 32) ?hd (xs := ([] : List Int)) (inner := []) (ok := fun _ => True) (okp := fun _ => True) ?hr ?hp (fun _ hk => hk) trivial (Below.refl _ _) (Nat.le_refl _) (by simp) ?_; (case hd => rfl); (case hg => rfl); (case hr => first | (go_simp; done) | (go_simp; rfl)); (case hp => exact (Reps.none _ _)); intro v206 w19 ho20 hb hg_ hnew_; clear hg_ hnew_; (first | rw [← Ny205.out] at ho20 | (simp only [Int.reduceToNat] at ho20; rw [← Ny205.out] at ho20)); have n0_ := Aside0.mk (Kd.V_elder' (by (with_reducible repeat (first | apply Kd.V_alloc | apply Kd.V_drewN | apply Kd.V_drew)); exact HO_0.out) (Kd.R_base ho20) hb); have n1_ := Aside0.mk (Kd.S_elder' (by (with_reducible repeat (first | apply Kd.S_alloc | apply Kd.S_drewN | apply Kd.S_drew)); exact HO_4.out) (Kd.R_base ho20) hb); have n2_ := Aside0.mk (Kd.R_lower (Kd.R_newM (M := fun k_ => (w.heap.size ≤ k_)) ho20 (below_size (by repeat (first | (with_reducible first | exact HB.out | apply below_alloc | apply pw_below_drewN | apply below_drew1) | exact HB.out))) (fun k_ h_ => h_)) (below_size (by repeat (first | (with_reducible first | exact HB.out | apply below_alloc | apply pw_below_drewN | apply below_drew1) | exact HB.out)))); have n3_ := Aside0.mk (below_step (by repeat (first | (with_reducible first | exact HB.out | apply below_alloc | apply pw_below_drewN | apply below_drew1) | exact HB.out)) hb); clear HO_0; clear HO_4; clear HB; have HO_0 := n0_; have HO_4 := n1_; have HO207 := n2_; have HB := n3_; clear n0_ n1_ n2_ n3_; clear hb ho20; have q21 : ((ji15) : Int) ≤ ((x0_1.length : Int) : Int) := of_decide_eq_true (by first | (with_reducible assumption) | assumption); obtain ⟨i021, hi021, _, hsz21, _⟩ := info_parts info5; have hroom21 : x0_1.length ≤ co18 := (Kd.V_reads' HO_0.out).2.1; have hC21 : Kd.F (Kd.int .u8) _ _ (some ad203) x0_1.length x0_1 := (Kd.V_at (base := w.heap.size) HO_0.out).2.2; have ql21 : (2 : Int) ≤ ((ji15) : Int) := of_decide_eq_true (by first | (with_reducible assumption) | assumption); have hcut21 := cut_mid (P := Try.prog) 23 5 .i64 .i64 Try.underlying23 hi021 1 hsz21 (some ad203) x0_1.length co18 2 (ji15) (by omega) ql21 q21 hroom21; have hr21 := Kd.F_mid (lo := (2 : Int).toNat) (hi := ((ji15) : Int).toNat) (c := co18) hC21 (by omega) (by omega) hroom21; obtain ⟨A21, hA21⟩ : ∃ A1, A1 = (if co18 = (2 : Int).toNat then (some ad203) else ((some ad203) : Option Addr).map (·.add ((2 : Int).toNat * 1))) := ⟨_, rfl⟩; obtain ⟨c21, hc21⟩ : ∃ c1, c1 = co18 - (2 : Int).toNat := ⟨_, rfl⟩; have hy21 : y208.length = ((ji15) : Int).toNat - (2 : Int).toNat := (by rw [Ny208.out, List.length_drop, List.length_take] <;> omega); rw [show ((x0_1).take ((ji15) : Int).toNat).drop (2 : Int).toNat = y208 from Ny208.out.symm] at hr21; replace hr21 : Kd.F (Kd.int .u8) _ _ A21 y208.length y208 := (by rw [hA21]; exact hr21); rw [← hy21, ← hA21, ← hc21] at hcut21; have HO212 := Aside0.mk (show Kd.V (Kd.int .u8) 5 _ w.heap.size _ (.slice A21 y208.length c21) y208 from Kd.V_mk (by rw [hy21, hc21]; exact Nat.sub_le_sub_right (Nat.le_trans (by omega) hroom21) _) hr21); have HC212 := Aside0.mk (show y208.length ≤ c21 from by rw [hy21, hc21]; exact Nat.sub_le_sub_right (Nat.le_trans (by omega) hroom21) _); clear hr21 hC21 hroom21 hi021 hsz21 hc21; have KY21 := Aside0.mk hy21; have KA21 := Aside0.mk hA21; clear hy21 hA21; replace q21 := eq_true q21) | ((with_reducible refine gate_builtin (b := .append) (xs := #[.tmp 32, .tmp 36]) rfl ?_); (try (refine gate_guard (by rfl) ?_; dsimp only)); at_builtin; refine Kd.R_append_rows (Kd.int .u8) (w0 := w) w.heap.size rfl (.tmp 32) (.tmp 36) 23 5 (.int .u8 0) 1 rfl Try.underlying23 info5 rfl (by decide) (by omega) v206 y205 y208 _ _ _ (fun k_ => (w.heap.size ≤ k_)) (fun _ => False) rfl rfl ?aO ?aR (fun _ _ h => h) (fun _ h => h.elim) ?aF ?aB ?aS ?aL ?_; (case aR => repeat (first | exact (Kd.V_reads' HO212.out).2.2 | (with_reducible refine Kd.C_alloc ?_ _) | (with_reducible refine Kd.C_drewN ?_ _) | (with_reducible refine Kd.C_drew ?_))); (case aB => exact (by repeat (first | (with_reducible first | exact HB.out | apply below_alloc | apply pw_below_drewN | apply below_drew1) | exact HB.out))); (case aF => exact (fun k_ hk => (Nat.le_trans (below_size (by repeat (first | (with_reducible first | exact HB.out | apply below_alloc | apply pw_below_drewN | apply below_drew1) | exact HB.out))) hk))); (case aO => exact (by (with_reducible repeat (first | apply Kd.R_alloc | apply Kd.R_drewN | apply Kd.R_drew)); exact Kd.R_mono HO207.out (fun _ hk => hk.1))); (case aS => exact (below_size (by repeat (first | (with_reducible first | exact HB.out | apply below_alloc | apply pw_below_drewN | apply below_drew1) | exact HB.out)))); (case aL => have := LMc13.out; omega); intro v214 w22 ho hb hg hat; rw [← Ny213.out] at ho; have n0_ := Aside0.mk (Kd.V_afterv (ok := (fun k_ => (P0_ k_ ∨ w.heap.size ≤ k_) ∧ some k_ ≠ (u4 : Value).ownBlock)) (by (with_reducible repeat (first | apply Kd.V_alloc | apply Kd.V_drewN | apply Kd.V_drew)); exact HO_0.out) hg hat); have n1_ := Aside0.mk (Kd.S_after (ok := (fun k_ => (w.heap.size ≤ k_))) (by (with_reducible repeat (first | apply Kd.S_alloc | apply Kd.S_drewN | apply Kd.S_drew)); exact HO_4.out) hg hat); have n2_ := Aside0.mk (Kd.V_afterv (ok := (fun k_ => (P0_ k_ ∨ w.heap.size ≤ k_) ∧ some k_ ≠ (u4 : Value).ownBlock)) (by (with_reducible repeat (first | apply Kd.V_alloc | apply Kd.V_drewN | apply Kd.V_drew)); exact HO212.out) hg hat); have n3_ := Aside0.mk (hb); have n4_ := Aside0.mk (ho); clear HO_0; clear HO_4; clear HO212; clear HB; clear HO207; have HO_0 := n0_; have HO_4 := n1_; have HO212 := n2_; have HB := n3_; have HO215 := n4_; clear n0_ n1_ n2_ n3_ n4_; clear ho hb hg hat; obtain ⟨Ao24, co24, eo24⟩ := Kd.R_slice HO215.out; subst eo24) | ((with_reducible refine gate_builtin (b := .append) (xs := #[.tmp 31, .tmp 38]) rfl ?_); (try (refine gate_guard (by rfl) ?_; dsimp only)); at_builtin; refine Kd.S_append (Kd.slice 5 (Kd.int .u8)) (w0 := w) w.heap.size rfl (.tmp 31) (.tmp 38) 22 23 (.slice none 0 0) 24 rfl Try.underlying22 info23 rfl (by decide) (by omega) u4 x4_1 y213 [.slice Ao24 y213.length co24] (fun k_ => (w.heap.size ≤ k_)) (fun k_ => some k_ = (.slice Ao24 y213.length co24 : Value).ownBlock) rfl rfl ?aP (fun k_ hk_ => ((Kd.R_mono (ok' := fun k_ => ((fun k_ => (w.heap.size ≤ k_))) k_ ∧ some k_ ≠ (u4 : Value).ownBlock) (Kd.R_apart' (HO215.out) (Kd.S_typed HO_4.out) (by decide)) (fun k_ hk => ⟨hk.1, hk.2⟩))).1 k_ hk_.symm) ?aF ?aO ?aB ?aS ?aL ?_; (case aP => exact Kd.M_row (Kd.R_mono (Kd.R_tight rfl (Kd.R_mono (ok' := fun k_ => ((fun k_ => (w.heap.size ≤ k_))) k_ ∧ some k_ ≠ (u4 : Value).ownBlock) (Kd.R_apart' (HO215.out) (Kd.S_typed HO_4.out) (by decide)) (fun k_ hk => ⟨hk.1, hk.2⟩))) (fun _ h_ => h_))); (case aB => exact (by repeat (first | (with_reducible first | exact HB.out | apply below_alloc | apply pw_below_drewN | apply below_drew1) | exact HB.out))); (case aF => exact (fun k_ hk => (Nat.le_trans (below_size (by repeat (first | (with_reducible first | exact HB.out | apply below_alloc | apply pw_below_drewN | apply below_drew1) | exact HB.out))) hk))); (case aO => exact (by (with_reducible repeat (first | apply Kd.S_alloc | apply Kd.S_drewN | apply Kd.S_drew)); exact Kd.S_mono HO_4.out (fun k_ hk => ⟨hk.1, fun e_ => hk.2 e_⟩))); (case aS => exact (below_size (by repeat (first | (with_reducible first | exact HB.out | apply below_alloc | apply pw_below_drewN | apply below_drew1) | exact HB.out)))); (case aL => have := LMc14.out; omega); intro v217 w23 ho hb hg hat; rw [← Ny216.out] at ho; have n0_ := Aside0.mk (Kd.V_afterv (ok := (fun k_ => (P0_ k_ ∨ w.heap.size ≤ k_) ∧ some k_ ≠ (.slice Ao24 y213.length co24 : Value).ownBlock)) (by (with_reducible repeat (first | apply Kd.V_alloc | apply Kd.V_drewN | apply Kd.V_drew)); exact Kd.V_mono HO_0.out (fun _ hk => ⟨⟨hk.1.1, hk.2⟩, hk.1.2⟩)) hg hat); have n1_ := Aside0.mk (Kd.V_afterv (ok := (fun k_ => (P0_ k_ ∨ w.heap.size ≤ k_) ∧ some k_ ≠ (.slice Ao24 y213.length co24 : Value).ownBlock)) (by (with_reducible repeat (first | apply Kd.V_alloc | apply Kd.V_drewN | apply Kd.V_drew)); exact Kd.V_mono HO212.out (fun _ hk => ⟨⟨hk.1.1, hk.2⟩, hk.1.2⟩)) hg hat); have n2_ := Aside0.mk (hb); have n3_ := Aside0.mk (ho); clear HO_0; clear HO212; clear HB; clear HO_4; clear HO215; have HO_0 := n0_; have HO212 := n1_; have HB := n2_; have HO218 := n3_; clear n0_ n1_ n2_ n3_; clear ho hb hg hat; have q25 : ((ji15) : Int) ≤ ((x0_1.length : Int) : Int) := of_decide_eq_true (by first | (with_reducible assumption) | assumption); obtain ⟨i025, hi025, _, hsz25, _⟩ := info_parts info5; have hroom25 : x0_1.length ≤ co18 := (Kd.V_reads' HO_0.out).2.1; have hC25 : Kd.F (Kd.int .u8) _ _ (some ad203) x0_1.length x0_1 := (Kd.V_at (base := w.heap.size) HO_0.out).2.2; have q025 : (0 : Int) ≤ ((ji15) : Int) := of_decide_eq_true (by first | (with_reducible assumption) | assumption); have hcut25 := cut_from (P := Try.prog) 23 5 .i64 Try.underlying23 hi025 1 hsz25 (some ad203) x0_1.length co18 (ji15) q025 q25; have hr25 := Kd.F_cut (m := ((ji15) : Int).toNat) (c := co18) hC25 (by omega) hroom25; obtain ⟨A25, hA25⟩ : ∃ A1, A1 = (if co18 = ((ji15) : Int).toNat then (some ad203) else ((some ad203) : Option Addr).map (·.add (((ji15) : Int).toNat * 1))) := ⟨_, rfl⟩; obtain ⟨c25, hc25⟩ : ∃ c1, c1 = co18 - ((ji15) : Int).toNat := ⟨_, rfl⟩; have hy25 : y219.length = x0_1.length - ((ji15) : Int).toNat := (by rw [Ny219.out, List.length_drop] <;> omega); rw [show (x0_1).drop ((ji15) : Int).toNat = y219 from Ny219.out.symm] at hr25; replace hr25 : Kd.F (Kd.int .u8) _ _ A25 y219.length y219 := (by rw [hA25]; exact hr25); rw [← hy25, ← hA25, ← hc25] at hcut25; have HO223 := Aside0.mk (show Kd.V (Kd.int .u8) 5 _ w.heap.size _ (.slice A25 y219.length c25) y219 from Kd.V_mk (by rw [hy25, hc25]; exact Nat.sub_le_sub_right hroom25 _) hr25); have HC223 := Aside0.mk (show y219.length ≤ c25 from by rw [hy25, hc25]; exact Nat.sub_le_sub_right hroom25 _); clear hr25 hC25 hroom25 hi025 hsz25 hc25; have KY25 := Aside0.mk hy25; have KA25 := Aside0.mk hA25; clear hy25 hA25; replace q25 := eq_true q25))
                            repeat (go_quiet (first | ((with_reducible refine gate_dst (N := 32) rfl ?_); (try (refine gate_guard (by rfl) ?_; dsimp only)); refine Kd.R_lit (Kd.int .u8) _ 5 ?hg (N := 32) ?hd (xs := ([] : List Int)) (inner := []) (ok := fun _ => True) (okp := fun _ => True) ?hr ?hp (fun _ hk => hk) trivial (Below.refl _ _) (Nat.le_refl _) (by simp) ?_; (case hd => rfl); (case hg => rfl); (case hr => first | (go_simp; done) | (go_simp; rfl)); (case hp => exact (Reps.none _ _)); intro v206 w19 ho20 hb hg_ hnew_; clear hg_ hnew_; (first | rw [← Ny205.out] at ho20 | (simp only [Int.reduceToNat] at ho20; rw [← Ny205.out] at ho20)); have n0_ := Aside0.mk (Kd.V_elder' (by (with_reducible repeat (first | apply Kd.V_alloc | apply Kd.V_drewN | apply Kd.V_drew)); exact HO_0.out) (Kd.R_base ho20) hb); have n1_ := Aside0.mk (Kd.S_elder' (by (with_reducible repeat (first | apply Kd.S_alloc | apply Kd.S_drewN | apply Kd.S_drew)); exact HO_4.out) (Kd.R_base ho20) hb); have n2_ := Aside0.mk (Kd.R_lower (Kd.R_newM (M := fun k_ => (w.heap.size ≤ k_)) ho20 (below_size (by repeat (first | (with_reducible first | exact HB.out | apply below_alloc | apply pw_below_drewN | apply below_drew1) | exact HB.out))) (fun k_ h_ => h_)) (below_size (by repeat (first | (with_reducible first | exact HB.out | apply below_alloc | apply pw_below_drewN | apply below_drew1) | exact HB.out)))); have n3_ := Aside0.mk (below_step (by repeat (first | (with_reducible first | exact HB.out | apply below_alloc | apply pw_below_drewN | apply below_drew1) | exact HB.out)) hb); clear HO_0; clear HO_4; clear HB; have HO_0 := n0_; have HO_4 := n1_; have HO207 := n2_; have HB := n3_; clear n0_ n1_ n2_ n3_; clear hb ho20; have q21 : ((ji15) : Int) ≤ ((x0_1.length : Int) : Int) := of_decide_eq_true (by first | (with_reducible assumption) | assumption); obtain ⟨i021, hi021, _, hsz21, _⟩ := info_parts info5; have hroom21 : x0_1.length ≤ co18 := (Kd.V_reads' HO_0.out).2.1; have hC21 : Kd.F (Kd.int .u8) _ _ (some ad203) x0_1.length x0_1 := (Kd.V_at (base := w.heap.size) HO_0.out).2.2; have ql21 : (2 : Int) ≤ ((ji15) : Int) := of_decide_eq_true (by first | (with_reducible assumption) | assumption); have hcut21 := cut_mid (P := Try.prog) 23 5 .i64 .i64 Try.underlying23 hi021 1 hsz21 (some ad203) x0_1.length co18 2 (ji15) (by omega) ql21 q21 hroom21; have hr21 := Kd.F_mid (lo := (2 : Int).toNat) (hi := ((ji15) : Int).toNat) (c := co18) hC21 (by omega) (by omega) hroom21; obtain ⟨A21, hA21⟩ : ∃ A1, A1 = (if co18 = (2 : Int).toNat then (some ad203) else ((some ad203) : Option Addr).map (·.add ((2 : Int).toNat * 1))) := ⟨_, rfl⟩; obtain ⟨c21, hc21⟩ : ∃ c1, c1 = co18 - (2 : Int).toNat := ⟨_, rfl⟩; have hy21 : y208.length = ((ji15) : Int).toNat - (2 : Int).toNat := (by rw [Ny208.out, List.length_drop, List.length_take] <;> omega); rw [show ((x0_1).take ((ji15) : Int).toNat).drop (2 : Int).toNat = y208 from Ny208.out.symm] at hr21; replace hr21 : Kd.F (Kd.int .u8) _ _ A21 y208.length y208 := (by rw [hA21]; exact hr21); rw [← hy21, ← hA21, ← hc21] at hcut21; have HO212 := Aside0.mk (show Kd.V (Kd.int .u8) 5 _ w.heap.size _ (.slice A21 y208.length c21) y208 from Kd.V_mk (by rw [hy21, hc21]; exact Nat.sub_le_sub_right (Nat.le_trans (by omega) hroom21) _) hr21); have HC212 := Aside0.mk (show y208.length ≤ c21 from by rw [hy21, hc21]; exact Nat.sub_le_sub_right (Nat.le_trans (by omega) hroom21) _); clear hr21 hC21 hroom21 hi021 hsz21 hc21; have KY21 := Aside0.mk hy21; have KA21 := Aside0.mk hA21; clear hy21 hA21; replace q21 := eq_true q21) | ((with_reducible refine gate_builtin (b := .append) (xs := #[.tmp 32, .tmp 36]) rfl ?_); (try (refine gate_guard (by rfl) ?_; dsimp only)); at_builtin; refine Kd.R_append_rows (Kd.int .u8) (w0 := w) w.heap.size rfl (.tmp 32) (.tmp 36) 23 5 (.int .u8 0) 1 rfl Try.underlying23 info5 rfl (by decide) (by omega) v206 y205 y208 _ _ _ (fun k_ => (w.heap.size ≤ k_)) (fun _ => False) rfl rfl ?aO ?aR (fun _ _ h => h) (fun _ h => h.elim) ?aF ?aB ?aS ?aL ?_; (case aR => repeat (first | exact (Kd.V_reads' HO212.out).2.2 | (with_reducible refine Kd.C_alloc ?_ _) | (with_reducible refine Kd.C_drewN ?_ _) | (with_reducible refine Kd.C_drew ?_))); (case aB => exact (by repeat (first | (with_reducible first | exact HB.out | apply below_alloc | apply pw_below_drewN | apply below_drew1) | exact HB.out))); (case aF => exact (fun k_ hk => (Nat.le_trans (below_size (by repeat (first | (with_reducible first | exact HB.out | apply below_alloc | apply pw_below_drewN | apply below_drew1) | exact HB.out))) hk))); (case aO => exact (by (with_reducible repeat (first | apply Kd.R_alloc | apply Kd.R_drewN | apply Kd.R_drew)); exact Kd.R_mono HO207.out (fun _ hk => hk.1))); (case aS => exact (below_size (by repeat (first | (with_reducible first | exact HB.out | apply below_alloc | apply pw_below_drewN | apply below_drew1) | exact HB.out)))); (case aL => have := LMc13.out; omega); intro v214 w22 ho hb hg hat; rw [← Ny213.out] at ho; have n0_ := Aside0.mk (Kd.V_afterv (ok := (fun k_ => (P0_ k_ ∨ w.heap.size ≤ k_) ∧ some k_ ≠ (u4 : Value).ownBlock)) (by (with_reducible repeat (first | apply Kd.V_alloc | apply Kd.V_drewN | apply Kd.V_drew)); exact HO_0.out) hg hat); have n1_ := Aside0.mk (Kd.S_after (ok := (fun k_ => (w.heap.size ≤ k_))) (by (with_reducible repeat (first | apply Kd.S_alloc | apply Kd.S_drewN | apply Kd.S_drew)); exact HO_4.out) hg hat); have n2_ := Aside0.mk (Kd.V_afterv (ok := (fun k_ => (P0_ k_ ∨ w.heap.size ≤ k_) ∧ some k_ ≠ (u4 : Value).ownBlock)) (by (with_reducible repeat (first | apply Kd.V_alloc | apply Kd.V_drewN | apply Kd.V_drew)); exact HO212.out) hg hat); have n3_ := Aside0.mk (hb); have n4_ := Aside0.mk (ho); clear HO_0; clear HO_4; clear HO212; clear HB; clear HO207; have HO_0 := n0_; have HO_4 := n1_; have HO212 := n2_; have HB := n3_; have HO215 := n4_; clear n0_ n1_ n2_ n3_ n4_; clear ho hb hg hat; obtain ⟨Ao24, co24, eo24⟩ := Kd.R_slice HO215.out; subst eo24) | ((with_reducible refine gate_builtin (b := .append) (xs := #[.tmp 31, .tmp 38]) rfl ?_); (try (refine gate_guard (by rfl) ?_; dsimp only)); at_builtin; refine Kd.S_append (Kd.slice 5 (Kd.int .u8)) (w0 := w) w.heap.size rfl (.tmp 31) (.tmp 38) 22 23 (.slice none 0 0) 24 rfl Try.underlying22 info23 rfl (by decide) (by omega) u4 x4_1 y213 [.slice Ao24 y213.length co24] (fun k_ => (w.heap.size ≤ k_)) (fun k_ => some k_ = (.slice Ao24 y213.length co24 : Value).ownBlock) rfl rfl ?aP (fun k_ hk_ => ((Kd.R_mono (ok' := fun k_ => ((fun k_ => (w.heap.size ≤ k_))) k_ ∧ some k_ ≠ (u4 : Value).ownBlock) (Kd.R_apart' (HO215.out) (Kd.S_typed HO_4.out) (by decide)) (fun k_ hk => ⟨hk.1, hk.2⟩))).1 k_ hk_.symm) ?aF ?aO ?aB ?aS ?aL ?_; (case aP => exact Kd.M_row (Kd.R_mono (Kd.R_tight rfl (Kd.R_mono (ok' := fun k_ => ((fun k_ => (w.heap.size ≤ k_))) k_ ∧ some k_ ≠ (u4 : Value).ownBlock) (Kd.R_apart' (HO215.out) (Kd.S_typed HO_4.out) (by decide)) (fun k_ hk => ⟨hk.1, hk.2⟩))) (fun _ h_ => h_))); (case aB => exact (by repeat (first | (with_reducible first | exact HB.out | apply below_alloc | apply pw_below_drewN | apply below_drew1) | exact HB.out))); (case aF => exact (fun k_ hk => (Nat.le_trans (below_size (by repeat (first | (with_reducible first | exact HB.out | apply below_alloc | apply pw_below_drewN | apply below_drew1) | exact HB.out))) hk))); (case aO => exact (by (with_reducible repeat (first | apply Kd.S_alloc | apply Kd.S_drewN | apply Kd.S_drew)); exact Kd.S_mono HO_4.out (fun k_ hk => ⟨hk.1, fun e_ => hk.2 e_⟩))); (case aS => exact (below_size (by repeat (first | (with_reducible first | exact HB.out | apply below_alloc | apply pw_below_drewN | apply below_drew1) | exact HB.out)))); (case aL => have := LMc14.out; omega); intro v217 w23 ho hb hg hat; rw [← Ny216.out] at ho; have n0_ := Aside0.mk (Kd.V_afterv (ok := (fun k_ => (P0_ k_ ∨ w.heap.size ≤ k_) ∧ some k_ ≠ (.slice Ao24 y213.length co24 : Value).ownBlock)) (by (with_reducible repeat (first | apply Kd.V_alloc | apply Kd.V_drewN | apply Kd.V_drew)); exact Kd.V_mono HO_0.out (fun _ hk => ⟨⟨hk.1.1, hk.2⟩, hk.1.2⟩)) hg hat); have n1_ := Aside0.mk (Kd.V_afterv (ok := (fun k_ => (P0_ k_ ∨ w.heap.size ≤ k_) ∧ some k_ ≠ (.slice Ao24 y213.length co24 : Value).ownBlock)) (by (with_reducible repeat (first | apply Kd.V_alloc | apply Kd.V_drewN | apply Kd.V_drew)); exact Kd.V_mono HO212.out (fun _ hk => ⟨⟨hk.1.1, hk.2⟩, hk.1.2⟩)) hg hat); have n2_ := Aside0.mk (hb); have n3_ := Aside0.mk (ho); clear HO_0; clear HO212; clear HB; clear HO_4; clear HO215; have HO_0 := n0_; have HO212 := n1_; have HB := n2_; have HO218 := n3_; clear n0_ n1_ n2_ n3_; clear ho hb hg hat; have q25 : ((ji15) : Int) ≤ ((x0_1.length : Int) : Int) := of_decide_eq_true (by first | (with_reducible assumption) | assumption); obtain ⟨i025, hi025, _, hsz25, _⟩ := info_parts info5; have hroom25 : x0_1.length ≤ co18 := (Kd.V_reads' HO_0.out).2.1; have hC25 : Kd.F (Kd.int .u8) _ _ (some ad203) x0_1.length x0_1 := (Kd.V_at (base := w.heap.size) HO_0.out).2.2; have q025 : (0 : Int) ≤ ((ji15) : Int) := of_decide_eq_true (by first | (with_reducible assumption) | assumption); have hcut25 := cut_from (P := Try.prog) 23 5 .i64 Try.underlying23 hi025 1 hsz25 (some ad203) x0_1.length co18 (ji15) q025 q25; have hr25 := Kd.F_cut (m := ((ji15) : Int).toNat) (c := co18) hC25 (by omega) hroom25; obtain ⟨A25, hA25⟩ : ∃ A1, A1 = (if co18 = ((ji15) : Int).toNat then (some ad203) else ((some ad203) : Option Addr).map (·.add (((ji15) : Int).toNat * 1))) := ⟨_, rfl⟩; obtain ⟨c25, hc25⟩ : ∃ c1, c1 = co18 - ((ji15) : Int).toNat := ⟨_, rfl⟩; have hy25 : y219.length = x0_1.length - ((ji15) : Int).toNat := (by rw [Ny219.out, List.length_drop] <;> omega); rw [show (x0_1).drop ((ji15) : Int).toNat = y219 from Ny219.out.symm] at hr25; replace hr25 : Kd.F (Kd.int .u8) _ _ A25 y219.length y219 := (by rw [hA25]; exact hr25); rw [← hy25, ← hA25, ← hc25] at hcut25; have HO223 := Aside0.mk (show Kd.V (Kd.int .u8) 5 _ w.heap.size _ (.slice A25 y219.length c25) y219 from Kd.V_mk (by rw [hy25, hc25]; exact Nat.sub_le_sub_right hroom25 _) hr25); have HC223 := Aside0.mk (show y219.length ≤ c25 from by rw [hy25, hc25]; exact Nat.sub_le_sub_right hroom25 _); clear hr25 hC25 hroom25 hi025 hsz25 hc25; have KY25 := Aside0.mk hy25; have KA25 := Aside0.mk hA25; clear hy25 hA25; replace q25 := eq_true q25)); try go_wp2_with (first | ((with_reducible refine gate_dst (N := 32) rfl ?_); (try (refine gate_guard (by rfl) ?_; dsimp only)); refine Kd.R_lit (Kd.int .u8) _ 5 ?hg (N := 32) ?hd (xs := ([] : List Int)) (inner := []) (ok := fun _ => True) (okp := fun _ => True) ?hr ?hp (fun _ hk => hk) trivial (Below.refl _ _) (Nat.le_refl _) (by simp) ?_; (case hd => rfl); (case hg => rfl); (case hr => first | (go_simp; done) | (go_simp; rfl)); (case hp => exact (Reps.none _ _)); intro v206 w19 ho20 hb hg_ hnew_; clear hg_ hnew_; (first | rw [← Ny205.out] at ho20 | (simp only [Int.reduceToNat] at ho20; rw [← Ny205.out] at ho20)); have n0_ := Aside0.mk (Kd.V_elder' (by (with_reducible repeat (first | apply Kd.V_alloc | apply Kd.V_drewN | apply Kd.V_drew)); exact HO_0.out) (Kd.R_base ho20) hb); have n1_ := Aside0.mk (Kd.S_elder' (by (with_reducible repeat (first | apply Kd.S_alloc | apply Kd.S_drewN | apply Kd.S_drew)); exact HO_4.out) (Kd.R_base ho20) hb); have n2_ := Aside0.mk (Kd.R_lower (Kd.R_newM (M := fun k_ => (w.heap.size ≤ k_)) ho20 (below_size (by repeat (first | (with_reducible first | exact HB.out | apply below_alloc | apply pw_below_drewN | apply below_drew1) | exact HB.out))) (fun k_ h_ => h_)) (below_size (by repeat (first | (with_reducible first | exact HB.out | apply below_alloc | apply pw_below_drewN | apply below_drew1) | exact HB.out)))); have n3_ := Aside0.mk (below_step (by repeat (first | (with_reducible first | exact HB.out | apply below_alloc | apply pw_below_drewN | apply below_drew1) | exact HB.out)) hb); clear HO_0; clear HO_4; clear HB; have HO_0 := n0_; have HO_4 := n1_; have HO207 := n2_; have HB := n3_; clear n0_ n1_ n2_ n3_; clear hb ho20; have q21 : ((ji15) : Int) ≤ ((x0_1.length : Int) : Int) := of_decide_eq_true (by first | (with_reducible assumption) | assumption); obtain ⟨i021, hi021, _, hsz21, _⟩ := info_parts info5; have hroom21 : x0_1.length ≤ co18 := (Kd.V_reads' HO_0.out).2.1; have hC21 : Kd.F (Kd.int .u8) _ _ (some ad203) x0_1.length x0_1 := (Kd.V_at (base := w.heap.size) HO_0.out).2.2; have ql21 : (2 : Int) ≤ ((ji15) : Int) := of_decide_eq_true (by first | (with_reducible assumption) | assumption); have hcut21 := cut_mid (P := Try.prog) 23 5 .i64 .i64 Try.underlying23 hi021 1 hsz21 (some ad203) x0_1.length co18 2 (ji15) (by omega) ql21 q21 hroom21; have hr21 := Kd.F_mid (lo := (2 : Int).toNat) (hi := ((ji15) : Int).toNat) (c := co18) hC21 (by omega) (by omega) hroom21; obtain ⟨A21, hA21⟩ : ∃ A1, A1 = (if co18 = (2 : Int).toNat then (some ad203) else ((some ad203) : Option Addr).map (·.add ((2 : Int).toNat * 1))) := ⟨_, rfl⟩; obtain ⟨c21, hc21⟩ : ∃ c1, c1 = co18 - (2 : Int).toNat := ⟨_, rfl⟩; have hy21 : y208.length = ((ji15) : Int).toNat - (2 : Int).toNat := (by rw [Ny208.out, List.length_drop, List.length_take] <;> omega); rw [show ((x0_1).take ((ji15) : Int).toNat).drop (2 : Int).toNat = y208 from Ny208.out.symm] at hr21; replace hr21 : Kd.F (Kd.int .u8) _ _ A21 y208.length y208 := (by rw [hA21]; exact hr21); rw [← hy21, ← hA21, ← hc21] at hcut21; have HO212 := Aside0.mk (show Kd.V (Kd.int .u8) 5 _ w.heap.size _ (.slice A21 y208.length c21) y208 from Kd.V_mk (by rw [hy21, hc21]; exact Nat.sub_le_sub_right (Nat.le_trans (by omega) hroom21) _) hr21); have HC212 := Aside0.mk (show y208.length ≤ c21 from by rw [hy21, hc21]; exact Nat.sub_le_sub_right (Nat.le_trans (by omega) hroom21) _); clear hr21 hC21 hroom21 hi021 hsz21 hc21; have KY21 := Aside0.mk hy21; have KA21 := Aside0.mk hA21; clear hy21 hA21; replace q21 := eq_true q21) | ((with_reducible refine gate_builtin (b := .append) (xs := #[.tmp 32, .tmp 36]) rfl ?_); (try (refine gate_guard (by rfl) ?_; dsimp only)); at_builtin; refine Kd.R_append_rows (Kd.int .u8) (w0 := w) w.heap.size rfl (.tmp 32) (.tmp 36) 23 5 (.int .u8 0) 1 rfl Try.underlying23 info5 rfl (by decide) (by omega) v206 y205 y208 _ _ _ (fun k_ => (w.heap.size ≤ k_)) (fun _ => False) rfl rfl ?aO ?aR (fun _ _ h => h) (fun _ h => h.elim) ?aF ?aB ?aS ?aL ?_; (case aR => repeat (first | exact (Kd.V_reads' HO212.out).2.2 | (with_reducible refine Kd.C_alloc ?_ _) | (with_reducible refine Kd.C_drewN ?_ _) | (with_reducible refine Kd.C_drew ?_))); (case aB => exact (by repeat (first | (with_reducible first | exact HB.out | apply below_alloc | apply pw_below_drewN | apply below_drew1) | exact HB.out))); (case aF => exact (fun k_ hk => (Nat.le_trans (below_size (by repeat (first | (with_reducible first | exact HB.out | apply below_alloc | apply pw_below_drewN | apply below_drew1) | exact HB.out))) hk))); (case aO => exact (by (with_reducible repeat (first | apply Kd.R_alloc | apply Kd.R_drewN | apply Kd.R_drew)); exact Kd.R_mono HO207.out (fun _ hk => hk.1))); (case aS => exact (below_size (by repeat (first | (with_reducible first | exact HB.out | apply below_alloc | apply pw_below_drewN | apply below_drew1) | exact HB.out)))); (case aL => have := LMc13.out; omega); intro v214 w22 ho hb hg hat; rw [← Ny213.out] at ho; have n0_ := Aside0.mk (Kd.V_afterv (ok := (fun k_ => (P0_ k_ ∨ w.heap.size ≤ k_) ∧ some k_ ≠ (u4 : Value).ownBlock)) (by (with_reducible repeat (first | apply Kd.V_alloc | apply Kd.V_drewN | apply Kd.V_drew)); exact HO_0.out) hg hat); have n1_ := Aside0.mk (Kd.S_after (ok := (fun k_ => (w.heap.size ≤ k_))) (by (with_reducible repeat (first | apply Kd.S_alloc | apply Kd.S_drewN | apply Kd.S_drew)); exact HO_4.out) hg hat); have n2_ := Aside0.mk (Kd.V_afterv (ok := (fun k_ => (P0_ k_ ∨ w.heap.size ≤ k_) ∧ some k_ ≠ (u4 : Value).ownBlock)) (by (with_reducible repeat (first | apply Kd.V_alloc | apply Kd.V_drewN | apply Kd.V_drew)); exact HO212.out) hg hat); have n3_ := Aside0.mk (hb); have n4_ := Aside0.mk (ho); clear HO_0; clear HO_4; clear HO212; clear HB; clear HO207; have HO_0 := n0_; have HO_4 := n1_; have HO212 := n2_; have HB := n3_; have HO215 := n4_; clear n0_ n1_ n2_ n3_ n4_; clear ho hb hg hat; obtain ⟨Ao24, co24, eo24⟩ := Kd.R_slice HO215.out; subst eo24) | ((with_reducible refine gate_builtin (b := .append) (xs := #[.tmp 31, .tmp 38]) rfl ?_); (try (refine gate_guard (by rfl) ?_; dsimp only)); at_builtin; refine Kd.S_append (Kd.slice 5 (Kd.int .u8)) (w0 := w) w.heap.size rfl (.tmp 31) (.tmp 38) 22 23 (.slice none 0 0) 24 rfl Try.underlying22 info23 rfl (by decide) (by omega) u4 x4_1 y213 [.slice Ao24 y213.length co24] (fun k_ => (w.heap.size ≤ k_)) (fun k_ => some k_ = (.slice Ao24 y213.length co24 : Value).ownBlock) rfl rfl ?aP (fun k_ hk_ => ((Kd.R_mono (ok' := fun k_ => ((fun k_ => (w.heap.size ≤ k_))) k_ ∧ some k_ ≠ (u4 : Value).ownBlock) (Kd.R_apart' (HO215.out) (Kd.S_typed HO_4.out) (by decide)) (fun k_ hk => ⟨hk.1, hk.2⟩))).1 k_ hk_.symm) ?aF ?aO ?aB ?aS ?aL ?_; (case aP => exact Kd.M_row (Kd.R_mono (Kd.R_tight rfl (Kd.R_mono (ok' := fun k_ => ((fun k_ => (w.heap.size ≤ k_))) k_ ∧ some k_ ≠ (u4 : Value).ownBlock) (Kd.R_apart' (HO215.out) (Kd.S_typed HO_4.out) (by decide)) (fun k_ hk => ⟨hk.1, hk.2⟩))) (fun _ h_ => h_))); (case aB => exact (by repeat (first | (with_reducible first | exact HB.out | apply below_alloc | apply pw_below_drewN | apply below_drew1) | exact HB.out))); (case aF => exact (fun k_ hk => (Nat.le_trans (below_size (by repeat (first | (with_reducible first | exact HB.out | apply below_alloc | apply pw_below_drewN | apply below_drew1) | exact HB.out))) hk))); (case aO => exact (by (with_reducible repeat (first | apply Kd.S_alloc | apply Kd.S_drewN | apply Kd.S_drew)); exact Kd.S_mono HO_4.out (fun k_ hk => ⟨hk.1, fun e_ => hk.2 e_⟩))); (case aS => exact (below_size (by repeat (first | (with_reducible first | exact HB.out | apply below_alloc | apply pw_below_drewN | apply below_drew1) | exact HB.out)))); (case aL => have := LMc14.out; omega); intro v217 w23 ho hb hg hat; rw [← Ny216.out] at ho; have n0_ := Aside0.mk (Kd.V_afterv (ok := (fun k_ => (P0_ k_ ∨ w.heap.size ≤ k_) ∧ some k_ ≠ (.slice Ao24 y213.length co24 : Value).ownBlock)) (by (with_reducible repeat (first | apply Kd.V_alloc | apply Kd.V_drewN | apply Kd.V_drew)); exact Kd.V_mono HO_0.out (fun _ hk => ⟨⟨hk.1.1, hk.2⟩, hk.1.2⟩)) hg hat); have n1_ := Aside0.mk (Kd.V_afterv (ok := (fun k_ => (P0_ k_ ∨ w.heap.size ≤ k_) ∧ some k_ ≠ (.slice Ao24 y213.length co24 : Value).ownBlock)) (by (with_reducible repeat (first | apply Kd.V_alloc | apply Kd.V_drewN | apply Kd.V_drew)); exact Kd.V_mono HO212.out (fun _ hk => ⟨⟨hk.1.1, hk.2⟩, hk.1.2⟩)) hg hat); have n2_ := Aside0.mk (hb); have n3_ := Aside0.mk (ho); clear HO_0; clear HO212; clear HB; clear HO_4; clear HO215; have HO_0 := n0_; have HO212 := n1_; have HB := n2_; have HO218 := n3_; clear n0_ n1_ n2_ n3_; clear ho hb hg hat; have q25 : ((ji15) : Int) ≤ ((x0_1.length : Int) : Int) := of_decide_eq_true (by first | (with_reducible assumption) | assumption); obtain ⟨i025, hi025, _, hsz25, _⟩ := info_parts info5; have hroom25 : x0_1.length ≤ co18 := (Kd.V_reads' HO_0.out).2.1; have hC25 : Kd.F (Kd.int .u8) _ _ (some ad203) x0_1.length x0_1 := (Kd.V_at (base := w.heap.size) HO_0.out).2.2; have q025 : (0 : Int) ≤ ((ji15) : Int) := of_decide_eq_true (by first | (with_reducible assumption) | assumption); have hcut25 := cut_from (P := Try.prog) 23 5 .i64 Try.underlying23 hi025 1 hsz25 (some ad203) x0_1.length co18 (ji15) q025 q25; have hr25 := Kd.F_cut (m := ((ji15) : Int).toNat) (c := co18) hC25 (by omega) hroom25; obtain ⟨A25, hA25⟩ : ∃ A1, A1 = (if co18 = ((ji15) : Int).toNat then (some ad203) else ((some ad203) : Option Addr).map (·.add (((ji15) : Int).toNat * 1))) := ⟨_, rfl⟩; obtain ⟨c25, hc25⟩ : ∃ c1, c1 = co18 - ((ji15) : Int).toNat := ⟨_, rfl⟩; have hy25 : y219.length = x0_1.length - ((ji15) : Int).toNat := (by rw [Ny219.out, List.length_drop] <;> omega); rw [show (x0_1).drop ((ji15) : Int).toNat = y219 from Ny219.out.symm] at hr25; replace hr25 : Kd.F (Kd.int .u8) _ _ A25 y219.length y219 := (by rw [hA25]; exact hr25); rw [← hy25, ← hA25, ← hc25] at hcut25; have HO223 := Aside0.mk (show Kd.V (Kd.int .u8) 5 _ w.heap.size _ (.slice A25 y219.length c25) y219 from Kd.V_mk (by rw [hy25, hc25]; exact Nat.sub_le_sub_right hroom25 _) hr25); have HC223 := Aside0.mk (show y219.length ≤ c25 from by rw [hy25, hc25]; exact Nat.sub_le_sub_right hroom25 _); clear hr25 hC25 hroom25 hi025 hsz25 hc25; have KY25 := Aside0.mk hy25; have KA25 := Aside0.mk hA25; clear hy25 hA25; replace q25 := eq_true q25)))
                            go_roundg k1
                            case measure => have := HK1.out; omega
                            case rel => exact ⟨(y219), (y216), H', ⟨by have := HK1.out; omega⟩, ⟨by (with_reducible repeat (first | apply Kd.V_alloc | apply Kd.V_drewN | apply Kd.V_drew)); exact Kd.V_mono HO223.out (fun _ hk => ⟨hk.1.1, hk.2⟩)⟩, ⟨by (with_reducible repeat (first | apply Kd.S_alloc | apply Kd.S_drewN | apply Kd.S_drew)); exact HO218.out⟩, ⟨by repeat (first | (with_reducible first | exact HB.out | apply below_alloc | apply pw_below_drewN | apply below_drew1) | exact HB.out)⟩⟩
                          · rw [if_neg c16] at H
                            exact absurd H (by simp)
                        · rw [if_neg c14] at H
                          exact absurd H (by simp)
                      · rw [if_neg c13] at H
                        exact absurd H (by simp)
                    · rw [if_neg c12] at H
                      exact absurd H (by simp)
                  · rw [if_neg c11] at H
                    exact absurd H (by simp)
            · rw [if_neg c6] at H
              exact absurd H (by simp)
          · rw [if_neg c5] at H
            exact absurd H (by simp)
      · rw [if_neg c2] at H
        have c2b0 : decide (0 < (x0_1.length : Int)) = false := decide_eq_false c2
        have c2b1 : decide (0 < x0_1.length) = false := decide_eq_false (by omega)
        clear c2
        simp only [Option.some.injEq, Prod.mk.injEq] at H
        obtain ⟨rfl, rfl⟩ := H
        obtain ⟨Ao26, co26, eo26⟩ := Kd.V_slice HO_0.out
        subst eo26
        go_wp2
        repeat (go_quiet (fail); try go_wp2)
        go_ret2
        exact ⟨_, by first | rfl | (simp [errW_none, errW_some] <;> rfl) | (simp [*, errW_none, errW_some] <;> rfl), by (with_reducible repeat (first | apply Kd.S_alloc | apply Kd.S_drewN | apply Kd.S_drew)); exact HO_4.out, by repeat (first | (with_reducible first | exact HB.out | apply below_alloc | apply pw_below_drewN | apply below_drew1) | exact HB.out)⟩

end Go.Proofs.Ytejbkjbldmaodaa.P
