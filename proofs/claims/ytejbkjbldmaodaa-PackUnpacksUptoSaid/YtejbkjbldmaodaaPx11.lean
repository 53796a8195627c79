/- Functions of the translated program as plain Lean functions, and proofs that their calls come to these. Written by a program of the session. No condition. -/
import Derived.Test.YtejbkjbldmaodaaPx0
import Derived.Test.YtejbkjbldmaodaaEa
namespace Go.Proofs.Ytejbkjbldmaodaa.P
open Go.RowKit Go.Proofs.YtejbkjbldmaodaaW.PrintWords Go.Proofs.YtejbkjbldmaodaaW.PrintLast Go.Proofs.YtejbkjbldmaodaaW.PrintMore
attribute [local go_sem] max2_int min2_int max_two min_two max_three min_three max_four min_four   -- for this text's walks alone
set_option linter.unusedVariables false
set_option linter.unusedSimpArgs false

/-! ### pack_Unpack: function 18 -/
def pack_Unpack.l0 : Nat → List Int → List (List Int) → Option ((List (List Int)) × Int)
  | 0, _, _ => none
  | k + 1, x0, x4 => if (x0.length : Int) ≥ 2 then (if 0 < (x0.length : Int) then (if 1 < (x0.length : Int) then (if 2 ≤ (x0.length : Int) then ((some (x0.drop 2 : List Int)).bind fun y182 => (if (Go.bits .or .i64 (wrap64 ((wrap64 (rd x0 0)) * 256)) (wrap64 (rd x0 1))) > 1024 then (some (([] : List (List Int)), 4)) else (if (Go.bits .or .i64 (wrap64 ((wrap64 (rd x0 0)) * 256)) (wrap64 (rd x0 1))) > (y182.length : Int) then (some (([] : List (List Int)), 4)) else (if 0 ≤ (Go.bits .or .i64 (wrap64 ((wrap64 (rd x0 0)) * 256)) (wrap64 (rd x0 1))) then (if (Go.bits .or .i64 (wrap64 ((wrap64 (rd x0 0)) * 256)) (wrap64 (rd x0 1))) ≤ (y182.length : Int) then ((slices_Clone_byte_byte.f (y182.take ((Go.bits .or .i64 (wrap64 ((wrap64 (rd x0 0)) * 256)) (wrap64 (rd x0 1))) : Int).toNat)).bind fun t192 => (if x4.length < 5864062014805 then (pack_Unpack.l0 k (y182.drop ((Go.bits .or .i64 (wrap64 ((wrap64 (rd x0 0)) * 256)) (wrap64 (rd x0 1))) : Int).toNat) (x4 ++ [t192])) else (none))) else (none)) else (none))))) else (none)) else (none)) else (none)) else (if (x0.length : Int) > 0 then (some (([] : List (List Int)), 4)) else (some (x4, 0)))
def pack_Unpack.f (k : Nat) (l0 : List Int) : Option ((List (List Int)) × Int) := pack_Unpack.l0 k l0 ([] : List (List Int))
theorem pack_Unpack.mono_l : ∀ k, (∀ y0 y1, LeO (pack_Unpack.l0 k y0 y1) (pack_Unpack.l0 (k + 1) y0 y1))
  | 0 => fun _ _ r h => by simp [pack_Unpack.l0] at h
  | k + 1 => by
    have ih0 := pack_Unpack.mono_l k
    · intro y0 y1
      unfold pack_Unpack.l0
      repeat' first
      | (with_reducible exact ih0 _ _)
      | (with_reducible exact LeO.refl _)
      | (with_reducible exact LeO.none _)
      | (with_reducible refine LeO.ite ?_ ?_)
      | (with_reducible refine LeO.bind ?_ (fun _ => ?_))
      | exact ih0 _ _
      | exact LeO.none _
      | refine LeO.ite ?_ ?_
      | refine LeO.bind ?_ (fun _ => ?_)
theorem pack_Unpack.mono : ∀ a0 k, LeO (pack_Unpack.f k a0) (pack_Unpack.f (k + 1) a0) := by
  intro a0 k
  have ih0 := pack_Unpack.mono_l k
  unfold pack_Unpack.f
  repeat' first
      | (with_reducible exact ih0 _ _)
      | (with_reducible exact LeO.refl _)
      | (with_reducible exact LeO.none _)
      | (with_reducible refine LeO.ite ?_ ?_)
      | (with_reducible refine LeO.bind ?_ (fun _ => ?_))
      | exact ih0 _ _
      | exact LeO.none _
      | refine LeO.ite ?_ ?_
      | refine LeO.bind ?_ (fun _ => ?_)
set_option maxHeartbeats 8000000 in
set_option maxRecDepth 100000 in
theorem pack_Unpack.calls (k : Nat) (P0_ : Nat → Prop) (A0 : Option Addr) (c0 : Nat) (l0 : List Int) (r1 : List (List Int)) (r2 : Int) (w : World) (hs0 : Kd.V (Kd.int .u8) 5 w w.heap.size (fun k_ => P0_ k_) (.slice A0 l0.length c0) l0) (h : pack_Unpack.f k l0 = some (r1, r2)) :
    Calls Try.prog 18 #[.slice A0 l0.length c0] w fun e w' => ∃ v0_ : Value, e = .returned (.tuple #[v0_, .int .i64 r2]) ∧ Kd.S (Kd.slice 5 (Kd.int .u8)) 23 w' w.heap.size (fun k_ => (w.heap.size ≤ k_)) v0_ r1 ∧ Below w.heap.size w w' := by
  have HO0 := Aside0.mk (show Kd.V (Kd.int .u8) 5 w w.heap.size (fun k_ => (P0_ k_ ∨ w.heap.size ≤ k_)) (.slice A0 l0.length c0) l0 from Kd.V_mono hs0 (fun k_ hk => .inl hk))
  have HB := Aside0.mk (Below.refl w.heap.size w)
  have H : (pack_Unpack.l0 k l0 ([] : List (List Int))) = some (r1, r2) := h
  clear h
  have H' := Aside0.mk H
  clear H
  go_enter Try.func18, Try.ntmps18
  go_wp2
  repeat (go_quiet (fail); try go_wp2)
  go_loopg [0, 4] k (fun kq v0 v4 w' => ∃ (x0_1 : List Int) (x4_1 : List (List Int)), Aside0 (pack_Unpack.l0 kq x0_1 x4_1 = some (r1, r2)) ∧ Aside0 (kq ≤ k) ∧ Aside0 (Kd.V (Kd.int .u8) 5 w' w.heap.size (fun k_ => (P0_ k_ ∨ w.heap.size ≤ k_) ∧ some k_ ≠ (v4 : Value).ownBlock) v0 x0_1) ∧ Aside0 (Kd.S (Kd.slice 5 (Kd.int .u8)) 23 w' w.heap.size (fun k_ => (w.heap.size ≤ k_)) v4 x4_1) ∧ Aside0 (Below w.heap.size w w'))
  case atStart => exact ⟨(l0), (([] : List (List Int))), H', ⟨Nat.le_refl _⟩, ⟨by (with_reducible repeat (first | apply Kd.V_alloc | apply Kd.V_drewN | apply Kd.V_drew)); exact Kd.V_mono HO0.out (fun _ hk => ⟨hk, (by simp [Value.ownBlock])⟩)⟩, ⟨by first | exact Kd.S_nil _ _ _ _ _ | exact Kd.N_nil _ _ _ _ _ | exact Kd.V_nil _ _ _ _ _ | exact Kd.Q_nil _ _ _ _ _ | exact Kd.R_nil _ _ _ _ _⟩, ⟨by repeat (first | (with_reducible first | exact HB.out | apply below_alloc | apply pw_below_drewN | apply below_drew1) | exact HB.out)⟩⟩
  case round =>
    clear H'
    try clear c1
    obtain ⟨x0_1, x4_1, HA, HK1, HO_0, HO_4, HB⟩ := hrel
    cases gk with
    | zero => exact absurd HA.out (by simp [pack_Unpack.l0])
    | succ k1 =>
      have H := HA.out
      clear HA
      simp only [pack_Unpack.l0] at H
      by_cases c2 : (x0_1.length : Int) ≥ 2
      · rw [if_pos c2] at H
        have c2b0 : decide (2 ≤ (x0_1.length : Int)) = true := decide_eq_true c2
        have c2b1 : decide (2 ≤ x0_1.length) = true := decide_eq_true (by omega)
        clear c2
        by_cases c3 : 0 < (x0_1.length : Int)
        · rw [if_pos c3] at H
          have c3b0 : decide (0 < (x0_1.length : Int)) = true := decide_eq_true c3
          have c3b1 : decide (0 < x0_1.length) = true := decide_eq_true (by omega)
          clear c3
          by_cases c4 : 1 < (x0_1.length : Int)
          · rw [if_pos c4] at H
            have c4b0 : decide (1 < (x0_1.length : Int)) = true := decide_eq_true c4
            have c4b1 : decide (1 < x0_1.length) = true := decide_eq_true (by omega)
            clear c4
            by_cases c5 : 2 ≤ (x0_1.length : Int)
            · rw [if_pos c5] at H
              have c5b0 := eq_true c5
              have c5b1 : decide (2 ≤ (x0_1.length : Int)) = true := decide_eq_true c5
              clear c5
              obtain ⟨y182, hy182⟩ : ∃ y_ : List Int, y_ = (x0_1.drop 2) := ⟨_, rfl⟩
              replace H : (if (Go.bits .or .i64 (wrap64 ((wrap64 (rd x0_1 0)) * 256)) (wrap64 (rd x0_1 1))) > 1024 then (some (([] : List (List Int)), 4)) else (if (Go.bits .or .i64 (wrap64 ((wrap64 (rd x0_1 0)) * 256)) (wrap64 (rd x0_1 1))) > (y182.length : Int) then (some (([] : List (List Int)), 4)) else (if 0 ≤ (Go.bits .or .i64 (wrap64 ((wrap64 (rd x0_1 0)) * 256)) (wrap64 (rd x0_1 1))) then (if (Go.bits .or .i64 (wrap64 ((wrap64 (rd x0_1 0)) * 256)) (wrap64 (rd x0_1 1))) ≤ (y182.length : Int) then ((slices_Clone_byte_byte.f (y182.take ((Go.bits .or .i64 (wrap64 ((wrap64 (rd x0_1 0)) * 256)) (wrap64 (rd x0_1 1))) : Int).toNat)).bind fun t192 => (if x4_1.length < 5864062014805 then (pack_Unpack.l0 k1 (y182.drop ((Go.bits .or .i64 (wrap64 ((wrap64 (rd x0_1 0)) * 256)) (wrap64 (rd x0_1 1))) : Int).toNat) (x4_1 ++ [t192])) else (none))) else (none)) else (none)))) = some (r1, r2) := by first | (rw [hy182]; with_reducible exact H) | (have H2_ := (Option.bind_some _ _).symm.trans H; rw [hy182]; with_reducible exact H2_) | (have H2_ := (Option.bind_some _ _).symm.trans H; with_reducible exact H2_) | with_reducible exact H | (rw [hy182]; exact H) | exact H
              have Ny182 := Aside0.mk hy182
              clear hy182
              by_cases c6 : (Go.bits .or .i64 (wrap64 ((wrap64 (rd x0_1 0)) * 256)) (wrap64 (rd x0_1 1))) > 1024
              · rw [if_pos c6] at H
                have c6b0 : decide (1024 < (Go.bits .or .i64 (wrap64 ((wrap64 (rd x0_1 0)) * 256)) (wrap64 (rd x0_1 1)))) = true := decide_eq_true c6
                clear c6
                simp only [Option.some.injEq, Prod.mk.injEq] at H
                obtain ⟨rfl, rfl⟩ := H
                obtain ⟨Ao7, co7, eo7⟩ := Kd.V_slice HO_0.out
                subst eo7
                have p180 : 0 ≤ (0 : Int) := (by omega)
                have q180 : 0 < (x0_1.length : Int) := of_decide_eq_true (by first | (with_reducible assumption) | assumption)
                obtain ⟨ad180, e180, hx180_0⟩ := Kd.at_int (Kd.V_reads' HO_0.out).2.2 0 p180 q180
                cases e180
                have qi180 : (0 < x0_1.length) = True := eq_true (by omega)
                (try rw [show ((0 : Int)).toNat = 0 from rfl] at hx180_0)
                (try rw [Addr.add_zero'] at hx180_0)
                replace p180 := eq_true p180
                replace q180 := eq_true q180
                have p181 : 0 ≤ (1 : Int) := (by omega)
                have q181 : 1 < (x0_1.length : Int) := of_decide_eq_true (by first | (with_reducible assumption) | assumption)
                obtain ⟨ad181, e181, hx181_0⟩ := Kd.at_int (Kd.V_reads' HO_0.out).2.2 1 p181 q181
                obtain rfl : ad180 = ad181 := (by injection e181)
                (try simp only [show (1 : Int).toNat = 1 from rfl, Nat.reduceMul, Nat.reduceEqDiff, Go.Addr.add, ↓reduceIte] at hx181_0)
                have qi181 : (1 < x0_1.length) = True := eq_true (by omega)
                (try rw [show ((1 : Int)).toNat = 1 from rfl] at hx181_0)
                replace p181 := eq_true p181
                replace q181 := eq_true q181
                have q8 : (2 : Int) ≤ ((x0_1.length : Int) : Int) := of_decide_eq_true (by first | (with_reducible assumption) | assumption)
                obtain ⟨i08, hi08, _, hsz8, _⟩ := info_parts info5
                have hroom8 : x0_1.length ≤ co7 := (Kd.V_reads' HO_0.out).2.1
                have hC8 : Kd.F (Kd.int .u8) _ _ (some ad180) x0_1.length x0_1 := (Kd.V_at (base := w.heap.size) HO_0.out).2.2
                have hcut8 := cut_from (P := Try.prog) 23 5 .i64 Try.underlying23 hi08 1 hsz8 (some ad180) x0_1.length co7 2 (by omega) q8
                have hr8 := Kd.F_cut (m := (2 : Int).toNat) (c := co7) hC8 (by omega) hroom8
                obtain ⟨A8, hA8⟩ : ∃ A1, A1 = (if co7 = (2 : Int).toNat then (some ad180) else ((some ad180) : Option Addr).map (·.add ((2 : Int).toNat * 1))) := ⟨_, rfl⟩
                obtain ⟨c8, hc8⟩ : ∃ c1, c1 = co7 - (2 : Int).toNat := ⟨_, rfl⟩
                have hy8 : y182.length = x0_1.length - (2 : Int).toNat := (by rw [Ny182.out, List.length_drop] <;> omega)
                rw [show (x0_1).drop (2 : Int).toNat = y182 from Ny182.out.symm] at hr8
                replace hr8 : Kd.F (Kd.int .u8) _ _ A8 y182.length y182 := (by rw [hA8]; exact hr8)
                rw [← hy8, ← hA8, ← hc8] at hcut8
                have HO186 := Aside0.mk (show Kd.V (Kd.int .u8) 5 _ w.heap.size _ (.slice A8 y182.length c8) y182 from Kd.V_mk (by rw [hy8, hc8]; exact Nat.sub_le_sub_right hroom8 _) hr8)
                have HC186 := Aside0.mk (show y182.length ≤ c8 from by rw [hy8, hc8]; exact Nat.sub_le_sub_right hroom8 _)
                clear hr8 hC8 hroom8 hi08 hsz8 hc8
                have KY8 := Aside0.mk hy8
                have KA8 := Aside0.mk hA8
                clear hy8 hA8
                replace q8 := eq_true q8
                go_wp2
                repeat (go_quiet (fail); try go_wp2)
                go_ret2
                exact ⟨_, by first | rfl | (simp [errW_none, errW_some] <;> rfl) | (simp [*, errW_none, errW_some] <;> rfl), by first | exact Kd.S_nil _ _ _ _ _ | exact Kd.N_nil _ _ _ _ _ | exact Kd.V_nil _ _ _ _ _ | exact Kd.Q_nil _ _ _ _ _ | exact Kd.R_nil _ _ _ _ _, by repeat (first | (with_reducible first | exact HB.out | apply below_alloc | apply pw_below_drewN | apply below_drew1) | exact HB.out)⟩
              · rw [if_neg c6] at H
                have c6b0 : decide (1024 < (Go.bits .or .i64 (wrap64 ((wrap64 (rd x0_1 0)) * 256)) (wrap64 (rd x0_1 1)))) = false := decide_eq_false c6
                clear c6
                by_cases c9 : (Go.bits .or .i64 (wrap64 ((wrap64 (rd x0_1 0)) * 256)) (wrap64 (rd x0_1 1))) > (y182.length : Int)
                · rw [if_pos c9] at H
                  have c9b0 : decide ((y182.length : Int) < (Go.bits .or .i64 (wrap64 ((wrap64 (rd x0_1 0)) * 256)) (wrap64 (rd x0_1 1)))) = true := decide_eq_true c9
                  clear c9
                  simp only [Option.some.injEq, Prod.mk.injEq] at H
                  obtain ⟨rfl, rfl⟩ := H
                  obtain ⟨Ao10, co10, eo10⟩ := Kd.V_slice HO_0.out
                  subst eo10
                  have p180 : 0 ≤ (0 : Int) := (by omega)
                  have q180 : 0 < (x0_1.length : Int) := of_decide_eq_true (by first | (with_reducible assumption) | assumption)
                  obtain ⟨ad180, e180, hx180_0⟩ := Kd.at_int (Kd.V_reads' HO_0.out).2.2 0 p180 q180
                  cases e180
                  have qi180 : (0 < x0_1.length) = True := eq_true (by omega)
                  (try rw [show ((0 : Int)).toNat = 0 from rfl] at hx180_0)
                  (try rw [Addr.add_zero'] at hx180_0)
                  replace p180 := eq_true p180
                  replace q180 := eq_true q180
                  have p181 : 0 ≤ (1 : Int) := (by omega)
                  have q181 : 1 < (x0_1.length : Int) := of_decide_eq_true (by first | (with_reducible assumption) | assumption)
                  obtain ⟨ad181, e181, hx181_0⟩ := Kd.at_int (Kd.V_reads' HO_0.out).2.2 1 p181 q181
                  obtain rfl : ad180 = ad181 := (by injection e181)
                  (try simp only [show (1 : Int).toNat = 1 from rfl, Nat.reduceMul, Nat.reduceEqDiff, Go.Addr.add, ↓reduceIte] at hx181_0)
                  have qi181 : (1 < x0_1.length) = True := eq_true (by omega)
                  (try rw [show ((1 : Int)).toNat = 1 from rfl] at hx181_0)
                  replace p181 := eq_true p181
                  replace q181 := eq_true q181
                  have q11 : (2 : Int) ≤ ((x0_1.length : Int) : Int) := of_decide_eq_true (by first | (with_reducible assumption) | assumption)
                  obtain ⟨i011, hi011, _, hsz11, _⟩ := info_parts info5
                  have hroom11 : x0_1.length ≤ co10 := (Kd.V_reads' HO_0.out).2.1
                  have hC11 : Kd.F (Kd.int .u8) _ _ (some ad180) x0_1.length x0_1 := (Kd.V_at (base := w.heap.size) HO_0.out).2.2
                  have hcut11 := cut_from (P := Try.prog) 23 5 .i64 Try.underlying23 hi011 1 hsz11 (some ad180) x0_1.length co10 2 (by omega) q11
                  have hr11 := Kd.F_cut (m := (2 : Int).toNat) (c := co10) hC11 (by omega) hroom11
                  obtain ⟨A11, hA11⟩ : ∃ A1, A1 = (if co10 = (2 : Int).toNat then (some ad180) else ((some ad180) : Option Addr).map (·.add ((2 : Int).toNat * 1))) := ⟨_, rfl⟩
                  obtain ⟨c11, hc11⟩ : ∃ c1, c1 = co10 - (2 : Int).toNat := ⟨_, rfl⟩
                  have hy11 : y182.length = x0_1.length - (2 : Int).toNat := (by rw [Ny182.out, List.length_drop] <;> omega)
                  rw [show (x0_1).drop (2 : Int).toNat = y182 from Ny182.out.symm] at hr11
                  replace hr11 : Kd.F (Kd.int .u8) _ _ A11 y182.length y182 := (by rw [hA11]; exact hr11)
                  rw [← hy11, ← hA11, ← hc11] at hcut11
                  have HO186 := Aside0.mk (show Kd.V (Kd.int .u8) 5 _ w.heap.size _ (.slice A11 y182.length c11) y182 from Kd.V_mk (by rw [hy11, hc11]; exact Nat.sub_le_sub_right hroom11 _) hr11)
                  have HC186 := Aside0.mk (show y182.length ≤ c11 from by rw [hy11, hc11]; exact Nat.sub_le_sub_right hroom11 _)
                  clear hr11 hC11 hroom11 hi011 hsz11 hc11
                  have KY11 := Aside0.mk hy11
                  have KA11 := Aside0.mk hA11
                  clear hy11 hA11
                  replace q11 := eq_true q11
                  go_wp2
                  repeat (go_quiet (fail); try go_wp2)
                  go_ret2
                  exact ⟨_, by first | rfl | (simp [errW_none, errW_some] <;> rfl) | (simp [*, errW_none, errW_some] <;> rfl), by first | exact Kd.S_nil _ _ _ _ _ | exact Kd.N_nil _ _ _ _ _ | exact Kd.V_nil _ _ _ _ _ | exact Kd.Q_nil _ _ _ _ _ | exact Kd.R_nil _ _ _ _ _, by repeat (first | (with_reducible first | exact HB.out | apply below_alloc | apply pw_below_drewN | apply below_drew1) | exact HB.out)⟩
                · rw [if_neg c9] at H
                  have c9b0 : decide ((y182.length : Int) < (Go.bits .or .i64 (wrap64 ((wrap64 (rd x0_1 0)) * 256)) (wrap64 (rd x0_1 1)))) = false := decide_eq_false c9
                  clear c9
                  obtain ⟨ji12, hji12⟩ : ∃ j_ : Int, (Go.bits .or .i64 (wrap64 ((wrap64 (rd x0_1 0)) * 256)) (wrap64 (rd x0_1 1))) = j_ := ⟨_, rfl⟩
                  replace H : (if 0 ≤ (ji12) then (if (ji12) ≤ (y182.length : Int) then ((slices_Clone_byte_byte.f (y182.take ((ji12) : Int).toNat)).bind fun t192 => (if x4_1.length < 5864062014805 then (pack_Unpack.l0 k1 (y182.drop ((ji12) : Int).toNat) (x4_1 ++ [t192])) else (none))) else (none)) else (none)) = some (r1, r2) := by first | (rw [hji12] at H; exact H) | (simp only [hji12] at H ⊢; exact H)
                  (try rw [hji12] at c6b0)
                  (try rw [hji12] at c9b0)
                  by_cases c13 : 0 ≤ (ji12)
                  · rw [if_pos c13] at H
                    have c13b0 := eq_true c13
                    have c13b1 : decide (0 ≤ (ji12)) = true := decide_eq_true c13
                    clear c13
                    by_cases c14 : (ji12) ≤ (y182.length : Int)
                    · rw [if_pos c14] at H
                      have c14b0 := eq_true c14
                      have c14b1 : decide ((ji12) ≤ (y182.length : Int)) = true := decide_eq_true c14
                      clear c14
                      obtain ⟨y187, hy187⟩ : ∃ y_ : List Int, y_ = (y182.take ((ji12) : Int).toNat) := ⟨_, rfl⟩
                      replace H : ((slices_Clone_byte_byte.f y187).bind fun t192 => (if x4_1.length < 5864062014805 then (pack_Unpack.l0 k1 (y182.drop ((ji12) : Int).toNat) (x4_1 ++ [t192])) else (none))) = some (r1, r2) := by first | (rw [hy187]; with_reducible exact H) | (have H2_ := (Option.bind_some _ _).symm.trans H; rw [hy187]; with_reducible exact H2_) | (have H2_ := (Option.bind_some _ _).symm.trans H; with_reducible exact H2_) | with_reducible exact H | (rw [hy187]; exact H) | exact H
                      have Ny187 := Aside0.mk hy187
                      clear hy187
                      replace H := Option.bind_eq_some_iff.mp H
                      obtain ⟨t192, A150, H⟩ := H
                      replace H : (if x4_1.length < 5864062014805 then (pack_Unpack.l0 k1 (y182.drop ((ji12) : Int).toNat) (x4_1 ++ [t192])) else (none)) = some (r1, r2) := H
                      have A15 := Aside0.mk A150
                      clear A150
                      by_cases c16 : x4_1.length < 5864062014805
                      · rw [if_pos c16] at H
                        have LMc16 := Aside0.mk c16
                        clear c16
                        obtain ⟨y195, hy195⟩ : ∃ y_ : List (List Int), y_ = (x4_1 ++ [t192]) := ⟨_, rfl⟩
                        replace H : (pack_Unpack.l0 k1 (y182.drop ((ji12) : Int).toNat) y195) = some (r1, r2) := by first | (rw [hy195]; with_reducible exact H) | (have H2_ := (Option.bind_some _ _).symm.trans H; rw [hy195]; with_reducible exact H2_) | (have H2_ := (Option.bind_some _ _).symm.trans H; with_reducible exact H2_) | with_reducible exact H | (rw [hy195]; exact H) | exact H
                        have Ny195 := Aside0.mk hy195
                        clear hy195
                        have c17b0 := eq_true (of_decide_eq_true (by first | (with_reducible assumption) | assumption) : 0 ≤ (ji12))
                        have c18b0 := eq_true (of_decide_eq_true (by first | (with_reducible assumption) | assumption) : (ji12) ≤ (y182.length : Int))
                        obtain ⟨y198, hy198⟩ : ∃ y_ : List Int, y_ = (y182.drop ((ji12) : Int).toNat) := ⟨_, rfl⟩
                        replace H : (pack_Unpack.l0 k1 y198 y195) = some (r1, r2) := by first | (rw [hy198]; with_reducible exact H) | (have H2_ := (Option.bind_some _ _).symm.trans H; rw [hy198]; with_reducible exact H2_) | (have H2_ := (Option.bind_some _ _).symm.trans H; with_reducible exact H2_) | with_reducible exact H | (rw [hy198]; exact H) | exact H
                        have Ny198 := Aside0.mk hy198
                        clear hy198
                        have H' := Aside0.mk H
                        clear H
                        obtain ⟨Ao19, co19, eo19⟩ := Kd.V_slice HO_0.out
                        subst eo19
                        have p180 : 0 ≤ (0 : Int) := (by omega)
                        have q180 : 0 < (x0_1.length : Int) := of_decide_eq_true (by first | (with_reducible assumption) | assumption)
                        obtain ⟨ad180, e180, hx180_0⟩ := Kd.at_int (Kd.V_reads' HO_0.out).2.2 0 p180 q180
                        cases e180
                        have qi180 : (0 < x0_1.length) = True := eq_true (by omega)
                        (try rw [show ((0 : Int)).toNat = 0 from rfl] at hx180_0)
                        (try rw [Addr.add_zero'] at hx180_0)
                        replace p180 := eq_true p180
                        replace q180 := eq_true q180
                        have p181 : 0 ≤ (1 : Int) := (by omega)
                        have q181 : 1 < (x0_1.length : Int) := of_decide_eq_true (by first | (with_reducible assumption) | assumption)
                        obtain ⟨ad181, e181, hx181_0⟩ := Kd.at_int (Kd.V_reads' HO_0.out).2.2 1 p181 q181
                        obtain rfl : ad180 = ad181 := (by injection e181)
                        (try simp only [show (1 : Int).toNat = 1 from rfl, Nat.reduceMul, Nat.reduceEqDiff, Go.Addr.add, ↓reduceIte] at hx181_0)
                        have qi181 : (1 < x0_1.length) = True := eq_true (by omega)
                        (try rw [show ((1 : Int)).toNat = 1 from rfl] at hx181_0)
                        replace p181 := eq_true p181
                        replace q181 := eq_true q181
                        have q20 : (2 : Int) ≤ ((x0_1.length : Int) : Int) := of_decide_eq_true (by first | (with_reducible assumption) | assumption)
                        obtain ⟨i020, hi020, _, hsz20, _⟩ := info_parts info5
                        have hroom20 : x0_1.length ≤ co19 := (Kd.V_reads' HO_0.out).2.1
                        have hC20 : Kd.F (Kd.int .u8) _ _ (some ad180) x0_1.length x0_1 := (Kd.V_at (base := w.heap.size) HO_0.out).2.2
                        have hcut20 := cut_from (P := Try.prog) 23 5 .i64 Try.underlying23 hi020 1 hsz20 (some ad180) x0_1.length co19 2 (by omega) q20
                        have hr20 := Kd.F_cut (m := (2 : Int).toNat) (c := co19) hC20 (by omega) hroom20
                        obtain ⟨A20, hA20⟩ : ∃ A1, A1 = (if co19 = (2 : Int).toNat then (some ad180) else ((some ad180) : Option Addr).map (·.add ((2 : Int).toNat * 1))) := ⟨_, rfl⟩
                        obtain ⟨c20, hc20⟩ : ∃ c1, c1 = co19 - (2 : Int).toNat := ⟨_, rfl⟩
                        have hy20 : y182.length = x0_1.length - (2 : Int).toNat := (by rw [Ny182.out, List.length_drop] <;> omega)
                        rw [show (x0_1).drop (2 : Int).toNat = y182 from Ny182.out.symm] at hr20
                        replace hr20 : Kd.F (Kd.int .u8) _ _ A20 y182.length y182 := (by rw [hA20]; exact hr20)
                        rw [← hy20, ← hA20, ← hc20] at hcut20
                        have HO186 := Aside0.mk (show Kd.V (Kd.int .u8) 5 _ w.heap.size _ (.slice A20 y182.length c20) y182 from Kd.V_mk (by rw [hy20, hc20]; exact Nat.sub_le_sub_right hroom20 _) hr20)
                        have HC186 := Aside0.mk (show y182.length ≤ c20 from by rw [hy20, hc20]; exact Nat.sub_le_sub_right hroom20 _)
                        clear hr20 hC20 hroom20 hi020 hsz20 hc20
                        have KY20 := Aside0.mk hy20
                        have KA20 := Aside0.mk hA20
                        clear hy20 hA20
                        replace q20 := eq_true q20
                        have q21 : ((ji12) : Int) ≤ ((y182.length : Int) : Int) := of_decide_eq_true (by first | (with_reducible assumption) | assumption)
                        obtain ⟨i021, hi021, _, hsz21, _⟩ := info_parts info5
                        have hroom21 : y182.length ≤ c20 := (Kd.V_reads' HO186.out).2.1
                        have hC21 : Kd.F (Kd.int .u8) _ _ A20 y182.length y182 := (Kd.V_at (base := w.heap.size) HO186.out).2.2
                        have hcut21 := cut_to (P := Try.prog) 23 5 .i64 Try.underlying23 hi021 A20 y182.length c20 (ji12) (of_decide_eq_true (by first | (with_reducible assumption) | assumption)) q21 hroom21
                        have hr21 := Kd.F_take (m := ((ji12) : Int).toNat) hC21 (by omega)
                        have hy21 : y187.length = ((ji12) : Int).toNat := (by rw [Ny187.out, List.length_take]; omega)
                        rw [← Ny187.out] at hr21
                        rw [← hy21] at hcut21
                        have HO191 := Aside0.mk (show Kd.V (Kd.int .u8) 5 _ w.heap.size _ (.slice A20 y187.length c20) y187 from Kd.V_mk (by omega) hr21)
                        have HC191 := Aside0.mk (show y187.length ≤ c20 from by omega)
                        clear hr21 hC21 hroom21 hi021 hsz21
                        have KY21 := Aside0.mk hy21
                        clear hy21
                        replace q21 := eq_true q21
                        go_wp2_with (first | (go_at_call 28; (with_reducible refine (slices_Clone_byte_byte.calls _ _ y187 t192 _ ?side1 ?side2 A15.out).mono ?_); (case side1 => repeat (first | exact (Kd.V_reads' HO191.out).2.2 | (with_reducible refine Kd.C_alloc ?_ _) | (with_reducible refine Kd.C_drewN ?_ _) | (with_reducible refine Kd.C_drew ?_))); (case side2 => exact (Kd.V_reads' HO191.out).2.1); rintro e w22 ⟨v193, rfl, ho0, hb⟩; have n0_ := Aside0.mk (Kd.V_elder' (by (with_reducible repeat (first | apply Kd.V_alloc | apply Kd.V_drewN | apply Kd.V_drew)); exact HO_0.out) (Kd.R_base ho0) hb); have n1_ := Aside0.mk (Kd.S_elder' (by (with_reducible repeat (first | apply Kd.S_alloc | apply Kd.S_drewN | apply Kd.S_drew)); exact HO_4.out) (Kd.R_base ho0) hb); have n2_ := Aside0.mk (Kd.V_elder' (by (with_reducible repeat (first | apply Kd.V_alloc | apply Kd.V_drewN | apply Kd.V_drew)); exact HO186.out) (Kd.R_base ho0) hb); have n3_ := Aside0.mk (Kd.V_elder' (by (with_reducible repeat (first | apply Kd.V_alloc | apply Kd.V_drewN | apply Kd.V_drew)); exact HO191.out) (Kd.R_base ho0) hb); have n4_ := Aside0.mk (Kd.R_lower (Kd.R_newM (M := fun k_ => (w.heap.size ≤ k_)) ho0 (below_size (by repeat (first | (with_reducible first | exact HB.out | apply below_alloc | apply pw_below_drewN | apply below_drew1) | exact HB.out))) (fun k_ h_ => h_)) (below_size (by repeat (first | (with_reducible first | exact HB.out | apply below_alloc | apply pw_below_drewN | apply below_drew1) | exact HB.out)))); have n5_ := Aside0.mk (below_step (by repeat (first | (with_reducible first | exact HB.out | apply below_alloc | apply pw_below_drewN | apply below_drew1) | exact HB.out)) hb); clear HO_0; clear HO_4; clear HO186; clear HO191; clear HB; have HO_0 := n0_; have HO_4 := n1_; have HO186 := n2_; have HO191 := n3_; have HO194 := n4_; have HB := n5_; clear n0_ n1_ n2_ n3_ n4_ n5_; (try clear hb); (try clear hb2); (try clear hk); (try clear hi); (try clear ho0); obtain ⟨Ao24, co24, eo24⟩ := Kd.R_slice HO194.out; subst eo24) | ((with_reducible refine gate_builtin (b := .append) (xs := #[.tmp 29, .tmp 34]) rfl ?_); (try (refine gate_guard (by rfl) ?_; dsimp only)); at_builtin; refine Kd.S_append (Kd.slice 5 (Kd.int .u8)) (w0 := w) w.heap.size rfl (.tmp 29) (.tmp 34) 22 23 (.slice none 0 0) 24 rfl Try.underlying22 info23 rfl (by decide) (by omega) u4 x4_1 t192 [.slice Ao24 t192.length co24] (fun k_ => (w.heap.size ≤ k_)) (fun k_ => some k_ = (.slice Ao24 t192.length co24 : Value).ownBlock) rfl rfl ?aP (fun k_ hk_ => ((Kd.R_mono (ok' := fun k_ => ((fun k_ => (w.heap.size ≤ k_))) k_ ∧ some k_ ≠ (u4 : Value).ownBlock) (Kd.R_apart' (HO194.out) (Kd.S_typed HO_4.out) (by decide)) (fun k_ hk => ⟨hk.1.1, hk.2⟩))).1 k_ hk_.symm) ?aF ?aO ?aB ?aS ?aL ?_; (case aP => exact Kd.M_row (Kd.R_mono (Kd.R_tight rfl (Kd.R_mono (ok' := fun k_ => ((fun k_ => (w.heap.size ≤ k_))) k_ ∧ some k_ ≠ (u4 : Value).ownBlock) (Kd.R_apart' (HO194.out) (Kd.S_typed HO_4.out) (by decide)) (fun k_ hk => ⟨hk.1.1, hk.2⟩))) (fun _ h_ => h_))); (case aB => exact (by repeat (first | (with_reducible first | exact HB.out | apply below_alloc | apply pw_below_drewN | apply below_drew1) | exact HB.out))); (case aF => exact (fun k_ hk => (Nat.le_trans (below_size (by repeat (first | (with_reducible first | exact HB.out | apply below_alloc | apply pw_below_drewN | apply below_drew1) | exact HB.out))) hk))); (case aO => exact (by (with_reducible repeat (first | apply Kd.S_alloc | apply Kd.S_drewN | apply Kd.S_drew)); exact Kd.S_mono HO_4.out (fun k_ hk => ⟨hk.1, fun e_ => hk.2 e_⟩))); (case aS => exact (below_size (by repeat (first | (with_reducible first | exact HB.out | apply below_alloc | apply pw_below_drewN | apply below_drew1) | exact HB.out)))); (case aL => have := LMc16.out; omega); intro v196 w23 ho hb hg hat; rw [← Ny195.out] at ho; have n0_ := Aside0.mk (Kd.V_afterv (ok := (fun k_ => (P0_ k_ ∨ w.heap.size ≤ k_) ∧ some k_ ≠ (.slice Ao24 t192.length co24 : Value).ownBlock)) (by (with_reducible repeat (first | apply Kd.V_alloc | apply Kd.V_drewN | apply Kd.V_drew)); exact Kd.V_mono HO_0.out (fun _ hk => ⟨⟨hk.1.1, hk.2⟩, hk.1.2⟩)) hg hat); have n1_ := Aside0.mk (Kd.V_afterv (ok := (fun k_ => (P0_ k_ ∨ w.heap.size ≤ k_) ∧ some k_ ≠ (.slice Ao24 t192.length co24 : Value).ownBlock)) (by (with_reducible repeat (first | apply Kd.V_alloc | apply Kd.V_drewN | apply Kd.V_drew)); exact Kd.V_mono HO186.out (fun _ hk => ⟨⟨hk.1.1, hk.2⟩, hk.1.2⟩)) hg hat); have n2_ := Aside0.mk (Kd.V_afterv (ok := (fun k_ => (P0_ k_ ∨ w.heap.size ≤ k_) ∧ some k_ ≠ (.slice Ao24 t192.length co24 : Value).ownBlock)) (by (with_reducible repeat (first | apply Kd.V_alloc | apply Kd.V_drewN | apply Kd.V_drew)); exact Kd.V_mono HO191.out (fun _ hk => ⟨⟨hk.1.1, hk.2⟩, hk.1.2⟩)) hg hat); have n3_ := Aside0.mk (hb); have n4_ := Aside0.mk (ho); clear HO_0; clear HO186; clear HO191; clear HB; clear HO_4; clear HO194; have HO_0 := n0_; have HO186 := n1_; have HO191 := n2_; have HB := n3_; have HO197 := n4_; clear n0_ n1_ n2_ n3_ n4_; clear ho hb hg hat; have q25 : ((ji12) : Int) ≤ ((y182.length : Int) : Int) := of_decide_eq_true (by first | (with_reducible assumption) | assumption); obtain ⟨i025, hi025, _, hsz25, _⟩ := info_parts info5; have hroom25 : y182.length ≤ c20 := (Kd.V_reads' HO186.out).2.1; have hC25 : Kd.F (Kd.int .u8) _ _ A20 y182.length y182 := (Kd.V_at (base := w.heap.size) HO186.out).2.2; have q025 : (0 : Int) ≤ ((ji12) : Int) := of_decide_eq_true (by first | (with_reducible assumption) | assumption); have hcut25 := cut_from (P := Try.prog) 23 5 .i64 Try.underlying23 hi025 1 hsz25 A20 y182.length c20 (ji12) q025 q25; have hr25 := Kd.F_cut (m := ((ji12) : Int).toNat) (c := c20) hC25 (by omega) hroom25; obtain ⟨A25, hA25⟩ : ∃ A1, A1 = (if c20 = ((ji12) : Int).toNat then A20 else (A20 : Option Addr).map (·.add (((ji12) : Int).toNat * 1))) := ⟨_, rfl⟩; obtain ⟨c25, hc25⟩ : ∃ c1, c1 = c20 - ((ji12) : Int).toNat := ⟨_, rfl⟩; have hy25 : y198.length = y182.length - ((ji12) : Int).toNat := (by rw [Ny198.out, List.length_drop] <;> omega); rw [show (y182).drop ((ji12) : Int).toNat = y198 from Ny198.out.symm] at hr25; replace hr25 : Kd.F (Kd.int .u8) _ _ A25 y198.length y198 := (by rw [hA25]; exact hr25); rw [← hy25, ← hA25, ← hc25] at hcut25; have HO202 := Aside0.mk (show Kd.V (Kd.int .u8) 5 _ w.heap.size _ (.slice A25 y198.length c25) y198 from Kd.V_mk (by rw [hy25, hc25]; exact Nat.sub_le_sub_right hroom25 _) hr25); have HC202 := Aside0.mk (show y198.length ≤ c25 from by rw [hy25, hc25]; exact Nat.sub_le_sub_right hroom25 _); clear hr25 hC25 hroom25 hi025 hsz25 hc25; have KY25 := Aside0.mk hy25; have KA25 := Aside0.mk hA25; clear hy25 hA25; replace q25 := eq_true q25))
                        repeat (go_quiet (first | (go_at_call 28; (with_reducible refine (slices_Clone_byte_byte.calls _ _ y187 t192 _ ?side1 ?side2 A15.out).mono ?_); (case side1 => repeat (first | exact (Kd.V_reads' HO191.out).2.2 | (with_reducible refine Kd.C_alloc ?_ _) | (with_reducible refine Kd.C_drewN ?_ _) | (with_reducible refine Kd.C_drew ?_))); (case side2 => exact (Kd.V_reads' HO191.out).2.1); rintro e w22 ⟨v193, rfl, ho0, hb⟩; have n0_ := Aside0.mk (Kd.V_elder' (by (with_reducible repeat (first | apply Kd.V_alloc | apply Kd.V_drewN | apply Kd.V_drew)); exact HO_0.out) (Kd.R_base ho0) hb); have n1_ := Aside0.mk (Kd.S_elder' (by (with_reducible repeat (first | apply Kd.S_alloc | apply Kd.S_drewN | apply Kd.S_drew)); exact HO_4.out) (Kd.R_base ho0) hb); have n2_ := Aside0.mk (Kd.V_elder' (by (with_reducible repeat (first | apply Kd.V_alloc | apply Kd.V_drewN | apply Kd.V_drew)); exact HO186.out) (Kd.R_base ho0) hb); have n3_ := Aside0.mk (Kd.V_elder' (by (with_reducible repeat (first | apply Kd.V_alloc | apply Kd.V_drewN | apply Kd.V_drew)); exact HO191.out) (Kd.R_base ho0) hb); have n4_ := Aside0.mk (Kd.R_lower (Kd.R_newM (M := fun k_ => (w.heap.size ≤ k_)) ho0 (below_size (by repeat (first | (with_reducible first | exact HB.out | apply below_alloc | apply pw_below_drewN | apply below_drew1) | exact HB.out))) (fun k_ h_ => h_)) (below_size (by repeat (first | (with_reducible first | exact HB.out | apply below_alloc | apply pw_below_drewN | apply below_drew1) | exact HB.out)))); have n5_ := Aside0.mk (below_step (by repeat (first | (with_reducible first | exact HB.out | apply below_alloc | apply pw_below_drewN | apply below_drew1) | exact HB.out)) hb); clear HO_0; clear HO_4; clear HO186; clear HO191; clear HB; have HO_0 := n0_; have HO_4 := n1_; have HO186 := n2_; have HO191 := n3_; have HO194 := n4_; have HB := n5_; clear n0_ n1_ n2_ n3_ n4_ n5_; (try clear hb); (try clear hb2); (try clear hk); (try clear hi); (try clear ho0); obtain ⟨Ao24, co24, eo24⟩ := Kd.R_slice HO194.out; subst eo24) | ((with_reducible refine gate_builtin (b := .append) (xs := #[.tmp 29, .tmp 34]) rfl ?_); (try (refine gate_guard (by rfl) ?_; dsimp only)); at_builtin; refine Kd.S_append (Kd.slice 5 (Kd.int .u8)) (w0 := w) w.heap.size rfl (.tmp 29) (.tmp 34) 22 23 (.slice none 0 0) 24 rfl Try.underlying22 info23 rfl (by decide) (by omega) u4 x4_1 t192 [.slice Ao24 t192.length co24] (fun k_ => (w.heap.size ≤ k_)) (fun k_ => some k_ = (.slice Ao24 t192.length co24 : Value).ownBlock) rfl rfl ?aP (fun k_ hk_ => ((Kd.R_mono (ok' := fun k_ => ((fun k_ => (w.heap.size ≤ k_))) k_ ∧ some k_ ≠ (u4 : Value).ownBlock) (Kd.R_apart' (HO194.out) (Kd.S_typed HO_4.out) (by decide)) (fun k_ hk => ⟨hk.1.1, hk.2⟩))).1 k_ hk_.symm) ?aF ?aO ?aB ?aS ?aL ?_; (case aP => exact Kd.M_row (Kd.R_mono (Kd.R_tight rfl (Kd.R_mono (ok' := fun k_ => ((fun k_ => (w.heap.size ≤ k_))) k_ ∧ some k_ ≠ (u4 : Value).ownBlock) (Kd.R_apart' (HO194.out) (Kd.S_typed HO_4.out) (by decide)) (fun k_ hk => ⟨hk.1.1, hk.2⟩))) (fun _ h_ => h_))); (case aB => exact (by repeat (first | (with_reducible first | exact HB.out | apply below_alloc | apply pw_below_drewN | apply below_drew1) | exact HB.out))); (case aF => exact (fun k_ hk => (Nat.le_trans (below_size (by repeat (first | (with_reducible first | exact HB.out | apply below_alloc | apply pw_below_drewN | apply below_drew1) | exact HB.out))) hk))); (case aO => exact (by (with_reducible repeat (first | apply Kd.S_alloc | apply Kd.S_drewN | apply Kd.S_drew)); exact Kd.S_mono HO_4.out (fun k_ hk => ⟨hk.1, fun e_ => hk.2 e_⟩))); (case aS => exact (below_size (by repeat (first | (with_reducible first | exact HB.out | apply below_alloc | apply pw_below_drewN | apply below_drew1) | exact HB.out)))); (case aL => have := LMc16.out; omega); intro v196 w23 ho hb hg hat; rw [← Ny195.out] at ho; have n0_ := Aside0.mk (Kd.V_afterv (ok := (fun k_ => (P0_ k_ ∨ w.heap.size ≤ k_) ∧ some k_ ≠ (.slice Ao24 t192.length co24 : Value).ownBlock)) (by (with_reducible repeat (first | apply Kd.V_alloc | apply Kd.V_drewN | apply Kd.V_drew)); exact Kd.V_mono HO_0.out (fun _ hk => ⟨⟨hk.1.1, hk.2⟩, hk.1.2⟩)) hg hat); have n1_ := Aside0.mk (Kd.V_afterv (ok := (fun k_ => (P0_ k_ ∨ w.heap.size ≤ k_) ∧ some k_ ≠ (.slice Ao24 t192.length co24 : Value).ownBlock)) (by (with_reducible repeat (first | apply Kd.V_alloc | apply Kd.V_drewN | apply Kd.V_drew)); exact Kd.V_mono HO186.out (fun _ hk => ⟨⟨hk.1.1, hk.2⟩, hk.1.2⟩)) hg hat); have n2_ := Aside0.mk (Kd.V_afterv (ok := (fun k_ => (P0_ k_ ∨ w.heap.size ≤ k_) ∧ some k_ ≠ (.slice Ao24 t192.length co24 : Value).ownBlock)) (by (with_reducible repeat (first | apply Kd.V_alloc | apply Kd.V_drewN | apply Kd.V_drew)); exact Kd.V_mono HO191.out (fun _ hk => ⟨⟨hk.1.1, hk.2⟩, hk.1.2⟩)) hg hat); have n3_ := Aside0.mk (hb); have n4_ := Aside0.mk (ho); clear HO_0; clear HO186; clear HO191; clear HB; clear HO_4; clear HO194; have HO_0 := n0_; have HO186 := n1_; have HO191 := n2_; have HB := n3_; have HO197 := n4_; clear n0_ n1_ n2_ n3_ n4_; clear ho hb hg hat; have q25 : ((ji12) : Int) ≤ ((y182.length : Int) : Int) := of_decide_eq_true (by first | (with_reducible assumption) | assumption); obtain ⟨i025, hi025, _, hsz25, _⟩ := info_parts info5; have hroom25 : y182.length ≤ c20 := (Kd.V_reads' HO186.out).2.1; have hC25 : Kd.F (Kd.int .u8) _ _ A20 y182.length y182 := (Kd.V_at (base := w.heap.size) HO186.out).2.2; have q025 : (0 : Int) ≤ ((ji12) : Int) := of_decide_eq_true (by first | (with_reducible assumption) | assumption); have hcut25 := cut_from (P := Try.prog) 23 5 .i64 Try.underlying23 hi025 1 hsz25 A20 y182.length c20 (ji12) q025 q25; have hr25 := Kd.F_cut (m := ((ji12) : Int).toNat) (c := c20) hC25 (by omega) hroom25; obtain ⟨A25, hA25⟩ : ∃ A1, A1 = (if c20 = ((ji12) : Int).toNat then A20 else (A20 : Option Addr).map (·.add (((ji12) : Int).toNat * 1))) := ⟨_, rfl⟩; obtain ⟨c25, hc25⟩ : ∃ c1, c1 = c20 - ((ji12) : Int).toNat := ⟨_, rfl⟩; have hy25 : y198.length = y182.length - ((ji12) : Int).toNat := (by rw [Ny198.out, List.length_drop] <;> omega); rw [show (y182).drop ((ji12) : Int).toNat = y198 from Ny198.out.symm] at hr25; replace hr25 : Kd.F (Kd.int .u8) _ _ A25 y198.length y198 := (by rw [hA25]; exact hr25); rw [← hy25, ← hA25, ← hc25] at hcut25; have HO202 := Aside0.mk (show Kd.V (Kd.int .u8) 5 _ w.heap.size _ (.slice A25 y198.length c25) y198 from Kd.V_mk (by rw [hy25, hc25]; exact Nat.sub_le_sub_right hroom25 _) hr25); have HC202 := Aside0.mk (show y198.length ≤ c25 from by rw [hy25, hc25]; exact Nat.sub_le_sub_right hroom25 _); clear hr25 hC25 hroom25 hi025 hsz25 hc25; have KY25 := Aside0.mk hy25; have KA25 := Aside0.mk hA25; clear hy25 hA25; replace q25 := eq_true q25)); try go_wp2_with (first | (go_at_call 28; (with_reducible refine (slices_Clone_byte_byte.calls _ _ y187 t192 _ ?side1 ?side2 A15.out).mono ?_); (case side1 => repeat (first | exact (Kd.V_reads' HO191.out).2.2 | (with_reducible refine Kd.C_alloc ?_ _) | (with_reducible refine Kd.C_drewN ?_ _) | (with_reducible refine Kd.C_drew ?_))); (case side2 => exact (Kd.V_reads' HO191.out).2.1); rintro e w22 ⟨v193, rfl, ho0, hb⟩; have n0_ := Aside0.mk (Kd.V_elder' (by (with_reducible repeat (first | apply Kd.V_alloc | apply Kd.V_drewN | apply Kd.V_drew)); exact HO_0.out) (Kd.R_base ho0) hb); have n1_ := Aside0.mk (Kd.S_elder' (by (with_reducible repeat (first | apply Kd.S_alloc | apply Kd.S_drewN | apply Kd.S_drew)); exact HO_4.out) (Kd.R_base ho0) hb); have n2_ := Aside0.mk (Kd.V_elder' (by (with_reducible repeat (first | apply Kd.V_alloc | apply Kd.V_drewN | apply Kd.V_drew)); exact HO186.out) (Kd.R_base ho0) hb); have n3_ := Aside0.mk (Kd.V_elder' (by (with_reducible repeat (first | apply Kd.V_alloc | apply Kd.V_drewN | apply Kd.V_drew)); exact HO191.out) (Kd.R_base ho0) hb); have n4_ := Aside0.mk (Kd.R_lower (Kd.R_newM (M := fun k_ => (w.heap.size ≤ k_)) ho0 (below_size (by repeat (first | (with_reducible first | exact HB.out | apply below_alloc | apply pw_below_drewN | apply below_drew1) | exact HB.out))) (fun k_ h_ => h_)) (below_size (by repeat (first | (with_reducible first | exact HB.out | apply below_alloc | apply pw_below_drewN | apply below_drew1) | exact HB.out)))); have n5_ := Aside0.mk (below_step (by repeat (first | (with_reducible first | exact HB.out | apply below_alloc | apply pw_below_drewN | apply below_drew1) | exact HB.out)) hb); clear HO_0; clear HO_4; clear HO186; clear HO191; clear HB; have HO_0 := n0_; have HO_4 := n1_; have HO186 := n2_; have HO191 := n3_; have HO194 := n4_; have HB := n5_; clear n0_ n1_ n2_ n3_ n4_ n5_; (try clear hb); (try clear hb2); (try clear hk); (try clear hi); (try clear ho0); obtain ⟨Ao24, co24, eo24⟩ := Kd.R_slice HO194.out; subst eo24) | ((with_reducible refine gate_builtin (b := .append) (xs := #[.tmp 29, .tmp 34]) rfl ?_); (try (refine gate_guard (by rfl) ?_; dsimp only)); at_builtin; refine Kd.S_append (Kd.slice 5 (Kd.int .u8)) (w0 := w) w.heap.size rfl (.tmp 29) (.tmp 34) 22 23 (.slice none 0 0) 24 rfl Try.underlying22 info23 rfl (by decide) (by omega) u4 x4_1 t192 [.slice Ao24 t192.length co24] (fun k_ => (w.heap.size ≤ k_)) (fun k_ => some k_ = (.slice Ao24 t192.length co24 : Value).ownBlock) rfl rfl ?aP (fun k_ hk_ => ((Kd.R_mono (ok' := fun k_ => ((fun k_ => (w.heap.size ≤ k_))) k_ ∧ some k_ ≠ (u4 : Value).ownBlock) (Kd.R_apart' (HO194.out) (Kd.S_typed HO_4.out) (by decide)) (fun k_ hk => ⟨hk.1.1, hk.2⟩))).1 k_ hk_.symm) ?aF ?aO ?aB ?aS ?aL ?_; (case aP => exact Kd.M_row (Kd.R_mono (Kd.R_tight rfl (Kd.R_mono (ok' := fun k_ => ((fun k_ => (w.heap.size ≤ k_))) k_ ∧ some k_ ≠ (u4 : Value).ownBlock) (Kd.R_apart' (HO194.out) (Kd.S_typed HO_4.out) (by decide)) (fun k_ hk => ⟨hk.1.1, hk.2⟩))) (fun _ h_ => h_))); (case aB => exact (by repeat (first | (with_reducible first | exact HB.out | apply below_alloc | apply pw_below_drewN | apply below_drew1) | exact HB.out))); (case aF => exact (fun k_ hk => (Nat.le_trans (below_size (by repeat (first | (with_reducible first | exact HB.out | apply below_alloc | apply pw_below_drewN | apply below_drew1) | exact HB.out))) hk))); (case aO => exact (by (with_reducible repeat (first | apply Kd.S_alloc | apply Kd.S_drewN | apply Kd.S_drew)); exact Kd.S_mono HO_4.out (fun k_ hk => ⟨hk.1, fun e_ => hk.2 e_⟩))); (case aS => exact (below_size (by repeat (first | (with_reducible first | exact HB.out | apply below_alloc | apply pw_below_drewN | apply below_drew1) | exact HB.out)))); (case aL => have := LMc16.out; omega); intro v196 w23 ho hb hg hat; rw [← Ny195.out] at ho; have n0_ := Aside0.mk (Kd.V_afterv (ok := (fun k_ => (P0_ k_ ∨ w.heap.size ≤ k_) ∧ some k_ ≠ (.slice Ao24 t192.length co24 : Value).ownBlock)) (by (with_reducible repeat (first | apply Kd.V_alloc | apply Kd.V_drewN | apply Kd.V_drew)); exact Kd.V_mono HO_0.out (fun _ hk => ⟨⟨hk.1.1, hk.2⟩, hk.1.2⟩)) hg hat); have n1_ := Aside0.mk (Kd.V_afterv (ok := (fun k_ => (P0_ k_ ∨ w.heap.size ≤ k_) ∧ some k_ ≠ (.slice Ao24 t192.length co24 : Value).ownBlock)) (by (with_reducible repeat (first | apply Kd.V_alloc | apply Kd.V_drewN | apply Kd.V_drew)); exact Kd.V_mono HO186.out (fun _ hk => ⟨⟨hk.1.1, hk.2⟩, hk.1.2⟩)) hg hat); have n2_ := Aside0.mk (Kd.V_afterv (ok := (fun k_ => (P0_ k_ ∨ w.heap.size ≤ k_) ∧ some k_ ≠ (.slice Ao24 t192.length co24 : Value).ownBlock)) (by (with_reducible repeat (first | apply Kd.V_alloc | apply Kd.V_drewN | apply Kd.V_drew)); exact Kd.V_mono HO191.out (fun _ hk => ⟨⟨hk.1.1, hk.2⟩, hk.1.2⟩)) hg hat); have n3_ := Aside0.mk (hb); have n4_ := Aside0.mk (ho); clear HO_0; clear HO186; clear HO191; clear HB; clear HO_4; clear HO194; have HO_0 := n0_; have HO186 := n1_; have HO191 := n2_; have HB := n3_; have HO197 := n4_; clear n0_ n1_ n2_ n3_ n4_; clear ho hb hg hat; have q25 : ((ji12) : Int) ≤ ((y182.length : Int) : Int) := of_decide_eq_true (by first | (with_reducible assumption) | assumption); obtain ⟨i025, hi025, _, hsz25, _⟩ := info_parts info5; have hroom25 : y182.length ≤ c20 := (Kd.V_reads' HO186.out).2.1; have hC25 : Kd.F (Kd.int .u8) _ _ A20 y182.length y182 := (Kd.V_at (base := w.heap.size) HO186.out).2.2; have q025 : (0 : Int) ≤ ((ji12) : Int) := of_decide_eq_true (by first | (with_reducible assumption) | assumption); have hcut25 := cut_from (P := Try.prog) 23 5 .i64 Try.underlying23 hi025 1 hsz25 A20 y182.length c20 (ji12) q025 q25; have hr25 := Kd.F_cut (m := ((ji12) : Int).toNat) (c := c20) hC25 (by omega) hroom25; obtain ⟨A25, hA25⟩ : ∃ A1, A1 = (if c20 = ((ji12) : Int).toNat then A20 else (A20 : Option Addr).map (·.add (((ji12) : Int).toNat * 1))) := ⟨_, rfl⟩; obtain ⟨c25, hc25⟩ : ∃ c1, c1 = c20 - ((ji12) : Int).toNat := ⟨_, rfl⟩; have hy25 : y198.length = y182.length - ((ji12) : Int).toNat := (by rw [Ny198.out, List.length_drop] <;> omega); rw [show (y182).drop ((ji12) : Int).toNat = y198 from Ny198.out.symm] at hr25; replace hr25 : Kd.F (Kd.int .u8) _ _ A25 y198.length y198 := (by rw [hA25]; exact hr25); rw [← hy25, ← hA25, ← hc25] at hcut25; have HO202 := Aside0.mk (show Kd.V (Kd.int .u8) 5 _ w.heap.size _ (.slice A25 y198.length c25) y198 from Kd.V_mk (by rw [hy25, hc25]; exact Nat.sub_le_sub_right hroom25 _) hr25); have HC202 := Aside0.mk (show y198.length ≤ c25 from by rw [hy25, hc25]; exact Nat.sub_le_sub_right hroom25 _); clear hr25 hC25 hroom25 hi025 hsz25 hc25; have KY25 := Aside0.mk hy25; have KA25 := Aside0.mk hA25; clear hy25 hA25; replace q25 := eq_true q25)))
                        go_roundg k1
                        case measure => have := HK1.out; omega
                        case rel => exact ⟨(y198), (y195), H', ⟨by have := HK1.out; omega⟩, ⟨by (with_reducible repeat (first | apply Kd.V_alloc | apply Kd.V_drewN | apply Kd.V_drew)); exact Kd.V_mono HO202.out (fun _ hk => ⟨hk.1.1, hk.2⟩)⟩, ⟨by (with_reducible repeat (first | apply Kd.S_alloc | apply Kd.S_drewN | apply Kd.S_drew)); exact HO197.out⟩, ⟨by repeat (first | (with_reducible first | exact HB.out | apply below_alloc | apply pw_below_drewN | apply below_drew1) | exact HB.out)⟩⟩
                      · rw [if_neg c16] at H
                        exact absurd H (by simp)
                    · rw [if_neg c14] at H
                      exact absurd H (by simp)
                  · rw [if_neg c13] at H
                    exact absurd H (by simp)
            · rw [if_neg c5] at H
              exact absurd H (by simp)
          · rw [if_neg c4] at H
            exact absurd H (by simp)
        · rw [if_neg c3] at H
          exact absurd H (by simp)
      · rw [if_neg c2] at H
        have c2b0 : decide (2 ≤ (x0_1.length : Int)) = false := decide_eq_false c2
        have c2b1 : decide (2 ≤ x0_1.length) = false := decide_eq_false (by omega)
        clear c2
        by_cases c26 : (x0_1.length : Int) > 0
        · rw [if_pos c26] at H
          have c26b0 : decide (0 < (x0_1.length : Int)) = true := decide_eq_true c26
          have c26b1 : decide (0 < x0_1.length) = true := decide_eq_true (by omega)
          clear c26
          simp only [Option.some.injEq, Prod.mk.injEq] at H
          obtain ⟨rfl, rfl⟩ := H
          obtain ⟨Ao27, co27, eo27⟩ := Kd.V_slice HO_0.out
          subst eo27
          go_wp2
          repeat (go_quiet (fail); try go_wp2)
          go_ret2
          exact ⟨_, by first | rfl | (simp [errW_none, errW_some] <;> rfl) | (simp [*, errW_none, errW_some] <;> rfl), by first | exact Kd.S_nil _ _ _ _ _ | exact Kd.N_nil _ _ _ _ _ | exact Kd.V_nil _ _ _ _ _ | exact Kd.Q_nil _ _ _ _ _ | exact Kd.R_nil _ _ _ _ _, by repeat (first | (with_reducible first | exact HB.out | apply below_alloc | apply pw_below_drewN | apply below_drew1) | exact HB.out)⟩
        · rw [if_neg c26] at H
          have c26b0 : decide (0 < (x0_1.length : Int)) = false := decide_eq_false c26
          have c26b1 : decide (0 < x0_1.length) = false := decide_eq_false (by omega)
          clear c26
          simp only [Option.some.injEq, Prod.mk.injEq] at H
          obtain ⟨rfl, rfl⟩ := H
          obtain ⟨Ao28, co28, eo28⟩ := Kd.V_slice HO_0.out
          subst eo28
          go_wp2
          repeat (go_quiet (fail); try go_wp2)
          go_ret2
          exact ⟨_, by first | rfl | (simp [errW_none, errW_some] <;> rfl) | (simp [*, errW_none, errW_some] <;> rfl), by (with_reducible repeat (first | apply Kd.S_alloc | apply Kd.S_drewN | apply Kd.S_drew)); exact HO_4.out, by repeat (first | (with_reducible first | exact HB.out | apply below_alloc | apply pw_below_drewN | apply below_drew1) | exact HB.out)⟩

end Go.Proofs.Ytejbkjbldmaodaa.P
