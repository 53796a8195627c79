/- Functions of the translated program as plain Lean functions, and proofs that their calls come to these. Written by a program of the session. No condition. -/
import Derived.Test.YtjlhehaagaaihaaDoorPx0
import Derived.Test.YtjlhehaagaaihaaDoorPx7
namespace Go.Proofs.YtjlhehaagaaihaaDoor.P
open Go.RowKit Go.Proofs.YtjlhehaagaaihaaDoorW.PrintWords Go.Proofs.YtjlhehaagaaihaaDoorW.PrintLast Go.Proofs.YtjlhehaagaaihaaDoorW.PrintMore
attribute [local go_sem] max2_int min2_int max_two min_two max_three min_three max_four min_four   -- for this text's walks alone
set_option linter.unusedVariables false
set_option linter.unusedSimpArgs false

/-! ### gessoref01_Codes: function 41 -/
def gessoref01_Codes.l0 : Nat → List Int → List Int → Option (List Int × Int)
  | 0, _, _ => none
  | k + 1, x0, x4 => if (x0.length : Int) > 0 then ((gessoref01_One.f k x0).bind fun bt356 => (if bt356.2 = 0 then (some (([] : List Int), 6)) else (if x4.length < 35184372088832 then (if 0 ≤ bt356.2 then (if bt356.2 ≤ (x0.length : Int) then (gessoref01_Codes.l0 k (x0.drop (bt356.2 : Int).toNat) (x4 ++ [bt356.1])) else (none)) else (none)) else (none)))) else (some (x4, 0))
def gessoref01_Codes.f (k : Nat) (l0 : List Int) : Option (List Int × Int) := gessoref01_Codes.l0 k l0 ([] : List Int)
theorem gessoref01_Codes.mono_l : ∀ k, (∀ y0 y1, LeO (gessoref01_Codes.l0 k y0 y1) (gessoref01_Codes.l0 (k + 1) y0 y1))
  | 0 => fun _ _ r h => by simp [gessoref01_Codes.l0] at h
  | k + 1 => by
    have ih0 := gessoref01_Codes.mono_l k
    · intro y0 y1
      unfold gessoref01_Codes.l0
      repeat' first
      | (with_reducible exact ih0 _ _)
      | (with_reducible exact gessoref01_One.mono _ _)
      | (with_reducible exact LeO.refl _)
      | (with_reducible exact LeO.none _)
      | (with_reducible refine LeO.ite ?_ ?_)
      | (with_reducible refine LeO.bind ?_ (fun _ => ?_))
      | exact ih0 _ _
      | exact gessoref01_One.mono _ _
      | exact LeO.none _
      | refine LeO.ite ?_ ?_
      | refine LeO.bind ?_ (fun _ => ?_)
theorem gessoref01_Codes.mono : ∀ a0 k, LeO (gessoref01_Codes.f k a0) (gessoref01_Codes.f (k + 1) a0) := by
  intro a0 k
  have ih0 := gessoref01_Codes.mono_l k
  unfold gessoref01_Codes.f
  repeat' first
      | (with_reducible exact ih0 _ _)
      | (with_reducible exact gessoref01_One.mono _ _)
      | (with_reducible exact LeO.refl _)
      | (with_reducible exact LeO.none _)
      | (with_reducible refine LeO.ite ?_ ?_)
      | (with_reducible refine LeO.bind ?_ (fun _ => ?_))
      | exact ih0 _ _
      | exact gessoref01_One.mono _ _
      | exact LeO.none _
      | refine LeO.ite ?_ ?_
      | refine LeO.bind ?_ (fun _ => ?_)
set_option maxHeartbeats 8000000 in
set_option maxRecDepth 100000 in
theorem gessoref01_Codes.calls (k : Nat) (P0_ : Nat → Prop) (A0 : Option Addr) (c0 : Nat) (l0 : List Int) (r1 : List Int) (r2 : Int) (w : World) (hs0 : Kd.V (Kd.int .u8) 5 w w.heap.size (fun k_ => P0_ k_) (.slice A0 l0.length c0) l0) (h : gessoref01_Codes.f k l0 = some (r1, r2)) :
    Calls Tryd.prog 41 #[.slice A0 l0.length c0] w fun e w' => ∃ v0_ : Value, e = .returned (.tuple #[v0_, .int .i64 r2]) ∧ Kd.R (Kd.int .u32) 35 w' w.heap.size (fun k_ => (w.heap.size ≤ k_)) v0_ r1 ∧ Below w.heap.size w w' := by
  have HO0 := Aside0.mk (show Kd.V (Kd.int .u8) 5 w w.heap.size (fun k_ => (P0_ k_ ∨ w.heap.size ≤ k_)) (.slice A0 l0.length c0) l0 from Kd.V_mono hs0 (fun k_ hk => .inl hk))
  have HB := Aside0.mk (Below.refl w.heap.size w)
  have H : (gessoref01_Codes.l0 k l0 ([] : List Int)) = some (r1, r2) := h
  clear h
  have H' := Aside0.mk H
  clear H
  go_enter Tryd.func41, Tryd.ntmps41
  go_wp2
  go_loopg [0, 4] k (fun kq v0 v4 w' => ∃ (x0_1 : List Int) (x4_1 : List Int), Aside0 (gessoref01_Codes.l0 kq x0_1 x4_1 = some (r1, r2)) ∧ Aside0 (kq ≤ k) ∧ Aside0 (Kd.V (Kd.int .u8) 5 w' w.heap.size (fun k_ => (P0_ k_ ∨ w.heap.size ≤ k_) ∧ some k_ ≠ (v4 : Value).ownBlock) v0 x0_1) ∧ Aside0 (Kd.R (Kd.int .u32) 35 w' w.heap.size (fun k_ => (w.heap.size ≤ k_)) v4 x4_1) ∧ Aside0 (Below w.heap.size w w'))
  case atStart => exact ⟨(l0), (([] : List Int)), H', ⟨Nat.le_refl _⟩, ⟨by (with_reducible repeat (first | apply Kd.V_alloc | apply Kd.V_drewN | apply Kd.V_drew)); exact Kd.V_mono HO0.out (fun _ hk => ⟨hk, (by simp [Value.ownBlock])⟩)⟩, ⟨by first | exact Kd.R_nil _ _ _ _ _ | exact Kd.N_nil _ _ _ _ _ | exact Kd.V_nil _ _ _ _ _ | exact Kd.Q_nil _ _ _ _ _ | exact Kd.S_nil _ _ _ _ _⟩, ⟨by repeat (first | (with_reducible first | exact HB.out | apply below_alloc | apply pw_below_drewN | apply below_drew1) | exact HB.out)⟩⟩
  case round =>
    clear H'
    obtain ⟨x0_1, x4_1, HA, HK1, HO_0, HO_4, HB⟩ := hrel
    cases gk with
    | zero => exact absurd HA.out (by simp [gessoref01_Codes.l0])
    | succ k1 =>
      have H := HA.out
      clear HA
      simp only [gessoref01_Codes.l0] at H
      by_cases c2 : (x0_1.length : Int) > 0
      · rw [if_pos c2] at H
        have c2b0 : decide (0 < (x0_1.length : Int)) = true := decide_eq_true c2
        have c2b1 : decide (0 < x0_1.length) = true := decide_eq_true (by omega)
        clear c2
        replace H := Option.bind_eq_some_iff.mp H
        obtain ⟨⟨t356, t357⟩, A30, H⟩ := H
        replace H : (if t357 = 0 then (some (([] : List Int), 6)) else (if x4_1.length < 35184372088832 then (if 0 ≤ t357 then (if t357 ≤ (x0_1.length : Int) then (gessoref01_Codes.l0 k1 (x0_1.drop (t357 : Int).toNat) (x4_1 ++ [t356])) else (none)) else (none)) else (none))) = some (r1, r2) := H
        have A3 := Aside0.mk A30
        clear A30
        by_cases c4 : t357 = 0
        · rw [if_pos c4] at H
          have c4b0 : (t357 == 0) = true := beq_iff_eq.mpr c4
          have c4b1 : (t357 != 0) = false := bne_eq_false_iff_eq.mpr c4
          clear c4
          simp only [Option.some.injEq, Prod.mk.injEq] at H
          obtain ⟨rfl, rfl⟩ := H
          obtain ⟨Ao5, co5, eo5⟩ := Kd.V_slice HO_0.out
          subst eo5
          go_wp2_with (first | ((with_reducible refine gate_callee (f := 24) rfl ?_); refine goesL_ (some 12) rfl rfl Tryd.func24 (by kernel_rfl) rfl #[.slice Ao5 x0_1.length co5] rfl (by (try simp only [List.map_toArray, List.map_cons, List.map_nil]); first | done | rfl | (simp only [List.length_drop, List.length_take]; rfl)) ?_; (with_reducible refine (gessoref01_One.calls k1 _ _ x0_1 t356 t357 _ ?side1 ?side2 A3.out).mono ?_); (case side1 => repeat (first | exact (Kd.V_reads' HO_0.out).2.2 | (with_reducible refine Kd.C_alloc ?_ _) | (with_reducible refine Kd.C_drewN ?_ _) | (with_reducible refine Kd.C_drew ?_))); (case side2 => exact (Kd.V_reads' HO_0.out).2.1); rintro e w6 ⟨rfl, hb⟩; refine ⟨_, rfl, ?_⟩; have n0_ := Aside0.mk (Kd.V_below (by (with_reducible repeat (first | apply Kd.V_alloc | apply Kd.V_drewN | apply Kd.V_drew)); exact HO_0.out) hb); have n1_ := Aside0.mk (Kd.R_below (by (with_reducible repeat (first | apply Kd.R_alloc | apply Kd.R_drewN | apply Kd.R_drew)); exact HO_4.out) hb); have n2_ := Aside0.mk (below_step (by repeat (first | (with_reducible first | exact HB.out | apply below_alloc | apply pw_below_drewN | apply below_drew1) | exact HB.out)) hb); clear HO_0; clear HO_4; clear HB; have HO_0 := n0_; have HO_4 := n1_; have HB := n2_; clear n0_ n1_ n2_; (try clear hb); (try clear hb2); (try clear hk); (try clear hi)))
          go_ret2
          exact ⟨_, by first | rfl | (simp [errW_none, errW_some] <;> rfl) | (simp [*, errW_none, errW_some] <;> rfl), by first | exact Kd.R_nil _ _ _ _ _ | exact Kd.N_nil _ _ _ _ _ | exact Kd.V_nil _ _ _ _ _ | exact Kd.Q_nil _ _ _ _ _ | exact Kd.S_nil _ _ _ _ _, by repeat (first | (with_reducible first | exact HB.out | apply below_alloc | apply pw_below_drewN | apply below_drew1) | exact HB.out)⟩
        · rw [if_neg c4] at H
          have c4b0 : (t357 == 0) = false := beq_eq_false_iff_ne.mpr c4
          have c4b1 : (t357 != 0) = true := bne_iff_ne.mpr c4
          by_cases c7 : x4_1.length < 35184372088832
          · rw [if_pos c7] at H
            have LMc7 := Aside0.mk c7
            clear c7
            obtain ⟨y358, hy358⟩ : ∃ y_ : List Int, y_ = (x4_1 ++ [t356]) := ⟨_, rfl⟩
            replace H : (if 0 ≤ t357 then (if t357 ≤ (x0_1.length : Int) then (gessoref01_Codes.l0 k1 (x0_1.drop (t357 : Int).toNat) y358) else (none)) else (none)) = some (r1, r2) := by first | (rw [hy358]; with_reducible exact H) | (have H2_ := (Option.bind_some _ _).symm.trans H; rw [hy358]; with_reducible exact H2_) | (have H2_ := (Option.bind_some _ _).symm.trans H; with_reducible exact H2_) | with_reducible exact H | (rw [hy358]; exact H) | exact H
            have Ny358 := Aside0.mk hy358
            clear hy358
            by_cases c8 : 0 ≤ t357
            · rw [if_pos c8] at H
              have c8b0 := eq_true c8
              have c8b1 : decide (0 ≤ t357) = true := decide_eq_true c8
              clear c8
              by_cases c9 : t357 ≤ (x0_1.length : Int)
              · rw [if_pos c9] at H
                have c9b0 := eq_true c9
                have c9b1 : decide (t357 ≤ (x0_1.length : Int)) = true := decide_eq_true c9
                clear c9
                obtain ⟨y361, hy361⟩ : ∃ y_ : List Int, y_ = (x0_1.drop (t357 : Int).toNat) := ⟨_, rfl⟩
                replace H : (gessoref01_Codes.l0 k1 y361 y358) = some (r1, r2) := by first | (rw [hy361]; with_reducible exact H) | (have H2_ := (Option.bind_some _ _).symm.trans H; rw [hy361]; with_reducible exact H2_) | (have H2_ := (Option.bind_some _ _).symm.trans H; with_reducible exact H2_) | with_reducible exact H | (rw [hy361]; exact H) | exact H
                have Ny361 := Aside0.mk hy361
                clear hy361
                have H' := Aside0.mk H
                clear H
                obtain ⟨Ao10, co10, eo10⟩ := Kd.V_slice HO_0.out
                subst eo10
                go_wp2_with (first | ((with_reducible refine gate_callee (f := 24) rfl ?_); refine goesL_ (some 12) rfl rfl Tryd.func24 (by kernel_rfl) rfl #[.slice Ao10 x0_1.length co10] rfl (by (try simp only [List.map_toArray, List.map_cons, List.map_nil]); first | done | rfl | (simp only [List.length_drop, List.length_take]; rfl)) ?_; (with_reducible refine (gessoref01_One.calls k1 _ _ x0_1 t356 t357 _ ?side1 ?side2 A3.out).mono ?_); (case side1 => repeat (first | exact (Kd.V_reads' HO_0.out).2.2 | (with_reducible refine Kd.C_alloc ?_ _) | (with_reducible refine Kd.C_drewN ?_ _) | (with_reducible refine Kd.C_drew ?_))); (case side2 => exact (Kd.V_reads' HO_0.out).2.1); rintro e w11 ⟨rfl, hb⟩; refine ⟨_, rfl, ?_⟩; have n0_ := Aside0.mk (Kd.V_below (by (with_reducible repeat (first | apply Kd.V_alloc | apply Kd.V_drewN | apply Kd.V_drew)); exact HO_0.out) hb); have n1_ := Aside0.mk (Kd.R_below (by (with_reducible repeat (first | apply Kd.R_alloc | apply Kd.R_drewN | apply Kd.R_drew)); exact HO_4.out) hb); have n2_ := Aside0.mk (below_step (by repeat (first | (with_reducible first | exact HB.out | apply below_alloc | apply pw_below_drewN | apply below_drew1) | exact HB.out)) hb); clear HO_0; clear HO_4; clear HB; have HO_0 := n0_; have HO_4 := n1_; have HB := n2_; clear n0_ n1_ n2_; (try clear hb); (try clear hb2); (try clear hk); (try clear hi)) | ((with_reducible refine gate_builtin (b := .append) (xs := #[.tmp 17, .tmp 19]) rfl ?_); at_builtin; refine Kd.R_append (Kd.int .u32) (w0 := w) w.heap.size rfl (.tmp 17) (.tmp 19) 22 35 (.int .u32 0) 4 rfl Tryd.underlying22 info35 rfl (by decide) (by omega) u4 x4_1 t356 [.int .u32 t356] (fun k_ => (w.heap.size ≤ k_)) (fun _ => False) rfl rfl ?aP (fun _ hk => hk.elim) ?aF ?aO ?aB ?aS ?aL ?_; (case aP => exact rfl); (case aB => exact (by repeat (first | (with_reducible first | exact HB.out | apply below_alloc | apply pw_below_drewN | apply below_drew1) | exact HB.out))); (case aF => exact (fun k_ hk => (Nat.le_trans (below_size (by repeat (first | (with_reducible first | exact HB.out | apply below_alloc | apply pw_below_drewN | apply below_drew1) | exact HB.out))) hk))); (case aO => exact (by (with_reducible repeat (first | apply Kd.R_alloc | apply Kd.R_drewN | apply Kd.R_drew)); exact HO_4.out)); (case aS => exact (below_size (by repeat (first | (with_reducible first | exact HB.out | apply below_alloc | apply pw_below_drewN | apply below_drew1) | exact HB.out)))); (case aL => have := LMc7.out; omega); intro v359 w12 ho hb hg hat; rw [← Ny358.out] at ho; have n0_ := Aside0.mk (Kd.V_afterv (ok := (fun k_ => (P0_ k_ ∨ w.heap.size ≤ k_))) (by (with_reducible repeat (first | apply Kd.V_alloc | apply Kd.V_drewN | apply Kd.V_drew)); exact HO_0.out) hg hat); have n1_ := Aside0.mk (hb); have n2_ := Aside0.mk (ho); clear HO_0; clear HB; clear HO_4; have HO_0 := n0_; have HB := n1_; have HO360 := n2_; clear n0_ n1_ n2_; clear ho hb hg hat; have q13 : (t357 : Int) ≤ ((x0_1.length : Int) : Int) := of_decide_eq_true (by first | (with_reducible assumption) | assumption); obtain ⟨i013, hi013, _, hsz13, _⟩ := info_parts info5; have hroom13 : x0_1.length ≤ co10 := (Kd.V_reads' HO_0.out).2.1; have hC13 : Kd.F (Kd.int .u8) _ _ Ao10 x0_1.length x0_1 := (Kd.V_at (base := w.heap.size) HO_0.out).2.2; have q013 : (0 : Int) ≤ (t357 : Int) := of_decide_eq_true (by first | (with_reducible assumption) | assumption); have hcut13 := cut_from (P := Tryd.prog) 23 5 .i64 Tryd.underlying23 hi013 1 hsz13 Ao10 x0_1.length co10 t357 q013 q13; have hr13 := Kd.F_cut (m := (t357 : Int).toNat) (c := co10) hC13 (by omega) hroom13; obtain ⟨A13, hA13⟩ : ∃ A1, A1 = (if co10 = (t357 : Int).toNat then Ao10 else (Ao10 : Option Addr).map (·.add ((t357 : Int).toNat * 1))) := ⟨_, rfl⟩; obtain ⟨c13, hc13⟩ : ∃ c1, c1 = co10 - (t357 : Int).toNat := ⟨_, rfl⟩; have hy13 : y361.length = x0_1.length - (t357 : Int).toNat := (by rw [Ny361.out, List.length_drop] <;> omega); rw [show (x0_1).drop (t357 : Int).toNat = y361 from Ny361.out.symm] at hr13; replace hr13 : Kd.F (Kd.int .u8) _ _ A13 y361.length y361 := (by rw [hA13]; exact hr13); rw [← hy13, ← hA13, ← hc13] at hcut13; have HO365 := Aside0.mk (show Kd.V (Kd.int .u8) 5 _ w.heap.size _ (.slice A13 y361.length c13) y361 from Kd.V_mk (by rw [hy13, hc13]; exact Nat.sub_le_sub_right hroom13 _) hr13); have HC365 := Aside0.mk (show y361.length ≤ c13 from by rw [hy13, hc13]; exact Nat.sub_le_sub_right hroom13 _); clear hr13 hC13 hroom13 hi013 hsz13 hc13; have KY13 := Aside0.mk hy13; have KA13 := Aside0.mk hA13; clear hy13 hA13; replace q13 := eq_true q13))
                go_roundg k1
                case measure => have := HK1.out; omega
                case rel => exact ⟨(y361), (y358), H', ⟨by have := HK1.out; omega⟩, ⟨by (with_reducible repeat (first | apply Kd.V_alloc | apply Kd.V_drewN | apply Kd.V_drew)); exact HO365.out⟩, ⟨by (with_reducible repeat (first | apply Kd.R_alloc | apply Kd.R_drewN | apply Kd.R_drew)); exact HO360.out⟩, ⟨by repeat (first | (with_reducible first | exact HB.out | apply below_alloc | apply pw_below_drewN | apply below_drew1) | exact HB.out)⟩⟩
              · rw [if_neg c9] at H
                exact absurd H (by simp)
            · rw [if_neg c8] at H
              exact absurd H (by simp)
          · rw [if_neg c7] at H
            exact absurd H (by simp)
      · rw [if_neg c2] at H
        have c2b0 : decide (0 < (x0_1.length : Int)) = false := decide_eq_false c2
        have c2b1 : decide (0 < x0_1.length) = false := decide_eq_false (by omega)
        clear c2
        simp only [Option.some.injEq, Prod.mk.injEq] at H
        obtain ⟨rfl, rfl⟩ := H
        obtain ⟨Ao14, co14, eo14⟩ := Kd.V_slice HO_0.out
        subst eo14
        go_wp2
        go_ret2
        exact ⟨_, by first | rfl | (simp [errW_none, errW_some] <;> rfl) | (simp [*, errW_none, errW_some] <;> rfl), by (with_reducible repeat (first | apply Kd.R_alloc | apply Kd.R_drewN | apply Kd.R_drew)); exact HO_4.out, by repeat (first | (with_reducible first | exact HB.out | apply below_alloc | apply pw_below_drewN | apply below_drew1) | exact HB.out)⟩

end Go.Proofs.YtjlhehaagaaihaaDoor.P
