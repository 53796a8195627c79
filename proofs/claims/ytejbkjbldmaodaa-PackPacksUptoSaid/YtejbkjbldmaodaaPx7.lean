/- Functions of the translated program as plain Lean functions, and proofs that their calls come to these. Written by a program of the session. No condition. -/
import Derived.Test.YtejbkjbldmaodaaPx0
import Derived.Test.YtejbkjbldmaodaaPx1
import Derived.Test.YtejbkjbldmaodaaPx2
import Derived.Test.YtejbkjbldmaodaaPx6
import Derived.Test.YtejbkjbldmaodaaEd
namespace Go.Proofs.Ytejbkjbldmaodaa.P
open Go.RowKit Go.Proofs.YtejbkjbldmaodaaW.PrintWords Go.Proofs.YtejbkjbldmaodaaW.PrintLast Go.Proofs.YtejbkjbldmaodaaW.PrintMore
attribute [local go_sem] max2_int min2_int max_two min_two max_three min_three max_four min_four   -- for this text's walks alone
set_option linter.unusedVariables false
set_option linter.unusedSimpArgs false

/-! ### gessolaw11_PackPacks: function 3 -/
def gessolaw11_PackPacks.l0 : Nat → List (List Int) → List (List Int) → Int → Option (Bool)
  | 0, _, _, _ => none
  | k + 1, x0, x3, x4 => if x4 < (x0.length : Int) then ((some (([] : List Int) : List Int)).bind fun y141 => (if 0 ≤ x4 then (if y141.length + (rd_L1 x0 x4).length < 140737488355328 then (if x3.length < 5864062014805 then (gessolaw11_PackPacks.l0 k x0 (x3 ++ [(y141 ++ (rd_L1 x0 x4))]) (wrap64 (x4 + 1))) else (none)) else (none)) else (none))) else ((pack_Pack.f k x3).bind fun bt151 => ((gessoref11_Pack.f k x0).bind fun bt155 => (if (strOfNums bt151.1).toList = (strOfNums bt155.1).toList then (if bt151.2 = bt155.2 then ((gessolaw11_sameFields.f k x3 x0).bind fun t159 => (if t159 = true then ((gessolaw11_awake.f k).bind fun t160 => (some t160)) else (none))) else (none)) else (none))))
def gessolaw11_PackPacks.f (k : Nat) (l0 : List (List Int)) : Option (Bool) := gessolaw11_PackPacks.l0 k l0 ([] : List (List Int)) 0
theorem gessolaw11_PackPacks.mono_l : ∀ k, (∀ y0 y1 y2, LeO (gessolaw11_PackPacks.l0 k y0 y1 y2) (gessolaw11_PackPacks.l0 (k + 1) y0 y1 y2))
  | 0 => fun _ _ _ r h => by simp [gessolaw11_PackPacks.l0] at h
  | k + 1 => by
    have ih0 := gessolaw11_PackPacks.mono_l k
    · intro y0 y1 y2
      unfold gessolaw11_PackPacks.l0
      repeat' first
      | (with_reducible exact ih0 _ _ _)
      | (with_reducible exact gessolaw11_awake.mono _)
      | (with_reducible exact gessolaw11_sameFields.mono _ _ _)
      | (with_reducible exact gessoref11_Pack.mono _ _)
      | (with_reducible exact pack_Pack.mono _ _)
      | (with_reducible exact LeO.refl _)
      | (with_reducible exact LeO.none _)
      | (with_reducible refine LeO.ite ?_ ?_)
      | (with_reducible refine LeO.bind ?_ (fun _ => ?_))
      | exact ih0 _ _ _
      | exact gessolaw11_awake.mono _
      | exact gessolaw11_sameFields.mono _ _ _
      | exact gessoref11_Pack.mono _ _
      | exact pack_Pack.mono _ _
      | exact LeO.none _
      | refine LeO.ite ?_ ?_
      | refine LeO.bind ?_ (fun _ => ?_)
theorem gessolaw11_PackPacks.mono : ∀ a0 k, LeO (gessolaw11_PackPacks.f k a0) (gessolaw11_PackPacks.f (k + 1) a0) := by
  intro a0 k
  have ih0 := gessolaw11_PackPacks.mono_l k
  unfold gessolaw11_PackPacks.f
  repeat' first
      | (with_reducible exact ih0 _ _ _)
      | (with_reducible exact gessolaw11_awake.mono _)
      | (with_reducible exact gessolaw11_sameFields.mono _ _ _)
      | (with_reducible exact gessoref11_Pack.mono _ _)
      | (with_reducible exact pack_Pack.mono _ _)
      | (with_reducible exact LeO.refl _)
      | (with_reducible exact LeO.none _)
      | (with_reducible refine LeO.ite ?_ ?_)
      | (with_reducible refine LeO.bind ?_ (fun _ => ?_))
      | exact ih0 _ _ _
      | exact gessolaw11_awake.mono _
      | exact gessolaw11_sameFields.mono _ _ _
      | exact gessoref11_Pack.mono _ _
      | exact pack_Pack.mono _ _
      | exact LeO.none _
      | refine LeO.ite ?_ ?_
      | refine LeO.bind ?_ (fun _ => ?_)
set_option maxHeartbeats 8000000 in
set_option maxRecDepth 100000 in
theorem gessolaw11_PackPacks.calls (k : Nat) (A0 : Option Addr) (c0 : Nat) (l0 : List (List Int)) (r : Bool) (w : World) (hr0 : Kd.C (Kd.slice 5 (Kd.int .u8)) w A0 l0.length l0) (hc0 : l0.length ≤ c0) (h : gessolaw11_PackPacks.f k l0 = some r) :
    Calls Try.prog 3 #[.slice A0 l0.length c0] w fun e w' => e = .returned (.bool r) ∧ Below w.heap.size w w' := by
  have HR0 := Aside0.mk hr0
  have HC0 := Aside0.mk hc0
  clear hr0 hc0
  have HB := Aside0.mk (Below.refl w.heap.size w)
  have H : (gessolaw11_PackPacks.l0 k l0 ([] : List (List Int)) 0) = some r := h
  clear h
  have H' := Aside0.mk H
  clear H
  go_enter Try.func3, Try.ntmps3
  go_wp2
  go_loopg [3, 4] k (fun kq v3 v4 w' => ∃ (x3_1 : List (List Int)) (x4_1 : Int), v4 = .int .i64 x4_1 ∧ Aside0 (gessolaw11_PackPacks.l0 kq l0 x3_1 x4_1 = some r) ∧ Aside0 (kq ≤ k) ∧ Aside0 (Kd.S (Kd.slice 5 (Kd.int .u8)) 23 w' w.heap.size (fun _ => True) v3 x3_1) ∧ Aside0 (Below w.heap.size w w'))
  case atStart => exact ⟨(([] : List (List Int))), (0), (by first | rfl | (simp; done) | (simp [*]; done)), H', ⟨Nat.le_refl _⟩, ⟨by first | exact Kd.S_nil _ _ _ _ _ | exact Kd.N_nil _ _ _ _ _ | exact Kd.V_nil _ _ _ _ _ | exact Kd.Q_nil _ _ _ _ _ | exact Kd.R_nil _ _ _ _ _⟩, ⟨by repeat (first | (with_reducible first | exact HB.out | apply below_alloc | apply pw_below_drewN | apply below_drew1) | exact HB.out)⟩⟩
  case round =>
    clear H'
    obtain ⟨x3_1, x4_1, rfl, HA, HK1, HO_3, HB⟩ := hrel
    cases gk with
    | zero => exact absurd HA.out (by simp [gessolaw11_PackPacks.l0])
    | succ k1 =>
      have H := HA.out
      clear HA
      simp only [gessolaw11_PackPacks.l0] at H
      by_cases c2 : x4_1 < (l0.length : Int)
      · rw [if_pos c2] at H
        have c2b0 : decide (x4_1 < (l0.length : Int)) = true := decide_eq_true c2
        clear c2
        obtain ⟨y141, hy141⟩ : ∃ y_ : List Int, y_ = (([] : List Int)) := ⟨_, rfl⟩
        replace H : (if 0 ≤ x4_1 then (if y141.length + (rd_L1 l0 x4_1).length < 140737488355328 then (if x3_1.length < 5864062014805 then (gessolaw11_PackPacks.l0 k1 l0 (x3_1 ++ [(y141 ++ (rd_L1 l0 x4_1))]) (wrap64 (x4_1 + 1))) else (none)) else (none)) else (none)) = some r := by first | (rw [hy141]; with_reducible exact H) | (have H2_ := (Option.bind_some _ _).symm.trans H; rw [hy141]; with_reducible exact H2_) | (have H2_ := (Option.bind_some _ _).symm.trans H; with_reducible exact H2_) | with_reducible exact H | (rw [hy141]; exact H) | exact H
        have Ny141 := Aside0.mk hy141
        clear hy141
        by_cases c3 : 0 ≤ x4_1
        · rw [if_pos c3] at H
          have c3b0 : decide (0 ≤ x4_1) = true := decide_eq_true c3
          clear c3
          by_cases c4 : y141.length + (rd_L1 l0 x4_1).length < 140737488355328
          · rw [if_pos c4] at H
            have LMc4 := Aside0.mk c4
            clear c4
            obtain ⟨y145, hy145⟩ : ∃ y_ : List Int, y_ = (y141 ++ (rd_L1 l0 x4_1)) := ⟨_, rfl⟩
            replace H : (if x3_1.length < 5864062014805 then (gessolaw11_PackPacks.l0 k1 l0 (x3_1 ++ [y145]) (wrap64 (x4_1 + 1))) else (none)) = some r := by first | (rw [hy145]; with_reducible exact H) | (have H2_ := (Option.bind_some _ _).symm.trans H; rw [hy145]; with_reducible exact H2_) | (have H2_ := (Option.bind_some _ _).symm.trans H; with_reducible exact H2_) | with_reducible exact H | (rw [hy145]; exact H) | exact H
            have Ny145 := Aside0.mk hy145
            clear hy145
            by_cases c5 : x3_1.length < 5864062014805
            · rw [if_pos c5] at H
              have LMc5 := Aside0.mk c5
              clear c5
              obtain ⟨y148, hy148⟩ : ∃ y_ : List (List Int), y_ = (x3_1 ++ [y145]) := ⟨_, rfl⟩
              replace H : (gessolaw11_PackPacks.l0 k1 l0 y148 (wrap64 (x4_1 + 1))) = some r := by first | (rw [hy148]; with_reducible exact H) | (have H2_ := (Option.bind_some _ _).symm.trans H; rw [hy148]; with_reducible exact H2_) | (have H2_ := (Option.bind_some _ _).symm.trans H; with_reducible exact H2_) | with_reducible exact H | (rw [hy148]; exact H) | exact H
              have Ny148 := Aside0.mk hy148
              clear hy148
              have H' := Aside0.mk H
              clear H
              go_wp2_with (first | ((with_reducible refine gate_dst (N := 16) rfl ?_); refine Kd.R_lit (Kd.int .u8) _ 5 ?hg (N := 16) ?hd (xs := ([] : List Int)) (inner := []) (ok := fun _ => True) (okp := fun _ => True) ?hr ?hp (fun _ hk => hk) trivial (Below.refl _ _) (Nat.le_refl _) (by simp) ?_; (case hd => rfl); (case hg => rfl); (case hr => first | (go_simp; done) | (go_simp; rfl)); (case hp => exact (Reps.none _ _)); intro v142 w6 ho7 hb hg_ hnew_; clear hg_ hnew_; (first | rw [← Ny141.out] at ho7 | (simp only [Int.reduceToNat] at ho7; rw [← Ny141.out] at ho7)); have n0_ := Aside0.mk (Kd.S_elder' (by (with_reducible repeat (first | apply Kd.S_alloc | apply Kd.S_drewN | apply Kd.S_drew)); exact HO_3.out) (Kd.R_base ho7) hb); have n1_ := Aside0.mk (Kd.R_lower ho7 (below_size (by repeat (first | (with_reducible first | exact HB.out | apply below_alloc | apply pw_below_drewN | apply below_drew1) | exact HB.out)))); have n2_ := Aside0.mk (below_step (by repeat (first | (with_reducible first | exact HB.out | apply below_alloc | apply pw_below_drewN | apply below_drew1) | exact HB.out)) hb); clear HO_3; clear HB; have HO_3 := n0_; have HO143 := n1_; have HB := n2_; clear n0_ n1_ n2_; clear hb ho7; have p144 : 0 ≤ (x4_1 : Int) := of_decide_eq_true (by first | (with_reducible assumption) | assumption); have q144 : x4_1 < (l0.length : Int) := of_decide_eq_true (by first | (with_reducible assumption) | assumption); obtain ⟨ad144, A144_0, c144_0, e144, hx144_0, hl144_0, hi144_0⟩ := at_L1 HR0.out x4_1 p144 q144; cases e144; replace hx144_0 := (HB.out.cell (World.block_lt_of_cell? w _ hx144_0)).trans hx144_0; have HR144_0 := Aside0.mk hi144_0; have HC144_0 := Aside0.mk hl144_0; clear hi144_0 hl144_0; replace p144 := eq_true p144; replace q144 := eq_true q144) | ((with_reducible refine gate_builtin (b := .append) (xs := #[.tmp 16, .tmp 20]) rfl ?_); at_builtin; refine Kd.R_append_rows (Kd.int .u8) (w0 := w) w.heap.size rfl (.tmp 16) (.tmp 20) 23 5 (.int .u8 0) 1 rfl Try.underlying23 info5 rfl (by decide) (by omega) v142 y141 (rd_L1 l0 x4_1) _ _ _ (fun _ => True) (fun _ => False) rfl rfl ?aO ?aR (fun _ _ h => h) (fun _ h => h.elim) ?aF ?aB ?aS ?aL ?_; (case aR => repeat (first | exact (Kd.C_below HR144_0.out HB.out) | (with_reducible refine Kd.C_alloc ?_ _) | (with_reducible refine Kd.C_drewN ?_ _) | (with_reducible refine Kd.C_drew ?_))); (case aB => exact (by repeat (first | (with_reducible first | exact HB.out | apply below_alloc | apply pw_below_drewN | apply below_drew1) | exact HB.out))); (case aF => exact (fun _ _ => trivial)); (case aO => exact (by (with_reducible repeat (first | apply Kd.R_alloc | apply Kd.R_drewN | apply Kd.R_drew)); exact HO143.out)); (case aS => exact (below_size (by repeat (first | (with_reducible first | exact HB.out | apply below_alloc | apply pw_below_drewN | apply below_drew1) | exact HB.out)))); (case aL => have := LMc4.out; omega); intro v146 w8 ho hb hg hat; rw [← Ny145.out] at ho; have n0_ := Aside0.mk (Kd.S_after (ok := (fun _ => True)) (by (with_reducible repeat (first | apply Kd.S_alloc | apply Kd.S_drewN | apply Kd.S_drew)); exact HO_3.out) hg hat); have n1_ := Aside0.mk (hb); have n2_ := Aside0.mk (ho); clear HO_3; clear HB; clear HO143; have HO_3 := n0_; have HB := n1_; have HO147 := n2_; clear n0_ n1_ n2_; clear ho hb hg hat; obtain ⟨Ao10, co10, eo10⟩ := Kd.R_slice HO147.out; subst eo10) | ((with_reducible refine gate_builtin (b := .append) (xs := #[.tmp 15, .tmp 22]) rfl ?_); at_builtin; refine Kd.S_append (Kd.slice 5 (Kd.int .u8)) (w0 := w) w.heap.size rfl (.tmp 15) (.tmp 22) 22 23 (.slice none 0 0) 24 rfl Try.underlying22 info23 rfl (by decide) (by omega) u3 x3_1 y145 [.slice Ao10 y145.length co10] (fun _ => True) (fun k_ => some k_ = (.slice Ao10 y145.length co10 : Value).ownBlock) rfl rfl ?aP (fun k_ hk_ => ((Kd.R_mono (ok' := fun k_ => ((fun _ => True)) k_ ∧ some k_ ≠ (u3 : Value).ownBlock) (Kd.R_apart' (HO147.out) (Kd.S_typed HO_3.out) (by decide)) (fun k_ hk => ⟨trivial, hk.2⟩))).1 k_ hk_.symm) ?aF ?aO ?aB ?aS ?aL ?_; (case aP => exact Kd.M_row (Kd.R_mono (Kd.R_tight rfl (Kd.R_mono (ok' := fun k_ => ((fun _ => True)) k_ ∧ some k_ ≠ (u3 : Value).ownBlock) (Kd.R_apart' (HO147.out) (Kd.S_typed HO_3.out) (by decide)) (fun k_ hk => ⟨trivial, hk.2⟩))) (fun _ h_ => h_))); (case aB => exact (by repeat (first | (with_reducible first | exact HB.out | apply below_alloc | apply pw_below_drewN | apply below_drew1) | exact HB.out))); (case aF => exact (fun _ _ => trivial)); (case aO => exact (by (with_reducible repeat (first | apply Kd.S_alloc | apply Kd.S_drewN | apply Kd.S_drew)); exact Kd.S_mono HO_3.out (fun k_ hk => ⟨trivial, fun e_ => hk.2 e_⟩))); (case aS => exact (below_size (by repeat (first | (with_reducible first | exact HB.out | apply below_alloc | apply pw_below_drewN | apply below_drew1) | exact HB.out)))); (case aL => have := LMc5.out; omega); intro v149 w9 ho hb hg hat; rw [← Ny148.out] at ho; have n0_ := Aside0.mk (hb); have n1_ := Aside0.mk (ho); clear HB; clear HO_3; clear HO147; have HB := n0_; have HO150 := n1_; clear n0_ n1_; clear ho hb hg hat))
              go_roundg k1
              case measure => have := HK1.out; omega
              case rel => exact ⟨(y148), (wrap64 (x4_1 + 1)), (by first | rfl | (simp; done) | (simp [*]; done)), H', ⟨by have := HK1.out; omega⟩, ⟨by (with_reducible repeat (first | apply Kd.S_alloc | apply Kd.S_drewN | apply Kd.S_drew)); exact HO150.out⟩, ⟨by repeat (first | (with_reducible first | exact HB.out | apply below_alloc | apply pw_below_drewN | apply below_drew1) | exact HB.out)⟩⟩
            · rw [if_neg c5] at H
              exact absurd H (by simp)
          · rw [if_neg c4] at H
            exact absurd H (by simp)
        · rw [if_neg c3] at H
          exact absurd H (by simp)
      · rw [if_neg c2] at H
        have c2b0 : decide (x4_1 < (l0.length : Int)) = false := decide_eq_false c2
        clear c2
        replace H := Option.bind_eq_some_iff.mp H
        obtain ⟨⟨t151, t152⟩, A110, H⟩ := H
        replace H : ((gessoref11_Pack.f k1 l0).bind fun bt155 => (if (strOfNums t151).toList = (strOfNums bt155.1).toList then (if t152 = bt155.2 then ((gessolaw11_sameFields.f k1 x3_1 l0).bind fun t159 => (if t159 = true then ((gessolaw11_awake.f k1).bind fun t160 => (some t160)) else (none))) else (none)) else (none))) = some r := H
        have A11 := Aside0.mk A110
        clear A110
        replace H := Option.bind_eq_some_iff.mp H
        obtain ⟨⟨t155, t156⟩, A120, H⟩ := H
        replace H : (if (strOfNums t151).toList = (strOfNums t155).toList then (if t152 = t156 then ((gessolaw11_sameFields.f k1 x3_1 l0).bind fun t159 => (if t159 = true then ((gessolaw11_awake.f k1).bind fun t160 => (some t160)) else (none))) else (none)) else (none)) = some r := H
        have A12 := Aside0.mk A120
        clear A120
        by_cases c13 : (strOfNums t151).toList = (strOfNums t155).toList
        · rw [if_pos c13] at H
          have c13b0 : ((strOfNums t151).toList == (strOfNums t155).toList) = true := beq_iff_eq.mpr c13
          have c13b1 : ((strOfNums t151).toList != (strOfNums t155).toList) = false := bne_eq_false_iff_eq.mpr c13
          clear c13
          by_cases c14 : t152 = t156
          · rw [if_pos c14] at H
            have c14b0 : (t152 == t156) = true := beq_iff_eq.mpr c14
            have c14b1 : (t152 != t156) = false := bne_eq_false_iff_eq.mpr c14
            clear c14
            replace H := Option.bind_eq_some_iff.mp H
            obtain ⟨t159, A150, H⟩ := H
            replace H : (if t159 = true then ((gessolaw11_awake.f k1).bind fun t160 => (some t160)) else (none)) = some r := H
            have A15 := Aside0.mk A150
            clear A150
            by_cases c16 : t159 = true
            · subst c16
              have H1 : ((gessolaw11_awake.f k1).bind fun t160 => (some t160)) = some r := by rw [if_pos rfl] at H; exact H
              clear H
              have H := H1
              clear H1
              replace H := Option.bind_eq_some_iff.mp H
              obtain ⟨t160, A170, H⟩ := H
              replace H : (some t160) = some r := H
              have A17 := Aside0.mk A170
              clear A170
              obtain rfl := Option.some.inj H
              obtain ⟨Ao18, co18, eo18⟩ := Kd.S_slice HO_3.out
              subst eo18
              go_wp2_with (first | ((with_reducible refine gate_callee (f := 10) rfl ?_); refine goesL_ (some 26) rfl rfl Try.func10 (by kernel_rfl) rfl #[.slice Ao18 x3_1.length co18] rfl (by (try simp only [List.map_toArray, List.map_cons, List.map_nil]); first | done | rfl | (simp only [List.length_drop, List.length_take]; rfl)) ?_; (with_reducible refine (pack_Pack.calls k1 _ _ x3_1 t151 t152 _ ?side1 ?side2 A11.out).mono ?_); (case side1 => repeat (first | exact (Kd.S_reads' HO_3.out).2.2 | (with_reducible refine Kd.C_alloc ?_ _) | (with_reducible refine Kd.C_drewN ?_ _) | (with_reducible refine Kd.C_drew ?_))); (case side2 => exact (Kd.S_reads' HO_3.out).2.1); rintro e w19 ⟨v153, rfl, ho0, hb⟩; refine ⟨_, rfl, ?_⟩; have n0_ := Aside0.mk (Kd.S_elder' (by (with_reducible repeat (first | apply Kd.S_alloc | apply Kd.S_drewN | apply Kd.S_drew)); exact HO_3.out) (Kd.R_base ho0) hb); have n1_ := Aside0.mk (Kd.R_lower ho0 (below_size (by repeat (first | (with_reducible first | exact HB.out | apply below_alloc | apply pw_below_drewN | apply below_drew1) | exact HB.out)))); have n2_ := Aside0.mk (below_step (by repeat (first | (with_reducible first | exact HB.out | apply below_alloc | apply pw_below_drewN | apply below_drew1) | exact HB.out)) hb); clear HO_3; clear HB; have HO_3 := n0_; have HO154 := n1_; have HB := n2_; clear n0_ n1_ n2_; (try clear hb); (try clear hb2); (try clear hk); (try clear hi); (try clear ho0)) | ((with_reducible refine gate_callee (f := 11) rfl ?_); refine goesL_ (some 31) rfl rfl Try.func11 (by kernel_rfl) rfl #[.slice A0 l0.length c0] rfl (by (try simp only [List.map_toArray, List.map_cons, List.map_nil]); first | done | rfl | (simp only [List.length_drop, List.length_take]; rfl)) ?_; (with_reducible refine (gessoref11_Pack.calls k1 _ _ l0 t155 t156 _ ?side1 ?side2 A12.out).mono ?_); (case side1 => repeat (first | exact (Kd.C_below HR0.out HB.out) | (with_reducible refine Kd.C_alloc ?_ _) | (with_reducible refine Kd.C_drewN ?_ _) | (with_reducible refine Kd.C_drew ?_))); (case side2 => exact HC0.out); rintro e w20 ⟨v157, rfl, ho0, hb⟩; refine ⟨_, rfl, ?_⟩; have n0_ := Aside0.mk (Kd.S_elder' (by (with_reducible repeat (first | apply Kd.S_alloc | apply Kd.S_drewN | apply Kd.S_drew)); exact HO_3.out) (Kd.R_base ho0) hb); have n1_ := Aside0.mk (Kd.R_elder' (by (with_reducible repeat (first | apply Kd.R_alloc | apply Kd.R_drewN | apply Kd.R_drew)); exact HO154.out) (Kd.R_base ho0) hb); have n2_ := Aside0.mk (Kd.R_lower (Kd.R_new' ho0 (Kd.R_lt (by (with_reducible repeat (first | apply Kd.R_alloc | apply Kd.R_drewN | apply Kd.R_drew)); exact HO154.out))) (below_size (by repeat (first | (with_reducible first | exact HB.out | apply below_alloc | apply pw_below_drewN | apply below_drew1) | exact HB.out)))); have n3_ := Aside0.mk (below_step (by repeat (first | (with_reducible first | exact HB.out | apply below_alloc | apply pw_below_drewN | apply below_drew1) | exact HB.out)) hb); clear HO_3; clear HO154; clear HB; have HO_3 := n0_; have HO154 := n1_; have HO158 := n2_; have HB := n3_; clear n0_ n1_ n2_ n3_; (try clear hb); (try clear hb2); (try clear hk); (try clear hi); (try clear ho0); have hcv21 := own_string (P := Try.prog) Try.underlying23 Try.underlying5 Try.underlying9 (Kd.own_of_R HO154.out); have hcv22 := own_string (P := Try.prog) Try.underlying23 Try.underlying5 Try.underlying9 (Kd.own_of_R HO158.out)) | (go_at_call 12; (with_reducible refine (gessolaw11_sameFields.calls k1 _ _ x3_1 _ _ l0 true _ ?side1 ?side2 ?side3 ?side4 A15.out).mono ?_); (case side1 => repeat (first | exact (Kd.S_reads' HO_3.out).2.2 | (with_reducible refine Kd.C_alloc ?_ _) | (with_reducible refine Kd.C_drewN ?_ _) | (with_reducible refine Kd.C_drew ?_))); (case side2 => exact (Kd.S_reads' HO_3.out).2.1); (case side3 => repeat (first | exact (Kd.C_below HR0.out HB.out) | (with_reducible refine Kd.C_alloc ?_ _) | (with_reducible refine Kd.C_drewN ?_ _) | (with_reducible refine Kd.C_drew ?_))); (case side4 => exact HC0.out); rintro e w' ⟨rfl, ⟨nd, rfl⟩⟩) | (go_at_call 13; (with_reducible refine (gessolaw11_awake.calls k1  t160 _ A17.out).mono ?_); rintro e w23 ⟨rfl, hb⟩; have n0_ := Aside0.mk (Kd.S_below (by (with_reducible repeat (first | apply Kd.S_alloc | apply Kd.S_drewN | apply Kd.S_drew)); exact HO_3.out) hb); have n1_ := Aside0.mk (Kd.R_below (by (with_reducible repeat (first | apply Kd.R_alloc | apply Kd.R_drewN | apply Kd.R_drew)); exact HO154.out) hb); have n2_ := Aside0.mk (Kd.R_below (by (with_reducible repeat (first | apply Kd.R_alloc | apply Kd.R_drewN | apply Kd.R_drew)); exact HO158.out) hb); have n3_ := Aside0.mk (below_step (by repeat (first | (with_reducible first | exact HB.out | apply below_alloc | apply pw_below_drewN | apply below_drew1) | exact HB.out)) hb); clear HO_3; clear HO154; clear HO158; clear HB; have HO_3 := n0_; have HO154 := n1_; have HO158 := n2_; have HB := n3_; clear n0_ n1_ n2_ n3_; (try clear hb); (try clear hb2); (try clear hk); (try clear hi)))
              go_ret
              exact ⟨by first | rfl | (simp [errW_none, errW_some] <;> rfl) | (simp [*, errW_none, errW_some] <;> rfl), by repeat (first | (with_reducible first | exact HB.out | apply below_alloc | apply pw_below_drewN | apply below_drew1) | exact HB.out)⟩
            · replace c16 := Bool.eq_false_iff.mpr c16
              subst c16
              have H1 : (none) = some r := by rw [if_neg (show ¬ (false = true) by decide)] at H; exact H
              clear H
              have H := H1
              clear H1
              exact absurd H (by simp)
          · rw [if_neg c14] at H
            exact absurd H (by simp)
        · rw [if_neg c13] at H
          exact absurd H (by simp)

end Go.Proofs.Ytejbkjbldmaodaa.P
