/- The contract of the function gessoref11_Pack: its calls come to the Lean function beside it. No condition. -/
import Derived.Test.YtejbkjbldmaodaaPx0
namespace Go.Proofs.Ytejbkjbldmaodaa.P
open Go.RowKit Go.Proofs.YtejbkjbldmaodaaW.PrintWords Go.Proofs.YtejbkjbldmaodaaW.PrintLast Go.Proofs.YtejbkjbldmaodaaW.PrintMore
attribute [local go_sem] max2_int min2_int max_two min_two max_three min_three max_four min_four   -- for this text's walks alone
set_option linter.unusedVariables false
set_option linter.unusedSimpArgs false

/-! ### gessoref11_Pack: function 11 -/
def gessoref11_Pack.l0 : Nat → List (List Int) → List Int → Int → Option (List Int × Int)
  | 0, _, _, _ => none
  | k + 1, x0, x4, x5 => if x5 < (x0.length : Int) then (if 0 ≤ x5 then (if ((rd_L1 x0 x5).length : Int) > 1024 then (some (([] : List Int), 5)) else ((some (([IntKind.u8.wrap (wrap64 (((rd_L1 x0 x5).length : Int) / 256)), IntKind.u8.wrap (Int.tmod ((rd_L1 x0 x5).length : Int) 256)] : List Int) : List Int)).bind fun y113 => (if x4.length + y113.length < 140737488355328 then ((some (x4 ++ y113 : List Int)).bind fun y116 => (if y116.length + (rd_L1 x0 x5).length < 140737488355328 then (gessoref11_Pack.l0 k x0 (y116 ++ (rd_L1 x0 x5)) (wrap64 (x5 + 1))) else (none))) else (none)))) else (none)) else (some (x4, 0))
def gessoref11_Pack.f (k : Nat) (l0 : List (List Int)) : Option (List Int × Int) := gessoref11_Pack.l0 k l0 ([] : List Int) 0
theorem gessoref11_Pack.mono_l : ∀ k, (∀ y0 y1 y2, LeO (gessoref11_Pack.l0 k y0 y1 y2) (gessoref11_Pack.l0 (k + 1) y0 y1 y2))
  | 0 => fun _ _ _ r h => by simp [gessoref11_Pack.l0] at h
  | k + 1 => by
    have ih0 := gessoref11_Pack.mono_l k
    · intro y0 y1 y2
      unfold gessoref11_Pack.l0
      repeat' first
      | (with_reducible exact ih0 _ _ _)
      | (with_reducible exact LeO.refl _)
      | (with_reducible exact LeO.none _)
      | (with_reducible refine LeO.ite ?_ ?_)
      | (with_reducible refine LeO.bind ?_ (fun _ => ?_))
      | exact ih0 _ _ _
      | exact LeO.none _
      | refine LeO.ite ?_ ?_
      | refine LeO.bind ?_ (fun _ => ?_)
theorem gessoref11_Pack.mono : ∀ a0 k, LeO (gessoref11_Pack.f k a0) (gessoref11_Pack.f (k + 1) a0) := by
  intro a0 k
  have ih0 := gessoref11_Pack.mono_l k
  unfold gessoref11_Pack.f
  repeat' first
      | (with_reducible exact ih0 _ _ _)
      | (with_reducible exact LeO.refl _)
      | (with_reducible exact LeO.none _)
      | (with_reducible refine LeO.ite ?_ ?_)
      | (with_reducible refine LeO.bind ?_ (fun _ => ?_))
      | exact ih0 _ _ _
      | exact LeO.none _
      | refine LeO.ite ?_ ?_
      | refine LeO.bind ?_ (fun _ => ?_)
def gessoref11_Pack.T8 : Bool × List (List Nat × List Nat) := (true, [([], []), ([], []), ([1], [1]), ([2], [2]), ([], []), ([4], [4]), ([5], [5]), ([3, 6], [3, 6]), ([0, 7], [0, 7]), ([], []), ([], []), ([9, 10], [9, 10]), ([11], [11]), ([8, 12, 8], [8, 12]), ([13, 13, 0, 1, 2, 3, 4, 5, 6, 7, 8, 9, 10, 11, 12, 13], [0, 13])])
def gessoref11_Pack.B8 : List Nat := [0, 0, 2, 6, 0, 16, 48, 126, 255, 0, 0, 1536, 3584, 8191, 16383]
theorem gessoref11_Pack.tab8 : rtab .any (opsOf Try.f11 8) = gessoref11_Pack.T8 := by kernel_rfl
theorem gessoref11_Pack.bits8 : waitsOk gessoref11_Pack.T8.2 gessoref11_Pack.B8 = true := by kernel_rfl
set_option maxHeartbeats 8000000 in
set_option maxRecDepth 100000 in
theorem gessoref11_Pack.calls (k : Nat) (A0 : Option Addr) (c0 : Nat) (l0 : List (List Int)) (r1 : List Int) (r2 : Int) (w : World) (hr0 : Kd.C (Kd.slice 5 (Kd.int .u8)) w A0 l0.length l0) (hc0 : l0.length ≤ c0) (h : gessoref11_Pack.f k l0 = some (r1, r2)) :
    Calls Try.prog 11 #[.slice A0 l0.length c0] w fun e w' => ∃ v0_ : Value, e = .returned (.tuple #[v0_, .int .i64 r2]) ∧ Kd.R (Kd.int .u8) 5 w' w.heap.size (fun _ => True) v0_ r1 ∧ Below w.heap.size w w' := by
  have HR0 := Aside0.mk hr0
  have HC0 := Aside0.mk hc0
  clear hr0 hc0
  have HB := Aside0.mk (Below.refl w.heap.size w)
  have H : (gessoref11_Pack.l0 k l0 ([] : List Int) 0) = some (r1, r2) := h
  clear h
  have H' := Aside0.mk H
  clear H
  go_enter Try.func11, Try.ntmps11
  go_wp2
  go_loopg [4, 5] k (fun kq v4 v5 w' => ∃ (x4_1 : List Int) (x5_1 : Int), v5 = .int .i64 x5_1 ∧ Aside0 (gessoref11_Pack.l0 kq l0 x4_1 x5_1 = some (r1, r2)) ∧ Aside0 (kq ≤ k) ∧ Aside0 (Kd.R (Kd.int .u8) 5 w' w.heap.size (fun _ => True) v4 x4_1) ∧ Aside0 (Below w.heap.size w w'))
  case atStart => exact ⟨(([] : List Int)), (0), (by first | rfl | (simp; done) | (simp [*]; done)), H', ⟨Nat.le_refl _⟩, ⟨by first | exact Kd.R_nil _ _ _ _ _ | exact Kd.N_nil _ _ _ _ _ | exact Kd.V_nil _ _ _ _ _ | exact Kd.Q_nil _ _ _ _ _ | exact Kd.S_nil _ _ _ _ _⟩, ⟨by repeat (first | (with_reducible first | exact HB.out | apply below_alloc | apply pw_below_drewN | apply below_drew1) | exact HB.out)⟩⟩
  case round =>
    clear H'
    try clear c1
    obtain ⟨x4_1, x5_1, rfl, HA, HK1, HO_4, HB⟩ := hrel
    cases gk with
    | zero => exact absurd HA.out (by simp [gessoref11_Pack.l0])
    | succ k1 =>
      have H := HA.out
      clear HA
      simp only [gessoref11_Pack.l0] at H
      by_cases c2 : x5_1 < (l0.length : Int)
      · rw [if_pos c2] at H
        have c2b0 : decide (x5_1 < (l0.length : Int)) = true := decide_eq_true c2
        clear c2
        by_cases c3 : 0 ≤ x5_1
        · rw [if_pos c3] at H
          have c3b0 : decide (0 ≤ x5_1) = true := decide_eq_true c3
          clear c3
          by_cases c4 : ((rd_L1 l0 x5_1).length : Int) > 1024
          · rw [if_pos c4] at H
            have c4b0 : decide (1024 < ((rd_L1 l0 x5_1).length : Int)) = true := decide_eq_true c4
            have c4b1 : decide (1024 < (rd_L1 l0 x5_1).length) = true := decide_eq_true (by omega)
            clear c4
            simp only [Option.some.injEq, Prod.mk.injEq] at H
            obtain ⟨rfl, rfl⟩ := H
            have p112 : 0 ≤ (x5_1 : Int) := of_decide_eq_true (by first | (with_reducible assumption) | assumption)
            have q112 : x5_1 < (l0.length : Int) := of_decide_eq_true (by first | (with_reducible assumption) | assumption)
            obtain ⟨ad112, A112_0, c112_0, e112, hx112_0, hl112_0, hi112_0⟩ := at_L1 HR0.out x5_1 p112 q112
            cases e112
            replace hx112_0 := (HB.out.cell (World.block_lt_of_cell? w _ hx112_0)).trans hx112_0
            have HR112_0 := Aside0.mk hi112_0
            have HC112_0 := Aside0.mk hl112_0
            clear hi112_0 hl112_0
            replace p112 := eq_true p112
            replace q112 := eq_true q112
            go_wp2
            go_ret2
            exact ⟨_, by first | rfl | (simp [errW_none, errW_some] <;> rfl) | (simp [*, errW_none, errW_some] <;> rfl), by first | exact Kd.R_nil _ _ _ _ _ | exact Kd.N_nil _ _ _ _ _ | exact Kd.V_nil _ _ _ _ _ | exact Kd.Q_nil _ _ _ _ _ | exact Kd.S_nil _ _ _ _ _, by repeat (first | (with_reducible first | exact HB.out | apply below_alloc | apply pw_below_drewN | apply below_drew1) | exact HB.out)⟩
          · rw [if_neg c4] at H
            have c4b0 : decide (1024 < ((rd_L1 l0 x5_1).length : Int)) = false := decide_eq_false c4
            have c4b1 : decide (1024 < (rd_L1 l0 x5_1).length) = false := decide_eq_false (by omega)
            clear c4
            obtain ⟨y113, hy113⟩ : ∃ y_ : List Int, y_ = (([IntKind.u8.wrap (wrap64 (((rd_L1 l0 x5_1).length : Int) / 256)), IntKind.u8.wrap (Int.tmod ((rd_L1 l0 x5_1).length : Int) 256)] : List Int)) := ⟨_, rfl⟩
            replace H : (if x4_1.length + y113.length < 140737488355328 then ((some (x4_1 ++ y113 : List Int)).bind fun y116 => (if y116.length + (rd_L1 l0 x5_1).length < 140737488355328 then (gessoref11_Pack.l0 k1 l0 (y116 ++ (rd_L1 l0 x5_1)) (wrap64 (x5_1 + 1))) else (none))) else (none)) = some (r1, r2) := by first | (rw [hy113]; with_reducible exact H) | (have H2_ := (Option.bind_some _ _).symm.trans H; rw [hy113]; with_reducible exact H2_) | (have H2_ := (Option.bind_some _ _).symm.trans H; with_reducible exact H2_) | with_reducible exact H | (rw [hy113]; exact H) | exact H
            have Ny113 := Aside0.mk hy113
            clear hy113
            by_cases c5 : x4_1.length + y113.length < 140737488355328
            · rw [if_pos c5] at H
              have LMc5 := Aside0.mk c5
              clear c5
              obtain ⟨y116, hy116⟩ : ∃ y_ : List Int, y_ = (x4_1 ++ y113) := ⟨_, rfl⟩
              replace H : (if y116.length + (rd_L1 l0 x5_1).length < 140737488355328 then (gessoref11_Pack.l0 k1 l0 (y116 ++ (rd_L1 l0 x5_1)) (wrap64 (x5_1 + 1))) else (none)) = some (r1, r2) := by first | (rw [hy116]; with_reducible exact H) | (have H2_ := (Option.bind_some _ _).symm.trans H; rw [hy116]; with_reducible exact H2_) | (have H2_ := (Option.bind_some _ _).symm.trans H; with_reducible exact H2_) | with_reducible exact H | (rw [hy116]; exact H) | exact H
              have Ny116 := Aside0.mk hy116
              clear hy116
              by_cases c6 : y116.length + (rd_L1 l0 x5_1).length < 140737488355328
              · rw [if_pos c6] at H
                have LMc6 := Aside0.mk c6
                clear c6
                obtain ⟨y120, hy120⟩ : ∃ y_ : List Int, y_ = (y116 ++ (rd_L1 l0 x5_1)) := ⟨_, rfl⟩
                replace H : (gessoref11_Pack.l0 k1 l0 y120 (wrap64 (x5_1 + 1))) = some (r1, r2) := by first | (rw [hy120]; with_reducible exact H) | (have H2_ := (Option.bind_some _ _).symm.trans H; rw [hy120]; with_reducible exact H2_) | (have H2_ := (Option.bind_some _ _).symm.trans H; with_reducible exact H2_) | with_reducible exact H | (rw [hy120]; exact H) | exact H
                have Ny120 := Aside0.mk hy120
                clear hy120
                have H' := Aside0.mk H
                clear H
                have p112 : 0 ≤ (x5_1 : Int) := of_decide_eq_true (by first | (with_reducible assumption) | assumption)
                have q112 : x5_1 < (l0.length : Int) := of_decide_eq_true (by first | (with_reducible assumption) | assumption)
                obtain ⟨ad112, A112_0, c112_0, e112, hx112_0, hl112_0, hi112_0⟩ := at_L1 HR0.out x5_1 p112 q112
                cases e112
                replace hx112_0 := (HB.out.cell (World.block_lt_of_cell? w _ hx112_0)).trans hx112_0
                have HR112_0 := Aside0.mk hi112_0
                have HC112_0 := Aside0.mk hl112_0
                clear hi112_0 hl112_0
                replace p112 := eq_true p112
                replace q112 := eq_true q112
                try go_wp2
                have n0_ := Aside0.mk (Kd.R_drew HO_4.out)
                have n1_ := Aside0.mk (below_drew1 HB.out)
                clear HO_4
                clear HB
                have HO_4 := n0_
                have HB := n1_
                clear n0_ n1_
                have p119 : 0 ≤ (x5_1 : Int) := of_decide_eq_true (by first | (with_reducible assumption) | assumption)
                have q119 : x5_1 < (l0.length : Int) := of_decide_eq_true (by first | (with_reducible assumption) | assumption)
                obtain ⟨ad119, A119_0, c119_0, e119, hx119_0, hl119_0, hi119_0⟩ := at_L1 HR0.out x5_1 p119 q119
                have hw119_0 := hx119_0
                obtain rfl : ad112 = ad119 := (by injection e119)
                replace hx119_0 := (HB.out.cell (World.block_lt_of_cell? w _ hx119_0)).trans hx119_0
                have HR119_0 := Aside0.mk hi119_0
                have HC119_0 := Aside0.mk hl119_0
                clear hi119_0 hl119_0
                replace p119 := eq_true p119
                replace q119 := eq_true q119
                refine start_ (n := 15) (S := fun w' => w'.cell? (ad112.add (x5_1).toNat) = some (.slice A119_0 (rd_L1 l0 x5_1).length c119_0)) (ds := []) #[false, false, false, false, false, false, false, false, false, false, false, false, false, false, false] (by kernel_rfl) rfl rfl (((HB.out.cell (World.block_lt_of_cell? w _ hw119_0)).trans hw119_0)) (fun hHeld => ?_); refine with_tabW gessoref11_Pack.tab8 gessoref11_Pack.bits8 (fun HT_ HW_ => ?_)
                generalize wr.drew = w7 at HO_4 HB HR119_0 hx119_0 hHeld ⊢
                refine pure_ (i := 0) (N := some 20) (v := ?_) (a' := ?_) #[true, false, false, false, false, false, false, false, false, false, false, false, false, false, false] rfl rfl (any_of HT_.out (by kernel_rfl)) (fun _ _ _ h => h) (Or.inl ⟨by rfl, ?_⟩) ?_ ?_
                rotate_left
                · intro w'
                  go_simp
                  with_reducible rfl
                rotate_left
                · simp only [Act.put, List.setIfInBounds_toArray, List.set_cons_zero, List.set_cons_succ, i64_w, i32_w]
                  rfl
                refine pure_ (i := 1) (N := some 21) (v := ?_) (a' := ?_) #[true, true, false, false, false, false, false, false, false, false, false, false, false, false, false] rfl rfl (any_of HT_.out (by kernel_rfl)) (fun _ _ _ h => h) (Or.inl ⟨by rfl, ?_⟩) ?_ ?_
                rotate_left
                · intro w'
                  go_simp
                  with_reducible rfl
                rotate_left
                · simp only [Act.put, List.setIfInBounds_toArray, List.set_cons_zero, List.set_cons_succ, i64_w, i32_w]
                  rfl
                refine pure_ (i := 2) (N := some 22) (v := ?_) (a' := ?_) #[true, true, true, false, false, false, false, false, false, false, false, false, false, false, false] rfl rfl (any_of HT_.out (by kernel_rfl)) (fun _ _ _ h => h) (Or.inl ⟨by rfl, ?_⟩) ?_ ?_
                rotate_left
                · intro w'
                  go_simp
                  with_reducible rfl
                rotate_left
                · simp only [Act.put, List.setIfInBounds_toArray, List.set_cons_zero, List.set_cons_succ, i64_w, i32_w]
                  rfl
                refine pure_ (i := 3) (N := some 23) (v := ?_) (a' := ?_) #[true, true, true, true, false, false, false, false, false, false, false, false, false, false, false] rfl rfl (any_of HT_.out (by kernel_rfl)) (fun _ _ _ h => h) (Or.inl ⟨by rfl, ?_⟩) ?_ ?_
                rotate_left
                · intro w'
                  go_simp
                  with_reducible rfl
                rotate_left
                · simp only [Act.put, List.setIfInBounds_toArray, List.set_cons_zero, List.set_cons_succ, i64_w, i32_w]
                  rfl
                refine pure_ (i := 4) (N := some 24) (v := ?_) (a' := ?_) #[true, true, true, true, true, false, false, false, false, false, false, false, false, false, false] rfl rfl (any_of HT_.out (by kernel_rfl)) (fun _ _ _ h => h) (Or.inl ⟨by rfl, ?_⟩) ?_ ?_
                rotate_left
                · intro w'
                  go_simp
                  with_reducible rfl
                rotate_left
                · simp only [Act.put, List.setIfInBounds_toArray, List.set_cons_zero, List.set_cons_succ, i64_w, i32_w]
                  rfl
                refine pure_ (i := 5) (N := some 25) (v := ?_) (a' := ?_) #[true, true, true, true, true, true, false, false, false, false, false, false, false, false, false] rfl rfl (any_of HT_.out (by kernel_rfl)) (fun _ _ _ h => h) (Or.inl ⟨by rfl, ?_⟩) ?_ ?_
                rotate_left
                · intro w'
                  go_simp
                  with_reducible rfl
                rotate_left
                · simp only [Act.put, List.setIfInBounds_toArray, List.set_cons_zero, List.set_cons_succ, i64_w, i32_w]
                  rfl
                refine pure_ (i := 6) (N := some 26) (v := ?_) (a' := ?_) #[true, true, true, true, true, true, true, false, false, false, false, false, false, false, false] rfl rfl (any_of HT_.out (by kernel_rfl)) (fun _ _ _ h => h) (Or.inl ⟨by rfl, ?_⟩) ?_ ?_
                rotate_left
                · intro w'
                  go_simp
                  with_reducible rfl
                rotate_left
                · simp only [Act.put, List.setIfInBounds_toArray, List.set_cons_zero, List.set_cons_succ, i64_w, i32_w]
                  rfl
                refine pure_ (i := 9) (N := some 29) (v := ?_) (a' := ?_) #[true, true, true, true, true, true, true, false, false, true, false, false, false, false, false] rfl rfl (any_of HT_.out (by kernel_rfl)) (fun _ _ _ h => h) (Or.inl ⟨by rfl, ?_⟩) ?_ ?_
                rotate_left
                · intro w'
                  go_simp
                  with_reducible rfl
                rotate_left
                · simp only [Act.put, List.setIfInBounds_toArray, List.set_cons_zero, List.set_cons_succ, i64_w, i32_w]
                  rfl
                refine pure_ (i := 10) (N := some 30) (v := ?_) (a' := ?_) #[true, true, true, true, true, true, true, false, false, true, true, false, false, false, false] rfl rfl (any_of HT_.out (by kernel_rfl)) (fun _ _ _ h => h) (Or.inl ⟨by rfl, ?_⟩) ?_ ?_
                rotate_left
                · intro w'
                  go_simp
                  with_reducible rfl
                rotate_left
                · simp only [Act.put, List.setIfInBounds_toArray, List.set_cons_zero, List.set_cons_succ, i64_w, i32_w]
                  rfl
                refine pure_ (i := 11) (N := some 31) (v := ?_) (a' := ?_) #[true, true, true, true, true, true, true, false, false, true, true, true, false, false, false] rfl rfl (any_of HT_.out (by kernel_rfl)) (fun _ _ _ h => h) (Or.inl ⟨by rfl, ?_⟩) ?_ ?_
                rotate_left
                · intro w'
                  go_simp
                  with_reducible rfl
                rotate_left
                · simp only [Act.put, List.setIfInBounds_toArray, List.set_cons_zero, List.set_cons_succ, i64_w, i32_w]
                  rfl
                refine take_ (i := 12) (N := some 32) (v := ?_) (a' := ?_) #[true, true, true, true, true, true, true, false, false, true, true, true, true, false, false] rfl rfl (take_ofW HT_.out HW_.out (by kernel_rfl)) (fun _ _ _ h => h) (Or.inl ⟨by rfl, ?_⟩) hHeld ?_ ?_
                rotate_left
                · intro w' s0
                  go_simp
                  with_reducible rfl
                rotate_left
                · simp only [Act.put, List.setIfInBounds_toArray, List.set_cons_zero, List.set_cons_succ, i64_w, i32_w]
                  rfl
                refine one_ (i := 7) (N := some 27) #[true, true, true, true, true, true, true, true, false, true, true, true, true, false, false] rfl rfl (one_of HT_.out (by kernel_rfl)) (by decide) (fun K hK => ?_)
                refine Kd.R_lit_step (Kd.int .u8) _ 5 ?hg (N := 27) ?hd (xs := ([IntKind.u8.wrap (wrap64 (((rd_L1 l0 x5_1).length : Int) / 256)), IntKind.u8.wrap (Int.tmod ((rd_L1 l0 x5_1).length : Int) 256)] : List Int)) (inner := [.int .u8 (IntKind.u8.wrap (wrap64 (((rd_L1 l0 x5_1).length : Int) / 256))), .int .u8 (IntKind.u8.wrap (Int.tmod ((rd_L1 l0 x5_1).length : Int) 256))]) (ok := fun _ => True) (okp := fun _ => True) ?hr ?hp (fun _ hk => hk) trivial (Below.refl _ _) (Nat.le_refl _) (by simp) ?_; (case hd => rfl); (case hg => rfl); (case hr => first | (go_simp; done) | (go_simp; rfl)); (case hp => exact (Reps.one (show Kd.M (Kd.int .u8) _ _ _ (IntKind.u8.wrap (wrap64 (((rd_L1 l0 x5_1).length : Int) / 256))) [.int .u8 (IntKind.u8.wrap (wrap64 (((rd_L1 l0 x5_1).length : Int) / 256)))] from rfl) (Reps.one (show Kd.M (Kd.int .u8) _ _ _ (IntKind.u8.wrap (Int.tmod ((rd_L1 l0 x5_1).length : Int) 256)) [.int .u8 (IntKind.u8.wrap (Int.tmod ((rd_L1 l0 x5_1).length : Int) 256))] from rfl) (Reps.none _ _))))
                intro v114 w8 ho9 hb hg_ hnew_
                clear hg_ hnew_
                (first | rw [← Ny113.out] at ho9 | (simp only [Int.reduceToNat] at ho9; rw [← Ny113.out] at ho9))
                have n0_ := Aside0.mk (Kd.R_elder' (by (with_reducible repeat (first | apply Kd.R_alloc | apply Kd.R_drewN | apply Kd.R_drew)); exact HO_4.out) (Kd.R_base ho9) hb)
                have n1_ := Aside0.mk (Kd.R_lower (Kd.R_new' ho9 (Kd.R_lt (by (with_reducible repeat (first | apply Kd.R_alloc | apply Kd.R_drewN | apply Kd.R_drew)); exact HO_4.out))) (below_size (by repeat (first | (with_reducible first | exact HB.out | apply below_alloc | apply pw_below_drewN | apply below_drew1) | exact HB.out))))
                have n2_ := Aside0.mk (below_step (by repeat (first | (with_reducible first | exact HB.out | apply below_alloc | apply pw_below_drewN | apply below_drew1) | exact HB.out)) hb)
                clear HO_4
                clear HB
                have HO_4 := n0_
                have HO115 := n1_
                have HB := n2_
                clear n0_ n1_ n2_
                clear hb ho9
                obtain ⟨Ao11, co11, eo11⟩ := Kd.R_slice HO115.out
                (first | subst eo11 | (injection eo11 with f1_ f2_ f3_; have f4_ := f1_.symm; have f5_ := f3_.symm; clear f1_ f2_ f3_; subst f4_; subst f5_))
                refine hK.out _ _ (((HB.out.cell (World.block_lt_of_cell? w _ hw119_0)).trans hw119_0)) (fun hHeld => ?_)
                clear hK K
                refine norm_ (a' := ?_) ?_ ?_
                rotate_left
                · show Act.put _ (some 27) _ = _
                  simp only [Act.put, List.setIfInBounds_toArray, List.set_cons_zero, List.set_cons_succ, i64_w, i32_w]
                  rfl
                refine one_ (i := 8) (N := some 28) #[true, true, true, true, true, true, true, true, true, true, true, true, true, false, false] rfl rfl (one_of HT_.out (by kernel_rfl)) (by decide) (fun K hK => ?_)
                refine Kd.R_append_rows_step (Kd.int .u8) (w0 := w) w.heap.size (by rfl) (.tmp 20) (.tmp 27) 23 5 (.int .u8 0) 1 rfl Try.underlying23 info5 rfl (by decide) (by omega) u4 x4_1 y113 _ _ _ (fun k_ => some k_ ≠ (.slice Ao11 y113.length co11 : Value).ownBlock) (fun _ => False) rfl rfl ?aO ?aR (fun _ _ h => h) (fun _ h => h.elim) ?aF ?aB ?aS ?aL ?_
                (case aR => repeat (first | exact (Kd.R_reads' HO115.out).2.2 | (with_reducible refine Kd.C_alloc ?_ _) | (with_reducible refine Kd.C_drewN ?_ _) | (with_reducible refine Kd.C_drew ?_)))
                (case aB => exact (by repeat (first | (with_reducible first | exact HB.out | apply below_alloc | apply pw_below_drewN | apply below_drew1) | exact HB.out)))
                (case aF => exact (fun k_ hk => Kd.fresh' (Kd.R_lt (by (with_reducible repeat (first | apply Kd.R_alloc | apply Kd.R_drewN | apply Kd.R_drew)); exact HO115.out)) k_ hk))
                (case aO => exact (by (with_reducible repeat (first | apply Kd.R_alloc | apply Kd.R_drewN | apply Kd.R_drew)); exact Kd.R_mono HO_4.out (fun _ hk => hk.2)))
                (case aS => exact (below_size (by repeat (first | (with_reducible first | exact HB.out | apply below_alloc | apply pw_below_drewN | apply below_drew1) | exact HB.out))))
                (case aL => have := LMc5.out; omega)
                intro v117 w10 ho hb hg hat
                rw [← Ny116.out] at ho
                have n0_ := Aside0.mk (Kd.R_after (ok := (fun _ => True)) (by (with_reducible repeat (first | apply Kd.R_alloc | apply Kd.R_drewN | apply Kd.R_drew)); exact HO115.out) hg hat)
                have n1_ := Aside0.mk (hb)
                have n2_ := Aside0.mk (ho)
                clear HO115
                clear HB
                clear HO_4
                have HO115 := n0_
                have HB := n1_
                have HO118 := n2_
                clear n0_ n1_ n2_
                clear ho hb hg hat
                refine hK.out _ _ (((HB.out.cell (World.block_lt_of_cell? w _ hw119_0)).trans hw119_0)) (fun hHeld => ?_)
                clear hK K
                refine norm_ (a' := ?_) ?_ ?_
                rotate_left
                · show Act.put _ (some 28) _ = _
                  simp only [Act.put, List.setIfInBounds_toArray, List.set_cons_zero, List.set_cons_succ, i64_w, i32_w]
                  rfl
                refine one_ (i := 13) (N := some 33) #[true, true, true, true, true, true, true, true, true, true, true, true, true, true, false] rfl rfl (one_of HT_.out (by kernel_rfl)) (by decide) (fun K hK => ?_)
                refine Kd.R_append_rows_step (Kd.int .u8) (w0 := w) w.heap.size (by rfl) (.tmp 28) (.tmp 32) 23 5 (.int .u8 0) 1 rfl Try.underlying23 info5 rfl (by decide) (by omega) v117 y116 (rd_L1 l0 x5_1) _ _ _ (fun k_ => some k_ ≠ (.slice Ao11 y113.length co11 : Value).ownBlock) (fun _ => False) rfl rfl ?aO ?aR (fun _ _ h => h) (fun _ h => h.elim) ?aF ?aB ?aS ?aL ?_
                (case aR => repeat (first | exact (Kd.C_below HR119_0.out HB.out) | (with_reducible refine Kd.C_alloc ?_ _) | (with_reducible refine Kd.C_drewN ?_ _) | (with_reducible refine Kd.C_drew ?_)))
                (case aB => exact (by repeat (first | (with_reducible first | exact HB.out | apply below_alloc | apply pw_below_drewN | apply below_drew1) | exact HB.out)))
                (case aF => exact (fun k_ hk => Kd.fresh' (Kd.R_lt (by (with_reducible repeat (first | apply Kd.R_alloc | apply Kd.R_drewN | apply Kd.R_drew)); exact HO115.out)) k_ hk))
                (case aO => exact (by (with_reducible repeat (first | apply Kd.R_alloc | apply Kd.R_drewN | apply Kd.R_drew)); exact HO118.out))
                (case aS => exact (below_size (by repeat (first | (with_reducible first | exact HB.out | apply below_alloc | apply pw_below_drewN | apply below_drew1) | exact HB.out))))
                (case aL => have := LMc6.out; omega)
                intro v121 w12 ho hb hg hat
                rw [← Ny120.out] at ho
                have n0_ := Aside0.mk (Kd.R_after (ok := (fun _ => True)) (by (with_reducible repeat (first | apply Kd.R_alloc | apply Kd.R_drewN | apply Kd.R_drew)); exact HO115.out) hg hat)
                have n1_ := Aside0.mk (hb)
                have n2_ := Aside0.mk (ho)
                clear HO115
                clear HB
                clear HO118
                have HO115 := n0_
                have HB := n1_
                have HO122 := n2_
                clear n0_ n1_ n2_
                clear ho hb hg hat
                refine hK.out _ _ (((HB.out.cell (World.block_lt_of_cell? w _ hw119_0)).trans hw119_0)) (fun hHeld => ?_)
                clear hK K
                refine norm_ (a' := ?_) ?_ ?_
                rotate_left
                · show Act.put _ (some 33) _ = _
                  simp only [Act.put, List.setIfInBounds_toArray, List.set_cons_zero, List.set_cons_succ, i64_w, i32_w]
                  rfl
                refine pure_ (i := 14) (N := some 4) (v := ?_) (a' := ?_) #[true, true, true, true, true, true, true, true, true, true, true, true, true, true, true] rfl rfl (any_of HT_.out (by kernel_rfl)) (fun _ _ _ h => h) (Or.inl ⟨by rfl, ?_⟩) ?_ ?_
                rotate_left
                · intro w'
                  go_simp
                  with_reducible rfl
                rotate_left
                · simp only [Act.put, List.setIfInBounds_toArray, List.set_cons_zero, List.set_cons_succ, i64_w, i32_w]
                  rfl
                refine done_ (done_of HT_.out (by kernel_rfl)) ?_
                try go_wp2
                go_roundg k1
                case measure => have := HK1.out; omega
                case rel => exact ⟨(y120), (wrap64 (x5_1 + 1)), (by first | rfl | (simp; done) | (simp [*]; done)), H', ⟨by have := HK1.out; omega⟩, ⟨by (with_reducible repeat (first | apply Kd.R_alloc | apply Kd.R_drewN | apply Kd.R_drew)); exact Kd.R_mono HO122.out (fun _ hk => trivial)⟩, ⟨by repeat (first | (with_reducible first | exact HB.out | apply below_alloc | apply pw_below_drewN | apply below_drew1) | exact HB.out)⟩⟩
              · rw [if_neg c6] at H
                exact absurd H (by simp)
            · rw [if_neg c5] at H
              exact absurd H (by simp)
        · rw [if_neg c3] at H
          exact absurd H (by simp)
      · rw [if_neg c2] at H
        have c2b0 : decide (x5_1 < (l0.length : Int)) = false := decide_eq_false c2
        clear c2
        simp only [Option.some.injEq, Prod.mk.injEq] at H
        obtain ⟨rfl, rfl⟩ := H
        go_wp2
        go_ret2
        exact ⟨_, by first | rfl | (simp [errW_none, errW_some] <;> rfl) | (simp [*, errW_none, errW_some] <;> rfl), by (with_reducible repeat (first | apply Kd.R_alloc | apply Kd.R_drewN | apply Kd.R_drew)); exact HO_4.out, by repeat (first | (with_reducible first | exact HB.out | apply below_alloc | apply pw_below_drewN | apply below_drew1) | exact HB.out)⟩

end Go.Proofs.Ytejbkjbldmaodaa.P
