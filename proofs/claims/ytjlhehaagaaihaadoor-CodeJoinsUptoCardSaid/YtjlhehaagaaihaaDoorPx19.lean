/- Functions of the translated program as plain Lean functions, and proofs that their calls come to these. Written by a program of the session. No condition. -/
import Derived.Test.YtjlhehaagaaihaaDoorPx0
import Derived.Test.YtjlhehaagaaihaaDoorPx8
import Derived.Test.YtjlhehaagaaihaaDoorPx11
namespace Go.Proofs.YtjlhehaagaaihaaDoor.P
open Go.RowKit Go.Proofs.YtjlhehaagaaihaaDoorW.PrintWords Go.Proofs.YtjlhehaagaaihaaDoorW.PrintLast Go.Proofs.YtjlhehaagaaihaaDoorW.PrintMore
attribute [local go_sem] max2_int min2_int max_two min_two max_three min_three max_four min_four   -- for this text's walks alone
set_option linter.unusedVariables false
set_option linter.unusedSimpArgs false

/-! ### gessolaw01_CodeJoins: function 6 -/
def gessolaw01_CodeJoins.j0 : Nat → List Int → Int → Int → Int → Bool → Option (Bool)
  | 0, _, _, _, _, _ => none
  | k + 1, x0, x5, x6, x8, x20 => if x20 = true then (if x8 = (-1) then ((gessolaw01_awake.f k).bind fun t241 => (some t241)) else (none)) else (if x5 < 0 then (if x8 = (wrap64 ((x0.length : Int) + x6)) then ((gessolaw01_awake.f k).bind fun t242 => (some t242)) else (none)) else (if x8 ≥ x5 then ((gessolaw01_awake.f k).bind fun t243 => (some t243)) else (if x8 = (-1) then ((gessolaw01_awake.f k).bind fun t244 => (some t244)) else (none))))
def gessolaw01_CodeJoins.f (k : Nat) (l0 : List Int) (l1 : List Int) : Option (Bool) := (code_Fault.f k l0).bind fun t229 => ((code_Fault.f k l1).bind fun t230 => ((some (([] : List Int) : List Int)).bind fun y231 => (if y231.length + l0.length < 140737488355328 then ((some (y231 ++ l0 : List Int)).bind fun y234 => (if y234.length + l1.length < 140737488355328 then ((code_Fault.f k (y234 ++ l1)).bind fun t240 => (if t229 < 0 then (gessolaw01_CodeJoins.j0 k l0 t229 t230 t240 (decide (t230 < 0))) else (gessolaw01_CodeJoins.j0 k l0 t229 t230 t240 false))) else (none))) else (none))))
theorem gessolaw01_CodeJoins.mono_l : ∀ k, (∀ y0 y1 y2 y3 y4, LeO (gessolaw01_CodeJoins.j0 k y0 y1 y2 y3 y4) (gessolaw01_CodeJoins.j0 (k + 1) y0 y1 y2 y3 y4))
  | 0 => fun _ _ _ _ _ r h => by simp [gessolaw01_CodeJoins.j0] at h
  | k + 1 => by
    have ih0 := gessolaw01_CodeJoins.mono_l k
    · intro y0 y1 y2 y3 y4
      unfold gessolaw01_CodeJoins.j0
      repeat' first
      | (with_reducible exact ih0 _ _ _ _ _)
      | (with_reducible exact code_Fault.mono _ _)
      | (with_reducible exact gessolaw01_awake.mono _)
      | (with_reducible exact LeO.refl _)
      | (with_reducible exact LeO.none _)
      | (with_reducible refine LeO.ite ?_ ?_)
      | (with_reducible refine LeO.bind ?_ (fun _ => ?_))
      | exact ih0 _ _ _ _ _
      | exact code_Fault.mono _ _
      | exact gessolaw01_awake.mono _
      | exact LeO.none _
      | refine LeO.ite ?_ ?_
      | refine LeO.bind ?_ (fun _ => ?_)
theorem gessolaw01_CodeJoins.mono : ∀ a0 a1 k, LeO (gessolaw01_CodeJoins.f k a0 a1) (gessolaw01_CodeJoins.f (k + 1) a0 a1) := by
  intro a0 a1 k
  have ih0 := gessolaw01_CodeJoins.mono_l k
  unfold gessolaw01_CodeJoins.f
  repeat' first
      | (with_reducible exact ih0 _ _ _ _ _)
      | (with_reducible exact code_Fault.mono _ _)
      | (with_reducible exact gessolaw01_awake.mono _)
      | (with_reducible exact LeO.refl _)
      | (with_reducible exact LeO.none _)
      | (with_reducible refine LeO.ite ?_ ?_)
      | (with_reducible refine LeO.bind ?_ (fun _ => ?_))
      | exact ih0 _ _ _ _ _
      | exact code_Fault.mono _ _
      | exact gessolaw01_awake.mono _
      | exact LeO.none _
      | refine LeO.ite ?_ ?_
      | refine LeO.bind ?_ (fun _ => ?_)
set_option maxHeartbeats 8000000 in
set_option maxRecDepth 100000 in
theorem gessolaw01_CodeJoins.calls (k : Nat) (A0 : Option Addr) (c0 : Nat) (l0 : List Int) (A1 : Option Addr) (c1 : Nat) (l1 : List Int) (r : Bool) (w : World) (HTb_ : Aside0 (Tabs w)) (hr0 : Kd.C (Kd.int .u8) w A0 l0.length l0) (hc0 : l0.length ≤ c0) (hr1 : Kd.C (Kd.int .u8) w A1 l1.length l1) (hc1 : l1.length ≤ c1) (h : gessolaw01_CodeJoins.f k l0 l1 = some r) :
    Calls Tryd.prog 6 #[.slice A0 l0.length c0, .slice A1 l1.length c1] w fun e w' => e = .returned (.bool r) ∧ Below w.heap.size w w' := by
  have HR0 := Aside0.mk hr0
  have HC0 := Aside0.mk hc0
  clear hr0 hc0
  have HR1 := Aside0.mk hr1
  have HC1 := Aside0.mk hc1
  clear hr1 hc1
  have HB := Aside0.mk (Below.refl w.heap.size w)
  have H : ((code_Fault.f k l0).bind fun t229 => ((code_Fault.f k l1).bind fun t230 => ((some (([] : List Int) : List Int)).bind fun y231 => (if y231.length + l0.length < 140737488355328 then ((some (y231 ++ l0 : List Int)).bind fun y234 => (if y234.length + l1.length < 140737488355328 then ((code_Fault.f k (y234 ++ l1)).bind fun t240 => (if t229 < 0 then (gessolaw01_CodeJoins.j0 k l0 t229 t230 t240 (decide (t230 < 0))) else (gessolaw01_CodeJoins.j0 k l0 t229 t230 t240 false))) else (none))) else (none))))) = some r := h
  clear h
  replace H := Option.bind_eq_some_iff.mp H
  obtain ⟨t229, A30, H⟩ := H
  replace H : ((code_Fault.f k l1).bind fun t230 => ((some (([] : List Int) : List Int)).bind fun y231 => (if y231.length + l0.length < 140737488355328 then ((some (y231 ++ l0 : List Int)).bind fun y234 => (if y234.length + l1.length < 140737488355328 then ((code_Fault.f k (y234 ++ l1)).bind fun t240 => (if t229 < 0 then (gessolaw01_CodeJoins.j0 k l0 t229 t230 t240 (decide (t230 < 0))) else (gessolaw01_CodeJoins.j0 k l0 t229 t230 t240 false))) else (none))) else (none)))) = some r := H
  have A3 := Aside0.mk A30
  clear A30
  replace H := Option.bind_eq_some_iff.mp H
  obtain ⟨t230, A40, H⟩ := H
  replace H : ((some (([] : List Int) : List Int)).bind fun y231 => (if y231.length + l0.length < 140737488355328 then ((some (y231 ++ l0 : List Int)).bind fun y234 => (if y234.length + l1.length < 140737488355328 then ((code_Fault.f k (y234 ++ l1)).bind fun t240 => (if t229 < 0 then (gessolaw01_CodeJoins.j0 k l0 t229 t230 t240 (decide (t230 < 0))) else (gessolaw01_CodeJoins.j0 k l0 t229 t230 t240 false))) else (none))) else (none))) = some r := H
  have A4 := Aside0.mk A40
  clear A40
  obtain ⟨y231, hy231⟩ : ∃ y_ : List Int, y_ = (([] : List Int)) := ⟨_, rfl⟩
  replace H : (if y231.length + l0.length < 140737488355328 then ((some (y231 ++ l0 : List Int)).bind fun y234 => (if y234.length + l1.length < 140737488355328 then ((code_Fault.f k (y234 ++ l1)).bind fun t240 => (if t229 < 0 then (gessolaw01_CodeJoins.j0 k l0 t229 t230 t240 (decide (t230 < 0))) else (gessolaw01_CodeJoins.j0 k l0 t229 t230 t240 false))) else (none))) else (none)) = some r := by first | (rw [hy231]; with_reducible exact H) | (have H2_ := (Option.bind_some _ _).symm.trans H; rw [hy231]; with_reducible exact H2_) | (have H2_ := (Option.bind_some _ _).symm.trans H; with_reducible exact H2_) | with_reducible exact H | (rw [hy231]; exact H) | exact H
  have Ny231 := Aside0.mk hy231
  clear hy231
  by_cases c5 : y231.length + l0.length < 140737488355328
  · rw [if_pos c5] at H
    have LMc5 := Aside0.mk c5
    clear c5
    obtain ⟨y234, hy234⟩ : ∃ y_ : List Int, y_ = (y231 ++ l0) := ⟨_, rfl⟩
    replace H : (if y234.length + l1.length < 140737488355328 then ((code_Fault.f k (y234 ++ l1)).bind fun t240 => (if t229 < 0 then (gessolaw01_CodeJoins.j0 k l0 t229 t230 t240 (decide (t230 < 0))) else (gessolaw01_CodeJoins.j0 k l0 t229 t230 t240 false))) else (none)) = some r := by first | (rw [hy234]; with_reducible exact H) | (have H2_ := (Option.bind_some _ _).symm.trans H; rw [hy234]; with_reducible exact H2_) | (have H2_ := (Option.bind_some _ _).symm.trans H; with_reducible exact H2_) | with_reducible exact H | (rw [hy234]; exact H) | exact H
    have Ny234 := Aside0.mk hy234
    clear hy234
    by_cases c6 : y234.length + l1.length < 140737488355328
    · rw [if_pos c6] at H
      have LMc6 := Aside0.mk c6
      clear c6
      obtain ⟨y237, hy237⟩ : ∃ y_ : List Int, y_ = (y234 ++ l1) := ⟨_, rfl⟩
      replace H : ((code_Fault.f k y237).bind fun t240 => (if t229 < 0 then (gessolaw01_CodeJoins.j0 k l0 t229 t230 t240 (decide (t230 < 0))) else (gessolaw01_CodeJoins.j0 k l0 t229 t230 t240 false))) = some r := by first | (rw [hy237]; with_reducible exact H) | (have H2_ := (Option.bind_some _ _).symm.trans H; rw [hy237]; with_reducible exact H2_) | (have H2_ := (Option.bind_some _ _).symm.trans H; with_reducible exact H2_) | with_reducible exact H | (rw [hy237]; exact H) | exact H
      have Ny237 := Aside0.mk hy237
      clear hy237
      replace H := Option.bind_eq_some_iff.mp H
      obtain ⟨t240, A70, H⟩ := H
      replace H : (if t229 < 0 then (gessolaw01_CodeJoins.j0 k l0 t229 t230 t240 (decide (t230 < 0))) else (gessolaw01_CodeJoins.j0 k l0 t229 t230 t240 false)) = some r := H
      have A7 := Aside0.mk A70
      clear A70
      have HC8 := Aside0.mk H
      clear H
      go_enter Tryd.func6, Tryd.ntmps6
      go_upto_region 4 with (first | ((with_reducible refine gate_callee (f := 20) rfl ?_); refine goesL_ (some 10) rfl rfl Tryd.func20 (by kernel_rfl) rfl #[.slice A0 l0.length c0] rfl (by (try simp only [List.map_toArray, List.map_cons, List.map_nil]); first | done | rfl | (simp only [List.length_drop, List.length_take]; rfl)) ?_; (with_reducible refine (code_Fault.calls k _ _ l0 t229 _ ?sideT ?side1 ?side2 A3.out).mono ?_); (case sideT => first | exact ⟨HTb_.out.below (by repeat (first | (with_reducible first | exact HB.out | apply below_alloc | apply pw_below_drewN | apply below_drew1) | exact HB.out))⟩ | exact ⟨HTb_.out.drawn (by repeat (first | exact Drawn0.refl _ | apply Drawn0.step))⟩ | exact ⟨HTb_.out.below (Drawn0.below (by repeat (first | exact Drawn0.refl _ | apply Drawn0.step)))⟩); (case side1 => repeat (first | exact HR0.out | (with_reducible refine Kd.C_alloc ?_ _) | (with_reducible refine Kd.C_drewN ?_ _) | (with_reducible refine Kd.C_drew ?_))); (case side2 => exact HC0.out); rintro e w9 ⟨rfl, hb⟩; refine ⟨_, rfl, ?_⟩; have n0_ := Aside0.mk (below_step (by repeat (first | (with_reducible first | exact HB.out | apply below_alloc | apply pw_below_drewN | apply below_drew1) | exact HB.out)) hb); clear HB; have HB := n0_; clear n0_; (try clear hb); (try clear hb2); (try clear hk); (try clear hi)) | ((with_reducible refine gate_callee (f := 20) rfl ?_); refine goesL_ (some 12) rfl rfl Tryd.func20 (by kernel_rfl) rfl #[.slice A1 l1.length c1] rfl (by (try simp only [List.map_toArray, List.map_cons, List.map_nil]); first | done | rfl | (simp only [List.length_drop, List.length_take]; rfl)) ?_; (with_reducible refine (code_Fault.calls k _ _ l1 t230 _ ?sideT ?side1 ?side2 A4.out).mono ?_); (case sideT => first | exact ⟨HTb_.out.below (by repeat (first | (with_reducible first | exact HB.out | apply below_alloc | apply pw_below_drewN | apply below_drew1) | exact HB.out))⟩ | exact ⟨HTb_.out.drawn (by repeat (first | exact Drawn0.refl _ | apply Drawn0.step))⟩ | exact ⟨HTb_.out.below (Drawn0.below (by repeat (first | exact Drawn0.refl _ | apply Drawn0.step)))⟩); (case side1 => repeat (first | exact (Kd.C_below HR1.out HB.out) | (with_reducible refine Kd.C_alloc ?_ _) | (with_reducible refine Kd.C_drewN ?_ _) | (with_reducible refine Kd.C_drew ?_))); (case side2 => exact HC1.out); rintro e w10 ⟨rfl, hb⟩; refine ⟨_, rfl, ?_⟩; have n0_ := Aside0.mk (below_step (by repeat (first | (with_reducible first | exact HB.out | apply below_alloc | apply pw_below_drewN | apply below_drew1) | exact HB.out)) hb); clear HB; have HB := n0_; clear n0_; (try clear hb); (try clear hb2); (try clear hk); (try clear hi)) | ((with_reducible refine gate_dst (N := 13) rfl ?_); refine Kd.R_lit (Kd.int .u8) _ 5 ?hg (N := 13) ?hd (xs := ([] : List Int)) (inner := []) (ok := fun _ => True) (okp := fun _ => True) ?hr ?hp (fun _ hk => hk) trivial (Below.refl _ _) (Nat.le_refl _) (by simp) ?_; (case hd => rfl); (case hg => rfl); (case hr => first | (go_simp; done) | (go_simp; rfl)); (case hp => exact (Reps.none _ _)); intro v232 w11 ho12 hb hg_ hnew_; clear hg_ hnew_; (first | rw [← Ny231.out] at ho12 | (simp only [Int.reduceToNat] at ho12; rw [← Ny231.out] at ho12)); have n0_ := Aside0.mk (Kd.R_lower ho12 (below_size (by repeat (first | (with_reducible first | exact HB.out | apply below_alloc | apply pw_below_drewN | apply below_drew1) | exact HB.out)))); have n1_ := Aside0.mk (below_step (by repeat (first | (with_reducible first | exact HB.out | apply below_alloc | apply pw_below_drewN | apply below_drew1) | exact HB.out)) hb); clear HB; have HO233 := n0_; have HB := n1_; clear n0_ n1_; clear hb ho12) | ((with_reducible refine gate_builtin (b := .append) (xs := #[.tmp 13, .tmp 14]) rfl ?_); at_builtin; refine Kd.R_append_rows (Kd.int .u8) (w0 := w) w.heap.size rfl (.tmp 13) (.tmp 14) 23 5 (.int .u8 0) 1 rfl Tryd.underlying23 info5 rfl (by decide) (by omega) v232 y231 l0 _ _ _ (fun _ => True) (fun _ => False) rfl rfl ?aO ?aR (fun _ _ h => h) (fun _ h => h.elim) ?aF ?aB ?aS ?aL ?_; (case aR => repeat (first | exact (Kd.C_below HR0.out HB.out) | (with_reducible refine Kd.C_alloc ?_ _) | (with_reducible refine Kd.C_drewN ?_ _) | (with_reducible refine Kd.C_drew ?_))); (case aB => exact (by repeat (first | (with_reducible first | exact HB.out | apply below_alloc | apply pw_below_drewN | apply below_drew1) | exact HB.out))); (case aF => exact (fun _ _ => trivial)); (case aO => exact (by (with_reducible repeat (first | apply Kd.R_alloc | apply Kd.R_drewN | apply Kd.R_drew)); exact HO233.out)); (case aS => exact (below_size (by repeat (first | (with_reducible first | exact HB.out | apply below_alloc | apply pw_below_drewN | apply below_drew1) | exact HB.out)))); (case aL => have := LMc5.out; omega); intro v235 w13 ho hb hg hat; rw [← Ny234.out] at ho; have n0_ := Aside0.mk (hb); have n1_ := Aside0.mk (ho); clear HB; clear HO233; have HB := n0_; have HO236 := n1_; clear n0_ n1_; clear ho hb hg hat) | ((with_reducible refine gate_builtin (b := .append) (xs := #[.tmp 15, .tmp 16]) rfl ?_); at_builtin; refine Kd.R_append_rows (Kd.int .u8) (w0 := w) w.heap.size rfl (.tmp 15) (.tmp 16) 23 5 (.int .u8 0) 1 rfl Tryd.underlying23 info5 rfl (by decide) (by omega) v235 y234 l1 _ _ _ (fun _ => True) (fun _ => False) rfl rfl ?aO ?aR (fun _ _ h => h) (fun _ h => h.elim) ?aF ?aB ?aS ?aL ?_; (case aR => repeat (first | exact (Kd.C_below HR1.out HB.out) | (with_reducible refine Kd.C_alloc ?_ _) | (with_reducible refine Kd.C_drewN ?_ _) | (with_reducible refine Kd.C_drew ?_))); (case aB => exact (by repeat (first | (with_reducible first | exact HB.out | apply below_alloc | apply pw_below_drewN | apply below_drew1) | exact HB.out))); (case aF => exact (fun _ _ => trivial)); (case aO => exact (by (with_reducible repeat (first | apply Kd.R_alloc | apply Kd.R_drewN | apply Kd.R_drew)); exact HO236.out)); (case aS => exact (below_size (by repeat (first | (with_reducible first | exact HB.out | apply below_alloc | apply pw_below_drewN | apply below_drew1) | exact HB.out)))); (case aL => have := LMc6.out; omega); intro v238 w14 ho hb hg hat; rw [← Ny237.out] at ho; have n0_ := Aside0.mk (hb); have n1_ := Aside0.mk (ho); clear HB; clear HO236; have HB := n0_; have HO239 := n1_; clear n0_ n1_; clear ho hb hg hat; obtain ⟨Ao15, co15, eo15⟩ := Kd.R_slice HO239.out; subst eo15) | ((with_reducible refine gate_callee (f := 20) rfl ?_); refine goesL_ (some 19) rfl rfl Tryd.func20 (by kernel_rfl) rfl #[.slice Ao15 y237.length co15] rfl (by (try simp only [List.map_toArray, List.map_cons, List.map_nil]); first | done | rfl | (simp only [List.length_drop, List.length_take]; rfl)) ?_; (with_reducible refine (code_Fault.calls k _ _ y237 t240 _ ?sideT ?side1 ?side2 A7.out).mono ?_); (case sideT => first | exact ⟨HTb_.out.below (by repeat (first | (with_reducible first | exact HB.out | apply below_alloc | apply pw_below_drewN | apply below_drew1) | exact HB.out))⟩ | exact ⟨HTb_.out.drawn (by repeat (first | exact Drawn0.refl _ | apply Drawn0.step))⟩ | exact ⟨HTb_.out.below (Drawn0.below (by repeat (first | exact Drawn0.refl _ | apply Drawn0.step)))⟩); (case side1 => repeat (first | exact (Kd.R_reads' HO239.out).2.2 | (with_reducible refine Kd.C_alloc ?_ _) | (with_reducible refine Kd.C_drewN ?_ _) | (with_reducible refine Kd.C_drew ?_))); (case side2 => exact (Kd.R_reads' HO239.out).2.1); rintro e w16 ⟨rfl, hb⟩; refine ⟨_, rfl, ?_⟩; have n0_ := Aside0.mk (Kd.R_below (by (with_reducible repeat (first | apply Kd.R_alloc | apply Kd.R_drewN | apply Kd.R_drew)); exact HO239.out) hb); have n1_ := Aside0.mk (below_step (by repeat (first | (with_reducible first | exact HB.out | apply below_alloc | apply pw_below_drewN | apply below_drew1) | exact HB.out)) hb); clear HO239; clear HB; have HO239 := n0_; have HB := n1_; clear n0_ n1_; (try clear hb); (try clear hb2); (try clear hk); (try clear hi)))
      (try simp only [Act.put, List.setIfInBounds_toArray, List.set_cons_zero, List.set_cons_succ])
      go_cut [20] (fun v20 wc => ∃ (kq : Nat) (x20_7 : Bool), v20 = .bool x20_7 ∧ Aside0 (gessolaw01_CodeJoins.j0 kq l0 t229 t230 t240 x20_7 = some r) ∧ Aside0 (kq ≤ k) ∧ Aside0 (Below w.heap.size w wc))
      case first =>
        have H := HC8.out
        clear HC8
        by_cases c17 : t229 < 0
        · rw [if_pos c17] at H
          have c17b0 : decide (t229 < 0) = true := decide_eq_true c17
          clear c17
          (first | rw [c17b0] | (simp only [i64_w, i32_w]; rw [c17b0]) | skip)
          have H' := Aside0.mk H
          clear H
          go_wp2
          go_meet
          case rel => exact ⟨_, (decide (t230 < 0)), (by first | rfl | (simp; done) | (simp [*]; done)), H', ⟨by first | omega | exact Nat.le_refl _⟩, ⟨by repeat (first | (with_reducible first | exact HB.out | apply below_alloc | apply pw_below_drewN | apply below_drew1) | exact HB.out)⟩⟩
        · rw [if_neg c17] at H
          have c17b0 : decide (t229 < 0) = false := decide_eq_false c17
          clear c17
          (first | rw [c17b0] | (simp only [i64_w, i32_w]; rw [c17b0]) | skip)
          have H' := Aside0.mk H
          clear H
          go_wp2
          go_meet
          case rel => exact ⟨_, (false), (by first | rfl | (simp; done) | (simp [*]; done)), H', ⟨by first | omega | exact Nat.le_refl _⟩, ⟨by repeat (first | (with_reducible first | exact HB.out | apply below_alloc | apply pw_below_drewN | apply below_drew1) | exact HB.out)⟩⟩
      case rest =>
        clear HC8
        try clear c1
        try clear c2
        try clear p2
        try clear c5
        try clear c6
        try clear c17
        try clear c17b0
        obtain ⟨kq, x20_7, rfl, HA, HJ7, HB⟩ := hcut
        cases kq with
        | zero => exact absurd HA.out (by simp [gessolaw01_CodeJoins.j0])
        | succ kj7 =>
          have H := HA.out
          clear HA
          simp only [gessolaw01_CodeJoins.j0] at H
          by_cases c18 : x20_7 = true
          · subst c18
            have H1 : (if t240 = (-1) then ((gessolaw01_awake.f kj7).bind fun t241 => (some t241)) else (none)) = some r := by rw [if_pos rfl] at H; exact H
            clear H
            have H := H1
            clear H1
            by_cases c19 : t240 = (-1)
            · rw [if_pos c19] at H
              have c19b0 : (t240 == (-1)) = true := beq_iff_eq.mpr c19
              have c19b1 : (t240 != (-1)) = false := bne_eq_false_iff_eq.mpr c19
              clear c19
              replace H := Option.bind_eq_some_iff.mp H
              obtain ⟨t241, A200, H⟩ := H
              replace H : (some t241) = some r := H
              have A20 := Aside0.mk A200
              clear A200
              obtain rfl := Option.some.inj H
              go_wp2_with (first | (go_at_call 21; (with_reducible refine (gessolaw01_awake.calls kj7  t241 _ ?sideT A20.out).mono ?_); (case sideT => first | exact ⟨HTb_.out.below (by repeat (first | (with_reducible first | exact HB.out | apply below_alloc | apply pw_below_drewN | apply below_drew1) | exact HB.out))⟩ | exact ⟨HTb_.out.drawn (by repeat (first | exact Drawn0.refl _ | apply Drawn0.step))⟩ | exact ⟨HTb_.out.below (Drawn0.below (by repeat (first | exact Drawn0.refl _ | apply Drawn0.step)))⟩); rintro e w21 ⟨rfl, hb⟩; have n0_ := Aside0.mk (below_step (by repeat (first | (with_reducible first | exact HB.out | apply below_alloc | apply pw_below_drewN | apply below_drew1) | exact HB.out)) hb); clear HB; have HB := n0_; clear n0_; (try clear hb); (try clear hb2); (try clear hk); (try clear hi)))
              go_ret
              exact ⟨by first | rfl | (simp [errW_none, errW_some] <;> rfl) | (simp [*, errW_none, errW_some] <;> rfl), by repeat (first | (with_reducible first | exact HB.out | apply below_alloc | apply pw_below_drewN | apply below_drew1) | exact HB.out)⟩
            · rw [if_neg c19] at H
              exact absurd H (by simp)
          · replace c18 := Bool.eq_false_iff.mpr c18
            subst c18
            have H1 : (if t229 < 0 then (if t240 = (wrap64 ((l0.length : Int) + t230)) then ((gessolaw01_awake.f kj7).bind fun t242 => (some t242)) else (none)) else (if t240 ≥ t229 then ((gessolaw01_awake.f kj7).bind fun t243 => (some t243)) else (if t240 = (-1) then ((gessolaw01_awake.f kj7).bind fun t244 => (some t244)) else (none)))) = some r := by rw [if_neg (show ¬ (false = true) by decide)] at H; exact H
            clear H
            have H := H1
            clear H1
            by_cases c22 : t229 < 0
            · rw [if_pos c22] at H
              have c22b0 : decide (t229 < 0) = true := decide_eq_true c22
              clear c22
              by_cases c23 : t240 = (wrap64 ((l0.length : Int) + t230))
              · rw [if_pos c23] at H
                have c23b0 : (t240 == (wrap64 ((l0.length : Int) + t230))) = true := beq_iff_eq.mpr c23
                have c23b1 : (t240 != (wrap64 ((l0.length : Int) + t230))) = false := bne_eq_false_iff_eq.mpr c23
                clear c23
                replace H := Option.bind_eq_some_iff.mp H
                obtain ⟨t242, A240, H⟩ := H
                replace H : (some t242) = some r := H
                have A24 := Aside0.mk A240
                clear A240
                obtain rfl := Option.some.inj H
                go_wp2_with (first | (go_at_call 21; (with_reducible refine (gessolaw01_awake.calls kj7  t242 _ ?sideT A24.out).mono ?_); (case sideT => first | exact ⟨HTb_.out.below (by repeat (first | (with_reducible first | exact HB.out | apply below_alloc | apply pw_below_drewN | apply below_drew1) | exact HB.out))⟩ | exact ⟨HTb_.out.drawn (by repeat (first | exact Drawn0.refl _ | apply Drawn0.step))⟩ | exact ⟨HTb_.out.below (Drawn0.below (by repeat (first | exact Drawn0.refl _ | apply Drawn0.step)))⟩); rintro e w25 ⟨rfl, hb⟩; have n0_ := Aside0.mk (below_step (by repeat (first | (with_reducible first | exact HB.out | apply below_alloc | apply pw_below_drewN | apply below_drew1) | exact HB.out)) hb); clear HB; have HB := n0_; clear n0_; (try clear hb); (try clear hb2); (try clear hk); (try clear hi)))
                go_ret
                exact ⟨by first | rfl | (simp [errW_none, errW_some] <;> rfl) | (simp [*, errW_none, errW_some] <;> rfl), by repeat (first | (with_reducible first | exact HB.out | apply below_alloc | apply pw_below_drewN | apply below_drew1) | exact HB.out)⟩
              · rw [if_neg c23] at H
                exact absurd H (by simp)
            · rw [if_neg c22] at H
              have c22b0 : decide (t229 < 0) = false := decide_eq_false c22
              clear c22
              by_cases c26 : t240 ≥ t229
              · rw [if_pos c26] at H
                have c26b0 : decide (t229 ≤ t240) = true := decide_eq_true c26
                clear c26
                replace H := Option.bind_eq_some_iff.mp H
                obtain ⟨t243, A270, H⟩ := H
                replace H : (some t243) = some r := H
                have A27 := Aside0.mk A270
                clear A270
                obtain rfl := Option.some.inj H
                go_wp2_with (first | (go_at_call 21; (with_reducible refine (gessolaw01_awake.calls kj7  t243 _ ?sideT A27.out).mono ?_); (case sideT => first | exact ⟨HTb_.out.below (by repeat (first | (with_reducible first | exact HB.out | apply below_alloc | apply pw_below_drewN | apply below_drew1) | exact HB.out))⟩ | exact ⟨HTb_.out.drawn (by repeat (first | exact Drawn0.refl _ | apply Drawn0.step))⟩ | exact ⟨HTb_.out.below (Drawn0.below (by repeat (first | exact Drawn0.refl _ | apply Drawn0.step)))⟩); rintro e w28 ⟨rfl, hb⟩; have n0_ := Aside0.mk (below_step (by repeat (first | (with_reducible first | exact HB.out | apply below_alloc | apply pw_below_drewN | apply below_drew1) | exact HB.out)) hb); clear HB; have HB := n0_; clear n0_; (try clear hb); (try clear hb2); (try clear hk); (try clear hi)))
                go_ret
                exact ⟨by first | rfl | (simp [errW_none, errW_some] <;> rfl) | (simp [*, errW_none, errW_some] <;> rfl), by repeat (first | (with_reducible first | exact HB.out | apply below_alloc | apply pw_below_drewN | apply below_drew1) | exact HB.out)⟩
              · rw [if_neg c26] at H
                have c26b0 : decide (t229 ≤ t240) = false := decide_eq_false c26
                clear c26
                by_cases c29 : t240 = (-1)
                · rw [if_pos c29] at H
                  have c29b0 : (t240 == (-1)) = true := beq_iff_eq.mpr c29
                  have c29b1 : (t240 != (-1)) = false := bne_eq_false_iff_eq.mpr c29
                  clear c29
                  replace H := Option.bind_eq_some_iff.mp H
                  obtain ⟨t244, A300, H⟩ := H
                  replace H : (some t244) = some r := H
                  have A30 := Aside0.mk A300
                  clear A300
                  obtain rfl := Option.some.inj H
                  go_wp2_with (first | (go_at_call 21; (with_reducible refine (gessolaw01_awake.calls kj7  t244 _ ?sideT A30.out).mono ?_); (case sideT => first | exact ⟨HTb_.out.below (by repeat (first | (with_reducible first | exact HB.out | apply below_alloc | apply pw_below_drewN | apply below_drew1) | exact HB.out))⟩ | exact ⟨HTb_.out.drawn (by repeat (first | exact Drawn0.refl _ | apply Drawn0.step))⟩ | exact ⟨HTb_.out.below (Drawn0.below (by repeat (first | exact Drawn0.refl _ | apply Drawn0.step)))⟩); rintro e w31 ⟨rfl, hb⟩; have n0_ := Aside0.mk (below_step (by repeat (first | (with_reducible first | exact HB.out | apply below_alloc | apply pw_below_drewN | apply below_drew1) | exact HB.out)) hb); clear HB; have HB := n0_; clear n0_; (try clear hb); (try clear hb2); (try clear hk); (try clear hi)))
                  go_ret
                  exact ⟨by first | rfl | (simp [errW_none, errW_some] <;> rfl) | (simp [*, errW_none, errW_some] <;> rfl), by repeat (first | (with_reducible first | exact HB.out | apply below_alloc | apply pw_below_drewN | apply below_drew1) | exact HB.out)⟩
                · rw [if_neg c29] at H
                  exact absurd H (by simp)
    · rw [if_neg c6] at H
      exact absurd H (by simp)
  · rw [if_neg c5] at H
    exact absurd H (by simp)

/-- THE ONE PURE STATEMENT of gessolaw01_CodeJoins: yours. -/
def gessolaw01_CodeJoins.Pure : Prop := ∀ (l0 : List Int) (l1 : List Int), l0.length ≤ maxLen → l0.length * 1 ≤ 140737488351232 → (∀ x ∈ l0, (Lit.int .u8 x).wf = true) → l1.length ≤ maxLen → l1.length * 1 ≤ 140737488351232 → (∀ x ∈ l1, (Lit.int .u8 x).wf = true) → ∃ k, gessolaw01_CodeJoins.f k l0 l1 = some true
theorem gessolaw01_CodeJoins.walk (P : gessolaw01_CodeJoins.Pure) (a0 : Option Addr) (len0 cap0 : Nat) (z0 : List Int) (a1 : Option Addr) (len1 cap1 : Nat) (z1 : List Int) (w : World) (HTb_ : Aside0 (Tabs w)) (w0 : (a0 = none ∧ len0 = 0 ∧ cap0 = 0 ∧ z0 = []) ∨ ∃ x, a0 = some x ∧ len0 ≤ cap0 ∧ cap0 ≤ maxLen ∧ z0.length = cap0 ∧ (∀ i, i < z0.length → w.cell? (x.add i) = some (.int .u8 (z0.getD i 0))) ∧ ∀ n ∈ z0, (Lit.int .u8 n).wf = true) (y0 : len0 * 1 ≤ 140737488351232) (w1 : (a1 = none ∧ len1 = 0 ∧ cap1 = 0 ∧ z1 = []) ∨ ∃ x, a1 = some x ∧ len1 ≤ cap1 ∧ cap1 ≤ maxLen ∧ z1.length = cap1 ∧ (∀ i, i < z1.length → w.cell? (x.add i) = some (.int .u8 (z1.getD i 0))) ∧ ∀ n ∈ z1, (Lit.int .u8 n).wf = true) (y1 : len1 * 1 ≤ 140737488351232) :
    Calls Tryd.prog 6 #[.slice a0 len0 cap0, .slice a1 len1 cap1] w fun e w' => e = .returned (.bool true) ∧ Below w.heap.size w w' := by
  obtain ⟨l0, rfl, hr0, hm0, hw0, hc0⟩ := ReadsInt.ofRowC w0
  obtain ⟨l1, rfl, hr1, hm1, hw1, hc1⟩ := ReadsInt.ofRowC w1
  obtain ⟨k, h⟩ := P l0 l1 hm0 y0 hw0 hm1 y1 hw1
  refine (gessolaw01_CodeJoins.calls k _ _ l0 _ _ l1 true w HTb_ (Kd.C_of_reads (d := (0 : Int)) (h1 := fun _ => rfl) hr0) hc0 (Kd.C_of_reads (d := (0 : Int)) (h1 := fun _ => rfl) hr1) hc1 h).mono ?_
  rintro e w' ⟨rfl, hd⟩
  exact ⟨rfl, hd⟩

end Go.Proofs.YtjlhehaagaaihaaDoor.P
