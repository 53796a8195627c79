/- Functions of the translated program as plain Lean functions, and proofs that their calls come to these. Written by a program of the session. No condition. -/
import Derived.Test.YtejbkjbldmaodaaPx0
import Derived.Test.YtejbkjbldmaodaaPx2
import Derived.Test.YtejbkjbldmaodaaPx6
import Derived.Test.YtejbkjbldmaodaaPx11
import Derived.Test.YtejbkjbldmaodaaPx12
namespace Go.Proofs.Ytejbkjbldmaodaa.P
open Go.RowKit Go.Proofs.YtejbkjbldmaodaaW.PrintWords Go.Proofs.YtejbkjbldmaodaaW.PrintLast Go.Proofs.YtejbkjbldmaodaaW.PrintMore
attribute [local go_sem] max2_int min2_int max_two min_two max_three min_three max_four min_four   -- for this text's walks alone
set_option linter.unusedVariables false
set_option linter.unusedSimpArgs false

/-! ### gessolaw11_PackUnpacks: function 5 -/
mutual
def gessolaw11_PackUnpacks.j0 : Nat → List Int → List Int → List (List Int) → Bool → Option (Bool)
  | 0, _, _, _, _ => none
  | k + 1, x0, x3, x4, x8 => gessolaw11_PackUnpacks.l0 k x0 x3 x4 x8 0
def gessolaw11_PackUnpacks.l0 : Nat → List Int → List Int → List (List Int) → Bool → Int → Option (Bool)
  | 0, _, _, _, _, _ => none
  | k + 1, x0, x3, x4, x8, x9 => if x9 < (x4.length : Int) then (gessolaw11_PackUnpacks.l1 k x0 x3 x4 x8 x9 0) else (if x8 = true then (if (strOfNums x3).toList = (strOfNums x0).toList then ((gessolaw11_awake.f k).bind fun t239 => (some t239)) else (none)) else (none))
def gessolaw11_PackUnpacks.l1 : Nat → List Int → List Int → List (List Int) → Bool → Int → Int → Option (Bool)
  | 0, _, _, _, _, _, _ => none
  | k + 1, x0, x3, x4, x8, x9, x10 => if 0 ≤ x9 then (if x9 < (x4.length : Int) then (if x10 < ((rd_L1 x4 x9).length : Int) then (if 0 ≤ x10 then (gessolaw11_PackUnpacks.l1 k x0 x3 (x4.set (x9 : Int).toNat ((rd_L1 x4 x9).set (x10 : Int).toNat (((rd (rd_L1 x4 x9) x10) + 1) % 256))) x8 x9 (wrap64 (x10 + 1))) else (none)) else (gessolaw11_PackUnpacks.l0 k x0 x3 x4 x8 (wrap64 (x9 + 1)))) else (none)) else (none)
end
def gessolaw11_PackUnpacks.f (k : Nat) (l0 : List Int) : Option (Bool) := (some (([] : List Int) : List Int)).bind fun y224 => (if y224.length + l0.length < 140737488355328 then ((some (y224 ++ l0 : List Int)).bind fun y227 => ((pack_Unpack.f k y227).bind fun bt230 => ((gessoref11_Unpack.f k l0).bind fun bt234 => ((gessolaw11_sameFields.f k bt230.1 bt234.1).bind fun t238 => (if t238 = true then (gessolaw11_PackUnpacks.j0 k l0 y227 bt230.1 (bt230.2 == bt234.2)) else (gessolaw11_PackUnpacks.j0 k l0 y227 bt230.1 false)))))) else (none))
theorem gessolaw11_PackUnpacks.mono_l : ∀ k, (∀ y0 y1 y2 y3, LeO (gessolaw11_PackUnpacks.j0 k y0 y1 y2 y3) (gessolaw11_PackUnpacks.j0 (k + 1) y0 y1 y2 y3)) ∧ (∀ y0 y1 y2 y3 y4, LeO (gessolaw11_PackUnpacks.l0 k y0 y1 y2 y3 y4) (gessolaw11_PackUnpacks.l0 (k + 1) y0 y1 y2 y3 y4)) ∧ (∀ y0 y1 y2 y3 y4 y5, LeO (gessolaw11_PackUnpacks.l1 k y0 y1 y2 y3 y4 y5) (gessolaw11_PackUnpacks.l1 (k + 1) y0 y1 y2 y3 y4 y5))
  | 0 => ⟨fun _ _ _ _ r h => by simp [gessolaw11_PackUnpacks.j0] at h, fun _ _ _ _ _ r h => by simp [gessolaw11_PackUnpacks.l0] at h, fun _ _ _ _ _ _ r h => by simp [gessolaw11_PackUnpacks.l1] at h⟩
  | k + 1 => by
    obtain ⟨ih0, ih1, ih2⟩ := gessolaw11_PackUnpacks.mono_l k
    refine ⟨?_, ?_, ?_⟩
    · intro y0 y1 y2 y3
      unfold gessolaw11_PackUnpacks.j0
      repeat' first
      | (with_reducible exact ih0 _ _ _ _)
      | (with_reducible exact ih1 _ _ _ _ _)
      | (with_reducible exact ih2 _ _ _ _ _ _)
      | (with_reducible exact gessolaw11_awake.mono _)
      | (with_reducible exact gessolaw11_sameFields.mono _ _ _)
      | (with_reducible exact gessoref11_Unpack.mono _ _)
      | (with_reducible exact pack_Unpack.mono _ _)
      | (with_reducible exact LeO.refl _)
      | (with_reducible exact LeO.none _)
      | (with_reducible refine LeO.ite ?_ ?_)
      | (with_reducible refine LeO.bind ?_ (fun _ => ?_))
      | exact ih0 _ _ _ _
      | exact ih1 _ _ _ _ _
      | exact ih2 _ _ _ _ _ _
      | exact gessolaw11_awake.mono _
      | exact gessolaw11_sameFields.mono _ _ _
      | exact gessoref11_Unpack.mono _ _
      | exact pack_Unpack.mono _ _
      | exact LeO.none _
      | refine LeO.ite ?_ ?_
      | refine LeO.bind ?_ (fun _ => ?_)
    · intro y0 y1 y2 y3 y4
      unfold gessolaw11_PackUnpacks.l0
      repeat' first
      | (with_reducible exact ih0 _ _ _ _)
      | (with_reducible exact ih1 _ _ _ _ _)
      | (with_reducible exact ih2 _ _ _ _ _ _)
      | (with_reducible exact gessolaw11_awake.mono _)
      | (with_reducible exact gessolaw11_sameFields.mono _ _ _)
      | (with_reducible exact gessoref11_Unpack.mono _ _)
      | (with_reducible exact pack_Unpack.mono _ _)
      | (with_reducible exact LeO.refl _)
      | (with_reducible exact LeO.none _)
      | (with_reducible refine LeO.ite ?_ ?_)
      | (with_reducible refine LeO.bind ?_ (fun _ => ?_))
      | exact ih0 _ _ _ _
      | exact ih1 _ _ _ _ _
      | exact ih2 _ _ _ _ _ _
      | exact gessolaw11_awake.mono _
      | exact gessolaw11_sameFields.mono _ _ _
      | exact gessoref11_Unpack.mono _ _
      | exact pack_Unpack.mono _ _
      | exact LeO.none _
      | refine LeO.ite ?_ ?_
      | refine LeO.bind ?_ (fun _ => ?_)
    · intro y0 y1 y2 y3 y4 y5
      unfold gessolaw11_PackUnpacks.l1
      repeat' first
      | (with_reducible exact ih0 _ _ _ _)
      | (with_reducible exact ih1 _ _ _ _ _)
      | (with_reducible exact ih2 _ _ _ _ _ _)
      | (with_reducible exact gessolaw11_awake.mono _)
      | (with_reducible exact gessolaw11_sameFields.mono _ _ _)
      | (with_reducible exact gessoref11_Unpack.mono _ _)
      | (with_reducible exact pack_Unpack.mono _ _)
      | (with_reducible exact LeO.refl _)
      | (with_reducible exact LeO.none _)
      | (with_reducible refine LeO.ite ?_ ?_)
      | (with_reducible refine LeO.bind ?_ (fun _ => ?_))
      | exact ih0 _ _ _ _
      | exact ih1 _ _ _ _ _
      | exact ih2 _ _ _ _ _ _
      | exact gessolaw11_awake.mono _
      | exact gessolaw11_sameFields.mono _ _ _
      | exact gessoref11_Unpack.mono _ _
      | exact pack_Unpack.mono _ _
      | exact LeO.none _
      | refine LeO.ite ?_ ?_
      | refine LeO.bind ?_ (fun _ => ?_)
theorem gessolaw11_PackUnpacks.mono : ∀ a0 k, LeO (gessolaw11_PackUnpacks.f k a0) (gessolaw11_PackUnpacks.f (k + 1) a0) := by
  intro a0 k
  obtain ⟨ih0, ih1, ih2⟩ := gessolaw11_PackUnpacks.mono_l k
  unfold gessolaw11_PackUnpacks.f
  repeat' first
      | (with_reducible exact ih0 _ _ _ _)
      | (with_reducible exact ih1 _ _ _ _ _)
      | (with_reducible exact ih2 _ _ _ _ _ _)
      | (with_reducible exact gessolaw11_awake.mono _)
      | (with_reducible exact gessolaw11_sameFields.mono _ _ _)
      | (with_reducible exact gessoref11_Unpack.mono _ _)
      | (with_reducible exact pack_Unpack.mono _ _)
      | (with_reducible exact LeO.refl _)
      | (with_reducible exact LeO.none _)
      | (with_reducible refine LeO.ite ?_ ?_)
      | (with_reducible refine LeO.bind ?_ (fun _ => ?_))
      | exact ih0 _ _ _ _
      | exact ih1 _ _ _ _ _
      | exact ih2 _ _ _ _ _ _
      | exact gessolaw11_awake.mono _
      | exact gessolaw11_sameFields.mono _ _ _
      | exact gessoref11_Unpack.mono _ _
      | exact pack_Unpack.mono _ _
      | exact LeO.none _
      | refine LeO.ite ?_ ?_
      | refine LeO.bind ?_ (fun _ => ?_)
set_option maxHeartbeats 8000000 in
set_option maxRecDepth 100000 in
theorem gessolaw11_PackUnpacks.calls (k : Nat) (A0 : Option Addr) (c0 : Nat) (l0 : List Int) (r : Bool) (w : World) (hr0 : Kd.C (Kd.int .u8) w A0 l0.length l0) (hc0 : l0.length ≤ c0) (h : gessolaw11_PackUnpacks.f k l0 = some r) :
    Calls Try.prog 5 #[.slice A0 l0.length c0] w fun e w' => e = .returned (.bool r) ∧ Below w.heap.size w w' := by
  have HR0 := Aside0.mk hr0
  have HC0 := Aside0.mk hc0
  clear hr0 hc0
  have HB := Aside0.mk (Below.refl w.heap.size w)
  have H : ((some (([] : List Int) : List Int)).bind fun y224 => (if y224.length + l0.length < 140737488355328 then ((some (y224 ++ l0 : List Int)).bind fun y227 => ((pack_Unpack.f k y227).bind fun bt230 => ((gessoref11_Unpack.f k l0).bind fun bt234 => ((gessolaw11_sameFields.f k bt230.1 bt234.1).bind fun t238 => (if t238 = true then (gessolaw11_PackUnpacks.j0 k l0 y227 bt230.1 (bt230.2 == bt234.2)) else (gessolaw11_PackUnpacks.j0 k l0 y227 bt230.1 false)))))) else (none))) = some r := h
  clear h
  obtain ⟨y224, hy224⟩ : ∃ y_ : List Int, y_ = (([] : List Int)) := ⟨_, rfl⟩
  replace H : (if y224.length + l0.length < 140737488355328 then ((some (y224 ++ l0 : List Int)).bind fun y227 => ((pack_Unpack.f k y227).bind fun bt230 => ((gessoref11_Unpack.f k l0).bind fun bt234 => ((gessolaw11_sameFields.f k bt230.1 bt234.1).bind fun t238 => (if t238 = true then (gessolaw11_PackUnpacks.j0 k l0 y227 bt230.1 (bt230.2 == bt234.2)) else (gessolaw11_PackUnpacks.j0 k l0 y227 bt230.1 false)))))) else (none)) = some r := by first | (rw [hy224]; with_reducible exact H) | (have H2_ := (Option.bind_some _ _).symm.trans H; rw [hy224]; with_reducible exact H2_) | (have H2_ := (Option.bind_some _ _).symm.trans H; with_reducible exact H2_) | with_reducible exact H | (rw [hy224]; exact H) | exact H
  have Ny224 := Aside0.mk hy224
  clear hy224
  by_cases c2 : y224.length + l0.length < 140737488355328
  · rw [if_pos c2] at H
    have LMc2 := Aside0.mk c2
    clear c2
    obtain ⟨y227, hy227⟩ : ∃ y_ : List Int, y_ = (y224 ++ l0) := ⟨_, rfl⟩
    replace H : ((pack_Unpack.f k y227).bind fun bt230 => ((gessoref11_Unpack.f k l0).bind fun bt234 => ((gessolaw11_sameFields.f k bt230.1 bt234.1).bind fun t238 => (if t238 = true then (gessolaw11_PackUnpacks.j0 k l0 y227 bt230.1 (bt230.2 == bt234.2)) else (gessolaw11_PackUnpacks.j0 k l0 y227 bt230.1 false))))) = some r := by first | (rw [hy227]; with_reducible exact H) | (have H2_ := (Option.bind_some _ _).symm.trans H; rw [hy227]; with_reducible exact H2_) | (have H2_ := (Option.bind_some _ _).symm.trans H; with_reducible exact H2_) | with_reducible exact H | (rw [hy227]; exact H) | exact H
    have Ny227 := Aside0.mk hy227
    clear hy227
    replace H := Option.bind_eq_some_iff.mp H
    obtain ⟨⟨t230, t233⟩, A30, H⟩ := H
    replace H : ((gessoref11_Unpack.f k l0).bind fun bt234 => ((gessolaw11_sameFields.f k t230 bt234.1).bind fun t238 => (if t238 = true then (gessolaw11_PackUnpacks.j0 k l0 y227 t230 (t233 == bt234.2)) else (gessolaw11_PackUnpacks.j0 k l0 y227 t230 false)))) = some r := H
    have A3 := Aside0.mk A30
    clear A30
    replace H := Option.bind_eq_some_iff.mp H
    obtain ⟨⟨t234, t237⟩, A40, H⟩ := H
    replace H : ((gessolaw11_sameFields.f k t230 t234).bind fun t238 => (if t238 = true then (gessolaw11_PackUnpacks.j0 k l0 y227 t230 (t233 == t237)) else (gessolaw11_PackUnpacks.j0 k l0 y227 t230 false))) = some r := H
    have A4 := Aside0.mk A40
    clear A40
    have HC5 := Aside0.mk H
    clear H
    go_enter Try.func5, Try.ntmps5
    go_upto_region 4 with (first | ((with_reducible refine gate_dst (N := 11) rfl ?_); refine Kd.R_lit (Kd.int .u8) _ 5 ?hg (N := 11) ?hd (xs := ([] : List Int)) (inner := []) (ok := fun _ => True) (okp := fun _ => True) ?hr ?hp (fun _ hk => hk) trivial (Below.refl _ _) (Nat.le_refl _) (by simp) ?_; (case hd => rfl); (case hg => rfl); (case hr => first | (go_simp; done) | (go_simp; rfl)); (case hp => exact (Reps.none _ _)); intro v225 w6 ho7 hb hg_ hnew_; clear hg_ hnew_; (first | rw [← Ny224.out] at ho7 | (simp only [Int.reduceToNat] at ho7; rw [← Ny224.out] at ho7)); have n0_ := Aside0.mk (Kd.R_lower ho7 (below_size (by repeat (first | (with_reducible first | exact HB.out | apply below_alloc | apply pw_below_drewN | apply below_drew1) | exact HB.out)))); have n1_ := Aside0.mk (below_step (by repeat (first | (with_reducible first | exact HB.out | apply below_alloc | apply pw_below_drewN | apply below_drew1) | exact HB.out)) hb); clear HB; have HO226 := n0_; have HB := n1_; clear n0_ n1_; clear hb ho7) | ((with_reducible refine gate_builtin (b := .append) (xs := #[.tmp 11, .tmp 12]) rfl ?_); at_builtin; refine Kd.R_append_rows (Kd.int .u8) (w0 := w) w.heap.size rfl (.tmp 11) (.tmp 12) 23 5 (.int .u8 0) 1 rfl Try.underlying23 info5 rfl (by decide) (by omega) v225 y224 l0 _ _ _ (fun _ => True) (fun _ => False) rfl rfl ?aO ?aR (fun _ _ h => h) (fun _ h => h.elim) ?aF ?aB ?aS ?aL ?_; (case aR => repeat (first | exact (Kd.C_below HR0.out HB.out) | (with_reducible refine Kd.C_alloc ?_ _) | (with_reducible refine Kd.C_drewN ?_ _) | (with_reducible refine Kd.C_drew ?_))); (case aB => exact (by repeat (first | (with_reducible first | exact HB.out | apply below_alloc | apply pw_below_drewN | apply below_drew1) | exact HB.out))); (case aF => exact (fun _ _ => trivial)); (case aO => exact (by (with_reducible repeat (first | apply Kd.R_alloc | apply Kd.R_drewN | apply Kd.R_drew)); exact HO226.out)); (case aS => exact (below_size (by repeat (first | (with_reducible first | exact HB.out | apply below_alloc | apply pw_below_drewN | apply below_drew1) | exact HB.out)))); (case aL => have := LMc2.out; omega); intro v228 w8 ho hb hg hat; rw [← Ny227.out] at ho; have n0_ := Aside0.mk (hb); have n1_ := Aside0.mk (ho); clear HB; clear HO226; have HB := n0_; have HO229 := n1_; clear n0_ n1_; clear ho hb hg hat; obtain ⟨Ao9, co9, eo9⟩ := Kd.R_slice HO229.out; subst eo9) | ((with_reducible refine gate_callee (f := 18) rfl ?_); refine goesL_ (some 16) rfl rfl Try.func18 (by kernel_rfl) rfl #[.slice Ao9 y227.length co9] rfl (by (try simp only [List.map_toArray, List.map_cons, List.map_nil]); first | done | rfl | (simp only [List.length_drop, List.length_take]; rfl)) ?_; (with_reducible refine (pack_Unpack.calls k (fun k_ => some k_ = (.slice Ao9 y227.length co9 : Value).ownBlock) _ _ y227 t230 t233 _ ?side1 A3.out).mono ?_); (case side1 => exact Kd.R_V (Kd.R_tight rfl (HO229.out))); rintro e w10 ⟨v231, rfl, ho0, hb⟩; refine ⟨_, rfl, ?_⟩; have n0_ := Aside0.mk (Kd.R_below (by (with_reducible repeat (first | apply Kd.R_alloc | apply Kd.R_drewN | apply Kd.R_drew)); exact HO229.out) hb); have n1_ := Aside0.mk (Kd.S_lower (Kd.S_new' (Kd.S_mono (ok' := fun k_ => True) ho0 (fun _ hk_ => trivial)) (Kd.R_lt (by (with_reducible repeat (first | apply Kd.R_alloc | apply Kd.R_drewN | apply Kd.R_drew)); exact HO229.out))) (below_size (by repeat (first | (with_reducible first | exact HB.out | apply below_alloc | apply pw_below_drewN | apply below_drew1) | exact HB.out)))); have n2_ := Aside0.mk (below_step (by repeat (first | (with_reducible first | exact HB.out | apply below_alloc | apply pw_below_drewN | apply below_drew1) | exact HB.out)) hb); clear HO229; clear HB; have HO229 := n0_; have HO232 := n1_; have HB := n2_; clear n0_ n1_ n2_; (try clear hb); (try clear hb2); (try clear hk); (try clear hi); (try clear ho0)) | ((with_reducible refine gate_callee (f := 19) rfl ?_); refine goesL_ (some 21) rfl rfl Try.func19 (by kernel_rfl) rfl #[.slice A0 l0.length c0] rfl (by (try simp only [List.map_toArray, List.map_cons, List.map_nil]); first | done | rfl | (simp only [List.length_drop, List.length_take]; rfl)) ?_; (with_reducible refine (gessoref11_Unpack.calls k (fun k_ => k_ < w.heap.size) _ _ l0 t234 t237 _ ?side1 A4.out).mono ?_); (case side1 => exact Kd.V_mk HC0.out (Kd.F_below (Kd.C_F (Kd.heap_int .u8) HR0.out) (by repeat (first | (with_reducible first | exact HB.out | apply below_alloc | apply pw_below_drewN | apply below_drew1) | exact HB.out)))); rintro e w11 ⟨v235, rfl, ho0, hb⟩; refine ⟨_, rfl, ?_⟩; have n0_ := Aside0.mk (Kd.R_below (by (with_reducible repeat (first | apply Kd.R_alloc | apply Kd.R_drewN | apply Kd.R_drew)); exact HO229.out) hb); have n1_ := Aside0.mk (Kd.S_elder' (by (with_reducible repeat (first | apply Kd.S_alloc | apply Kd.S_drewN | apply Kd.S_drew)); exact HO232.out) (Kd.S_base ho0) hb); have n2_ := Aside0.mk (Kd.S_lower (Kd.S_new' (Kd.S_new' (Kd.S_mono (ok' := fun k_ => True) ho0 (fun _ hk_ => trivial)) (Kd.R_lt (by (with_reducible repeat (first | apply Kd.R_alloc | apply Kd.R_drewN | apply Kd.R_drew)); exact HO229.out))) (Kd.S_lt (by (with_reducible repeat (first | apply Kd.S_alloc | apply Kd.S_drewN | apply Kd.S_drew)); exact HO232.out))) (below_size (by repeat (first | (with_reducible first | exact HB.out | apply below_alloc | apply pw_below_drewN | apply below_drew1) | exact HB.out)))); have n3_ := Aside0.mk (below_step (by repeat (first | (with_reducible first | exact HB.out | apply below_alloc | apply pw_below_drewN | apply below_drew1) | exact HB.out)) hb); clear HO229; clear HO232; clear HB; have HO229 := n0_; have HO232 := n1_; have HO236 := n2_; have HB := n3_; clear n0_ n1_ n2_ n3_; (try clear hb); (try clear hb2); (try clear hk); (try clear hi); (try clear ho0)))
    (try simp only [Act.put, List.setIfInBounds_toArray, List.set_cons_zero, List.set_cons_succ])
    go_cut [8] (fun v8 wc => ∃ (kq : Nat) (x8_4 : Bool), v8 = .bool x8_4 ∧ Aside0 (gessolaw11_PackUnpacks.j0 kq l0 y227 t230 x8_4 = some r) ∧ Aside0 (kq ≤ k) ∧ Aside0 (Kd.R (Kd.int .u8) 5 wc w.heap.size (fun _ => True) (.slice Ao9 y227.length co9) y227) ∧ Aside0 (Kd.S (Kd.slice 5 (Kd.int .u8)) 23 wc w.heap.size (fun k_ => some k_ ≠ ((.slice Ao9 y227.length co9) : Value).ownBlock) v231 t230) ∧ Aside0 (Below w.heap.size w wc))
    case first =>
      have H := HC5.out
      clear HC5
      replace H := Option.bind_eq_some_iff.mp H
      obtain ⟨t238, A120, H⟩ := H
      replace H : (if t238 = true then (gessolaw11_PackUnpacks.j0 k l0 y227 t230 (t233 == t237)) else (gessolaw11_PackUnpacks.j0 k l0 y227 t230 false)) = some r := H
      have A12 := Aside0.mk A120
      clear A120
      by_cases c13 : t238 = true
      · subst c13
        have H1 : (gessolaw11_PackUnpacks.j0 k l0 y227 t230 (t233 == t237)) = some r := by rw [if_pos rfl] at H; exact H
        clear H
        have H := H1
        clear H1
        have H' := Aside0.mk H
        clear H
        obtain ⟨Ao14, co14, eo14⟩ := Kd.S_slice HO232.out
        subst eo14
        obtain ⟨Ao15, co15, eo15⟩ := Kd.S_slice HO236.out
        subst eo15
        go_wp2_with (first | ((with_reducible refine gate_callee (f := 12) rfl ?_); refine goesL_ (some 26) rfl rfl Try.func12 (by kernel_rfl) rfl #[.slice Ao14 t230.length co14, .slice Ao15 t234.length co15] rfl (by (try simp only [List.map_toArray, List.map_cons, List.map_nil]); first | done | rfl | (simp only [List.length_drop, List.length_take]; rfl)) ?_; (with_reducible refine (gessolaw11_sameFields.calls k _ _ t230 _ _ t234 true _ ?side1 ?side2 ?side3 ?side4 A12.out).mono ?_); (case side1 => repeat (first | exact (Kd.S_reads' HO232.out).2.2 | (with_reducible refine Kd.C_alloc ?_ _) | (with_reducible refine Kd.C_drewN ?_ _) | (with_reducible refine Kd.C_drew ?_))); (case side2 => exact (Kd.S_reads' HO232.out).2.1); (case side3 => repeat (first | exact (Kd.S_reads' HO236.out).2.2 | (with_reducible refine Kd.C_alloc ?_ _) | (with_reducible refine Kd.C_drewN ?_ _) | (with_reducible refine Kd.C_drew ?_))); (case side4 => exact (Kd.S_reads' HO236.out).2.1); rintro e w' ⟨rfl, ⟨nd, rfl⟩⟩; refine ⟨_, rfl, ?_⟩))
        go_meet
        case rel => exact ⟨_, ((t233 == t237)), (by first | rfl | (simp; done) | (simp [*]; done)), H', ⟨by first | omega | exact Nat.le_refl _⟩, ⟨by (with_reducible repeat (first | apply Kd.R_alloc | apply Kd.R_drewN | apply Kd.R_drew)); exact HO229.out⟩, ⟨by (with_reducible repeat (first | apply Kd.S_alloc | apply Kd.S_drewN | apply Kd.S_drew)); exact Kd.S_mono HO232.out (fun _ hk => hk.1.2)⟩, ⟨by repeat (first | (with_reducible first | exact HB.out | apply below_alloc | apply pw_below_drewN | apply below_drew1) | exact HB.out)⟩⟩
      · replace c13 := Bool.eq_false_iff.mpr c13
        subst c13
        have H1 : (gessolaw11_PackUnpacks.j0 k l0 y227 t230 false) = some r := by rw [if_neg (show ¬ (false = true) by decide)] at H; exact H
        clear H
        have H := H1
        clear H1
        have H' := Aside0.mk H
        clear H
        obtain ⟨Ao16, co16, eo16⟩ := Kd.S_slice HO232.out
        subst eo16
        obtain ⟨Ao17, co17, eo17⟩ := Kd.S_slice HO236.out
        subst eo17
        go_wp2_with (first | ((with_reducible refine gate_callee (f := 12) rfl ?_); refine goesL_ (some 26) rfl rfl Try.func12 (by kernel_rfl) rfl #[.slice Ao16 t230.length co16, .slice Ao17 t234.length co17] rfl (by (try simp only [List.map_toArray, List.map_cons, List.map_nil]); first | done | rfl | (simp only [List.length_drop, List.length_take]; rfl)) ?_; (with_reducible refine (gessolaw11_sameFields.calls k _ _ t230 _ _ t234 false _ ?side1 ?side2 ?side3 ?side4 A12.out).mono ?_); (case side1 => repeat (first | exact (Kd.S_reads' HO232.out).2.2 | (with_reducible refine Kd.C_alloc ?_ _) | (with_reducible refine Kd.C_drewN ?_ _) | (with_reducible refine Kd.C_drew ?_))); (case side2 => exact (Kd.S_reads' HO232.out).2.1); (case side3 => repeat (first | exact (Kd.S_reads' HO236.out).2.2 | (with_reducible refine Kd.C_alloc ?_ _) | (with_reducible refine Kd.C_drewN ?_ _) | (with_reducible refine Kd.C_drew ?_))); (case side4 => exact (Kd.S_reads' HO236.out).2.1); rintro e w' ⟨rfl, ⟨nd, rfl⟩⟩; refine ⟨_, rfl, ?_⟩))
        go_meet
        case rel => exact ⟨_, (false), (by first | rfl | (simp; done) | (simp [*]; done)), H', ⟨by first | omega | exact Nat.le_refl _⟩, ⟨by (with_reducible repeat (first | apply Kd.R_alloc | apply Kd.R_drewN | apply Kd.R_drew)); exact HO229.out⟩, ⟨by (with_reducible repeat (first | apply Kd.S_alloc | apply Kd.S_drewN | apply Kd.S_drew)); exact Kd.S_mono HO232.out (fun _ hk => hk.1.2)⟩, ⟨by repeat (first | (with_reducible first | exact HB.out | apply below_alloc | apply pw_below_drewN | apply below_drew1) | exact HB.out)⟩⟩
    case rest =>
      clear HC5
      try clear c1
      try clear c2
      try clear p2
      try clear c5
      try clear c12
      try clear c13
      obtain ⟨kq, x8_4, rfl, HA, HJ4, HO_3, HO_4, HB⟩ := hcut
      cases kq with
      | zero => exact absurd HA.out (by simp [gessolaw11_PackUnpacks.j0])
      | succ kj4 =>
        have H := HA.out
        clear HA
        simp only [gessolaw11_PackUnpacks.j0] at H
        have H' := Aside0.mk H
        clear H
        go_wp2
        go_loopg [9] kj4 (fun kq v9 w' => ∃ (x3_2 : List Int) (x4_2 : List (List Int)) (x9_2 : Int), v9 = .int .i64 x9_2 ∧ Aside0 (gessolaw11_PackUnpacks.l0 kq l0 x3_2 x4_2 x8_4 x9_2 = some r) ∧ Aside0 (kq ≤ kj4) ∧ Aside0 (Kd.R (Kd.int .u8) 5 w' w.heap.size (fun _ => True) (.slice Ao9 y227.length co9) x3_2) ∧ Aside0 (Kd.S (Kd.slice 5 (Kd.int .u8)) 23 w' w.heap.size (fun k_ => some k_ ≠ ((.slice Ao9 y227.length co9) : Value).ownBlock) v231 x4_2) ∧ Aside0 (Below w.heap.size w w'))
        case atStart => exact ⟨(y227), (t230), (0), (by first | rfl | (simp; done) | (simp [*]; done)), H', ⟨Nat.le_refl _⟩, ⟨by (with_reducible repeat (first | apply Kd.R_alloc | apply Kd.R_drewN | apply Kd.R_drew)); exact HO_3.out⟩, ⟨by (with_reducible repeat (first | apply Kd.S_alloc | apply Kd.S_drewN | apply Kd.S_drew)); exact HO_4.out⟩, ⟨by repeat (first | (with_reducible first | exact HB.out | apply below_alloc | apply pw_below_drewN | apply below_drew1) | exact HB.out)⟩⟩
        case round =>
          clear H'
          try clear c1
          try clear c2
          try clear p2
          try clear c5
          try clear c12
          try clear c13
          try clear p2
          obtain ⟨x3_2, x4_2, x9_2, rfl, HA, HK2, HO_3, HO_4, HB⟩ := hrel
          have hl3_2 := (Kd.R_reads' HO_3.out).1
          rw [hl3_2] at HO_3
          (try simp only [hl3_2])
          (try simp only [hl3_2] at HO_4)
          cases gk with
          | zero => exact absurd HA.out (by simp [gessolaw11_PackUnpacks.l0])
          | succ k2 =>
            have H := HA.out
            clear HA
            simp only [gessolaw11_PackUnpacks.l0] at H
            by_cases c18 : x9_2 < (x4_2.length : Int)
            · rw [if_pos c18] at H
              have c18b0 : decide (x9_2 < (x4_2.length : Int)) = true := decide_eq_true c18
              clear c18
              have H' := Aside0.mk H
              clear H
              obtain ⟨Ao19, co19, eo19⟩ := Kd.S_slice HO_4.out
              subst eo19
              go_wp2
              go_loopg [10] k2 (fun kq v10 w' => ∃ (x3_3 : List Int) (x4_3 : List (List Int)) (x10_3 : Int), v10 = .int .i64 x10_3 ∧ Aside0 (gessolaw11_PackUnpacks.l1 kq l0 x3_3 x4_3 x8_4 x9_2 x10_3 = some r) ∧ Aside0 (kq ≤ k2) ∧ Aside0 (Kd.R (Kd.int .u8) 5 w' w.heap.size (fun _ => True) (.slice Ao9 x3_2.length co9) x3_3) ∧ Aside0 (Kd.S (Kd.slice 5 (Kd.int .u8)) 23 w' w.heap.size (fun k_ => some k_ ≠ ((.slice Ao9 x3_2.length co9) : Value).ownBlock) (.slice Ao19 x4_2.length co19) x4_3) ∧ Aside0 (Below w.heap.size w w'))
              case atStart => exact ⟨(x3_2), (x4_2), (0), (by first | rfl | (simp; done) | (simp [*]; done)), H', ⟨Nat.le_refl _⟩, ⟨by (try simp only [hl3_2]); (with_reducible repeat (first | apply Kd.R_alloc | apply Kd.R_drewN | apply Kd.R_drew)); exact HO_3.out⟩, ⟨by (try simp only [hl3_2]); (with_reducible repeat (first | apply Kd.S_alloc | apply Kd.S_drewN | apply Kd.S_drew)); exact HO_4.out⟩, ⟨by repeat (first | (with_reducible first | exact HB.out | apply below_alloc | apply pw_below_drewN | apply below_drew1) | exact HB.out)⟩⟩
              case round =>
                clear H'
                try clear c1
                try clear c2
                try clear p2
                try clear c5
                try clear c12
                try clear c13
                try clear c18
                try clear c18b0
                try clear c19
                try clear p2
                obtain ⟨x3_3, x4_3, x10_3, rfl, HA, HK3, HO_3, HO_4, HB⟩ := hrel
                have hl3_3 := (Kd.R_reads' HO_3.out).1
                rw [hl3_3] at HO_3
                (try simp only [hl3_3])
                (try simp only [hl3_3] at HO_4)
                have hl4_3 := (Kd.S_reads' HO_4.out).1
                rw [hl4_3] at HO_4
                (try simp only [hl4_3])
                (try simp only [hl4_3] at HO_3)
                cases gk with
                | zero => exact absurd HA.out (by simp [gessolaw11_PackUnpacks.l1])
                | succ k3 =>
                  have H := HA.out
                  clear HA
                  simp only [gessolaw11_PackUnpacks.l1] at H
                  by_cases c20 : 0 ≤ x9_2
                  · rw [if_pos c20] at H
                    have c20b0 : decide (0 ≤ x9_2) = true := decide_eq_true c20
                    clear c20
                    by_cases c21 : x9_2 < (x4_3.length : Int)
                    · rw [if_pos c21] at H
                      have c21b0 : decide (x9_2 < (x4_3.length : Int)) = true := decide_eq_true c21
                      clear c21
                      by_cases c22 : x10_3 < ((rd_L1 x4_3 x9_2).length : Int)
                      · rw [if_pos c22] at H
                        have c22b0 : decide (x10_3 < ((rd_L1 x4_3 x9_2).length : Int)) = true := decide_eq_true c22
                        clear c22
                        by_cases c23 : 0 ≤ x10_3
                        · rw [if_pos c23] at H
                          have c23b0 : decide (0 ≤ x10_3) = true := decide_eq_true c23
                          clear c23
                          obtain ⟨y243, hy243⟩ : ∃ y_ : List Int, y_ = ((rd_L1 x4_3 x9_2).set (x10_3 : Int).toNat (((rd (rd_L1 x4_3 x9_2) x10_3) + 1) % 256)) := ⟨_, rfl⟩
                          replace H : (gessolaw11_PackUnpacks.l1 k3 l0 x3_3 (x4_3.set (x9_2 : Int).toNat y243) x8_4 x9_2 (wrap64 (x10_3 + 1))) = some r := by first | (rw [hy243]; with_reducible exact H) | (have H2_ := (Option.bind_some _ _).symm.trans H; rw [hy243]; with_reducible exact H2_) | (have H2_ := (Option.bind_some _ _).symm.trans H; with_reducible exact H2_) | with_reducible exact H | (rw [hy243]; exact H) | exact H
                          have Ny243 := Aside0.mk hy243
                          clear hy243
                          obtain ⟨y245, hy245⟩ : ∃ y_ : List (List Int), y_ = (x4_3.set (x9_2 : Int).toNat y243) := ⟨_, rfl⟩
                          replace H : (gessolaw11_PackUnpacks.l1 k3 l0 x3_3 y245 x8_4 x9_2 (wrap64 (x10_3 + 1))) = some r := by first | (rw [hy245]; with_reducible exact H) | (have H2_ := (Option.bind_some _ _).symm.trans H; rw [hy245]; with_reducible exact H2_) | (have H2_ := (Option.bind_some _ _).symm.trans H; with_reducible exact H2_) | with_reducible exact H | (rw [hy245]; exact H) | exact H
                          have Ny245 := Aside0.mk hy245
                          clear hy245
                          have H' := Aside0.mk H
                          clear H
                          have p240 : 0 ≤ (x9_2 : Int) := of_decide_eq_true (by first | (with_reducible assumption) | assumption)
                          have q240 : x9_2 < (x4_3.length : Int) := of_decide_eq_true (by first | (with_reducible assumption) | assumption)
                          obtain ⟨ad240, A240_0, c240_0, e240, hx240_0, hl240_0, hi240_0⟩ := at_L1 (Kd.S_reads' HO_4.out).2.2 x9_2 p240 q240
                          cases e240
                          obtain ⟨ce240, hce240, hMe240, hcc240⟩ := Kd.S_get HO_4.out [] x9_2 p240 (by first | exact q240 | exact of_decide_eq_true (by first | (with_reducible assumption) | assumption) | (have e_ := (Kd.S_reads' HO_4.out).1; omega))
                          obtain ⟨ve240_0, rfl, ge240_0⟩ := hMe240
                          have hv240_0 := hcc240 0 _ rfl
                          rw [Nat.add_zero, show ((Kd.slice 5 (Kd.int .u8))).sz = 1 from rfl, Nat.mul_one] at hv240_0
                          replace hv240_0 := Option.some.inj (hv240_0.symm.trans hx240_0)
                          rw [hv240_0] at ge240_0
                          have HL240_0 := Aside0.mk (show Kd.R (Kd.int .u8) 5 _ _ _ _ (rd_L1 x4_3 x9_2) from ge240_0)
                          clear hv240_0 ge240_0
                          have HX240_0 := Aside0.mk hx240_0
                          clear hcc240 hce240
                          have HR240_0 := Aside0.mk hi240_0
                          have HC240_0 := Aside0.mk hl240_0
                          clear hi240_0 hl240_0
                          replace p240 := eq_true p240
                          replace q240 := eq_true q240
                          have p241 : 0 ≤ (x9_2 : Int) := of_decide_eq_true (by first | (with_reducible assumption) | assumption)
                          have q241 : x9_2 < (x4_3.length : Int) := of_decide_eq_true (by first | (with_reducible assumption) | assumption)
                          obtain ⟨ad241, A241_0, c241_0, e241, hx241_0, hl241_0, hi241_0⟩ := at_L1 (Kd.S_reads' HO_4.out).2.2 x9_2 p241 q241
                          obtain rfl : ad240 = ad241 := (by injection e241)
                          obtain ⟨ce241, hce241, hMe241, hcc241⟩ := Kd.S_get HO_4.out [] x9_2 p241 (by first | exact q241 | exact of_decide_eq_true (by first | (with_reducible assumption) | assumption) | (have e_ := (Kd.S_reads' HO_4.out).1; omega))
                          obtain ⟨ve241_0, rfl, ge241_0⟩ := hMe241
                          have hv241_0 := hcc241 0 _ rfl
                          rw [Nat.add_zero, show ((Kd.slice 5 (Kd.int .u8))).sz = 1 from rfl, Nat.mul_one] at hv241_0
                          replace hv241_0 := Option.some.inj (hv241_0.symm.trans hx241_0)
                          rw [hv241_0] at ge241_0
                          have HL241_0 := Aside0.mk (show Kd.R (Kd.int .u8) 5 _ _ _ _ (rd_L1 x4_3 x9_2) from ge241_0)
                          clear hv241_0 ge241_0
                          have HX241_0 := Aside0.mk hx241_0
                          clear hcc241 hce241
                          have HR241_0 := Aside0.mk hi241_0
                          have HC241_0 := Aside0.mk hl241_0
                          clear hi241_0 hl241_0
                          replace p241 := eq_true p241
                          replace q241 := eq_true q241
                          have ea_ := Option.some.inj (hx240_0.symm.trans hx241_0)
                          injection ea_ with ea_ en_ ec_
                          subst ea_
                          subst ec_
                          clear en_
                          have p242 : 0 ≤ (x10_3 : Int) := of_decide_eq_true (by first | (with_reducible assumption) | assumption)
                          have q242 : x10_3 < ((rd_L1 x4_3 x9_2).length : Int) := of_decide_eq_true (by first | (with_reducible assumption) | assumption)
                          obtain ⟨ad242, e242, hx242_0⟩ := Kd.at_int (by repeat (first | (with_reducible exact HR241_0.out) | (with_reducible refine Kd.C_alloc ?_ _) | (with_reducible refine Kd.C_drewN ?_ _) | (with_reducible refine Kd.C_drew ?_) | exact HR241_0.out)) x10_3 p242 q242
                          cases e242
                          replace p242 := eq_true p242
                          replace q242 := eq_true q242
                          have p24 : 0 ≤ (x10_3 : Int) := of_decide_eq_true (by first | (with_reducible assumption) | assumption)
                          have q24 : (x10_3 : Int) < (((rd_L1 x4_3 x9_2).length : Int) : Int) := of_decide_eq_true (by first | (with_reducible assumption) | assumption)
                          obtain ⟨go24, co24, eo24, gb24, gl24, cl24, HG24⟩ := Kd.R_form HL241_0.out (by omega)
                          (first | cases eo24 | (injection eo24 with ea_ en_ ec_; (first | subst ea_ | (injection ea_ with ea_; subst ea_)); subst ec_; clear en_))
                          have GB24 := Aside0.mk gb24
                          have GG24 := Aside0.mk HG24
                          clear gb24 gl24 HG24
                          (first | simp only [add_plain] at hx242_0 | skip)
                          obtain ⟨hx24_0, hf24_0⟩ := Kd.R_celln 0 HL241_0.out (x10_3 : Int) p24 q24
                          replace p24 := eq_true p24
                          replace q24 := eq_true q24
                          have hq25 : (x9_2 : Int) < (x4_3.length : Int) := (by have h_ : (x9_2 : Int) < ((x4_3.length : Int) : Int) := of_decide_eq_true (by first | (with_reducible assumption) | assumption); first | exact h_ | (have e_ := (Kd.S_reads' HO_4.out).1; omega) | simpa only [List.length_set, List.length_set] using h_)
                          obtain ⟨oki25, ce25, hcl25, hM25, hcc25, hok25, hbk25⟩ := Kd.S_borrow HO_4.out [] (x9_2 : Int) (of_decide_eq_true (by first | (with_reducible assumption) | assumption)) hq25
                          obtain ⟨ve25_0, rfl, ge25_0⟩ := hM25
                          have hv25 := hcc25 0 _ rfl
                          rw [Nat.add_zero, show ((Kd.slice 5 (Kd.int .u8))).sz = 1 from rfl, Nat.mul_one] at hv25
                          replace hv25 := Option.some.inj (hv25.symm.trans HX241_0.out)
                          subst hv25
                          clear hcc25 hcl25
                          replace ge25_0 := (show Kd.R (Kd.int .u8) 5 _ _ _ _ (rd_L1 x4_3 x9_2) from ge25_0)
                          have HP25 := Kd.R_putg ge25_0 (x10_3 : Int) (((rd (rd_L1 x4_3 x9_2) x10_3) + 1) % 256)
                          go_wp2_with (first | ((with_reducible refine gate_store (t := 5) (p := 55) rfl ?_); refine store_event (t := 5) (p := 55) (v := ?vo_w26) (w1 := (wr.setCell ⟨go24, (x10_3 : Int).toNat, none⟩ (.int .u8 (((rd (rd_L1 x4_3 x9_2) x10_3) + 1) % 256)))) ?hg ?ho ?hn ?hr ?_; (case ho => rfl); (case hg => rfl); (case hn => rfl); (case hr => first | (go_simp; done) | (go_simp; rfl)); intro w26 hw; have hg : wr.grownBy w26 (some go24) := (by rw [hw]; exact HP25.2); have hz_ : Kd.R (Kd.int .u8) 5 w26 w.heap.size oki25 (.slice (some ⟨go24, 0, none⟩) (rd_L1 x4_3 x9_2).length c240_0) y243 := (by rw [hw, Ny243.out]; exact HP25.1); have hp_ : Kd.S (Kd.slice 5 (Kd.int .u8)) 23 w26 w.heap.size (fun k_ => some k_ ≠ (.slice Ao9 x3_3.length co9 : Value).ownBlock) (.slice (some ad240) x4_3.length co19) y245 := (by rw [Ny245.out]; exact hbk25 hg (fun k_ e_ => by injection e_ with e_; subst e_; exact ge25_0.1 _ rfl) (Kd.M_row hz_)); have hm_ := Kd.R_mono hz_ hok25; clear HP25 hbk25; have n0_ := Aside0.mk (Kd.R_grown1 (by (with_reducible repeat (first | apply Kd.R_alloc | apply Kd.R_drewN | apply Kd.R_drew)); exact HO_3.out) rfl hg ((HL241_0.out.1 _ rfl).1)); have n1_ := Aside0.mk (hp_); have n2_ := Aside0.mk ((by rw [hw]; exact below_set (HB.out) GB24.out : Below w.heap.size w w26)); have n3_ := Aside0.mk (hm_); have n4_ := Aside0.mk ((Kd.R_reads' hm_).2.1); clear HO_3; clear HO_4; clear HB; clear HL240_0; clear HL241_0; have HO_3 := n0_; have HO_4 := n1_; have HB := n2_; have HL246 := n3_; have HC244 := n4_; clear n0_ n1_ n2_ n3_ n4_; clear hg hw hp_ hz_ hm_ hok25))
                          (try simp only [← hl3_3, ← hl4_3])
                          go_roundg k3
                          case measure => have := HJ4.out; have := HK2.out; have := HK3.out; omega
                          case rel => exact ⟨(x3_3), (y245), (wrap64 (x10_3 + 1)), (by first | rfl | (simp; done) | (simp [*]; done)), H', ⟨by have := HJ4.out; have := HK2.out; have := HK3.out; omega⟩, ⟨by (try simp only [hl3_2]); (try simp only [hl3_3]); (try simp only [hl4_3]); (with_reducible repeat (first | apply Kd.R_alloc | apply Kd.R_drewN | apply Kd.R_drew)); exact HO_3.out⟩, ⟨by (try simp only [hl3_2]); (try simp only [hl3_3]); (try simp only [hl4_3]); (with_reducible repeat (first | apply Kd.S_alloc | apply Kd.S_drewN | apply Kd.S_drew)); exact HO_4.out⟩, ⟨by repeat (first | (with_reducible first | exact HB.out | apply below_alloc | apply pw_below_drewN | apply below_drew1) | exact HB.out)⟩⟩
                        · rw [if_neg c23] at H
                          exact absurd H (by simp)
                      · rw [if_neg c22] at H
                        have c22b0 : decide (x10_3 < ((rd_L1 x4_3 x9_2).length : Int)) = false := decide_eq_false c22
                        clear c22
                        have H' := Aside0.mk H
                        clear H
                        have p240 : 0 ≤ (x9_2 : Int) := of_decide_eq_true (by first | (with_reducible assumption) | assumption)
                        have q240 : x9_2 < (x4_3.length : Int) := of_decide_eq_true (by first | (with_reducible assumption) | assumption)
                        obtain ⟨ad240, A240_0, c240_0, e240, hx240_0, hl240_0, hi240_0⟩ := at_L1 (Kd.S_reads' HO_4.out).2.2 x9_2 p240 q240
                        cases e240
                        obtain ⟨ce240, hce240, hMe240, hcc240⟩ := Kd.S_get HO_4.out [] x9_2 p240 (by first | exact q240 | exact of_decide_eq_true (by first | (with_reducible assumption) | assumption) | (have e_ := (Kd.S_reads' HO_4.out).1; omega))
                        obtain ⟨ve240_0, rfl, ge240_0⟩ := hMe240
                        have hv240_0 := hcc240 0 _ rfl
                        rw [Nat.add_zero, show ((Kd.slice 5 (Kd.int .u8))).sz = 1 from rfl, Nat.mul_one] at hv240_0
                        replace hv240_0 := Option.some.inj (hv240_0.symm.trans hx240_0)
                        rw [hv240_0] at ge240_0
                        have HL240_0 := Aside0.mk (show Kd.R (Kd.int .u8) 5 _ _ _ _ (rd_L1 x4_3 x9_2) from ge240_0)
                        clear hv240_0 ge240_0
                        have HX240_0 := Aside0.mk hx240_0
                        clear hcc240 hce240
                        have HR240_0 := Aside0.mk hi240_0
                        have HC240_0 := Aside0.mk hl240_0
                        clear hi240_0 hl240_0
                        replace p240 := eq_true p240
                        replace q240 := eq_true q240
                        go_wp2
                        (try simp only [← hl3_2, ← hl3_3, ← hl4_3])
                        go_roundg k3
                        case measure => have := HJ4.out; have := HK2.out; have := HK3.out; omega
                        case rel => exact ⟨(x3_3), (x4_3), (wrap64 (x9_2 + 1)), (by first | rfl | (simp; done) | (simp [*]; done)), H', ⟨by have := HJ4.out; have := HK2.out; have := HK3.out; omega⟩, ⟨by (try simp only [hl3_2]); (try simp only [hl3_3]); (try simp only [hl4_3]); (with_reducible repeat (first | apply Kd.R_alloc | apply Kd.R_drewN | apply Kd.R_drew)); exact HO_3.out⟩, ⟨by (try simp only [hl3_2]); (try simp only [hl3_3]); (try simp only [hl4_3]); (with_reducible repeat (first | apply Kd.S_alloc | apply Kd.S_drewN | apply Kd.S_drew)); exact HO_4.out⟩, ⟨by repeat (first | (with_reducible first | exact HB.out | apply below_alloc | apply pw_below_drewN | apply below_drew1) | exact HB.out)⟩⟩
                    · rw [if_neg c21] at H
                      exact absurd H (by simp)
                  · rw [if_neg c20] at H
                    exact absurd H (by simp)
            · rw [if_neg c18] at H
              have c18b0 : decide (x9_2 < (x4_2.length : Int)) = false := decide_eq_false c18
              clear c18
              by_cases c27 : x8_4 = true
              · subst c27
                have H1 : (if (strOfNums x3_2).toList = (strOfNums l0).toList then ((gessolaw11_awake.f k2).bind fun t239 => (some t239)) else (none)) = some r := by rw [if_pos rfl] at H; exact H
                clear H
                have H := H1
                clear H1
                by_cases c28 : (strOfNums x3_2).toList = (strOfNums l0).toList
                · rw [if_pos c28] at H
                  have c28b0 : ((strOfNums x3_2).toList == (strOfNums l0).toList) = true := beq_iff_eq.mpr c28
                  have c28b1 : ((strOfNums x3_2).toList != (strOfNums l0).toList) = false := bne_eq_false_iff_eq.mpr c28
                  clear c28
                  replace H := Option.bind_eq_some_iff.mp H
                  obtain ⟨t239, A290, H⟩ := H
                  replace H : (some t239) = some r := H
                  have A29 := Aside0.mk A290
                  clear A290
                  obtain rfl := Option.some.inj H
                  obtain ⟨Ao30, co30, eo30⟩ := Kd.S_slice HO_4.out
                  subst eo30
                  have hcv31 := own_string (P := Try.prog) Try.underlying23 Try.underlying5 Try.underlying9 (Kd.own_of_R HO_3.out)
                  have hcv32 := Kd.C_string (P := Try.prog) (A := A0) (c := c0) Try.underlying23 Try.underlying5 Try.underlying9 (Kd.C_below HR0.out HB.out)
                  go_wp2_with (first | (go_at_call 13; (with_reducible refine (gessolaw11_awake.calls k2  t239 _ A29.out).mono ?_); rintro e w33 ⟨rfl, hb⟩; have n0_ := Aside0.mk (Kd.R_below (by (with_reducible repeat (first | apply Kd.R_alloc | apply Kd.R_drewN | apply Kd.R_drew)); exact HO_3.out) hb); have n1_ := Aside0.mk (Kd.S_below (by (with_reducible repeat (first | apply Kd.S_alloc | apply Kd.S_drewN | apply Kd.S_drew)); exact HO_4.out) hb); have n2_ := Aside0.mk (below_step (by repeat (first | (with_reducible first | exact HB.out | apply below_alloc | apply pw_below_drewN | apply below_drew1) | exact HB.out)) hb); clear HO_3; clear HO_4; clear HB; have HO_3 := n0_; have HO_4 := n1_; have HB := n2_; clear n0_ n1_ n2_; (try clear hb); (try clear hb2); (try clear hk); (try clear hi)))
                  go_ret
                  exact ⟨by first | rfl | (simp [errW_none, errW_some] <;> rfl) | (simp [*, errW_none, errW_some] <;> rfl), by repeat (first | (with_reducible first | exact HB.out | apply below_alloc | apply pw_below_drewN | apply below_drew1) | exact HB.out)⟩
                · rw [if_neg c28] at H
                  exact absurd H (by simp)
              · replace c27 := Bool.eq_false_iff.mpr c27
                subst c27
                have H1 : (none) = some r := by rw [if_neg (show ¬ (false = true) by decide)] at H; exact H
                clear H
                have H := H1
                clear H1
                exact absurd H (by simp)
  · rw [if_neg c2] at H
    exact absurd H (by simp)

/-- THE ONE PURE STATEMENT of gessolaw11_PackUnpacks: yours. -/
def gessolaw11_PackUnpacks.Pure : Prop := ∀ (l0 : List Int), l0.length ≤ maxLen → l0.length * 1 ≤ 140737488351232 → (∀ x ∈ l0, (Lit.int .u8 x).wf = true) → ∃ k, gessolaw11_PackUnpacks.f k l0 = some true
theorem gessolaw11_PackUnpacks.walk (P : gessolaw11_PackUnpacks.Pure) (a0 : Option Addr) (len0 cap0 : Nat) (z0 : List Int) (w : World) (w0 : (a0 = none ∧ len0 = 0 ∧ cap0 = 0 ∧ z0 = []) ∨ ∃ x, a0 = some x ∧ len0 ≤ cap0 ∧ cap0 ≤ maxLen ∧ z0.length = cap0 ∧ (∀ i, i < z0.length → w.cell? (x.add i) = some (.int .u8 (z0.getD i 0))) ∧ ∀ n ∈ z0, (Lit.int .u8 n).wf = true) (y0 : len0 * 1 ≤ 140737488351232) :
    Calls Try.prog 5 #[.slice a0 len0 cap0] w fun e w' => e = .returned (.bool true) ∧ Below w.heap.size w w' := by
  obtain ⟨l0, rfl, hr0, hm0, hw0, hc0⟩ := ReadsInt.ofRowC w0
  obtain ⟨k, h⟩ := P l0 hm0 y0 hw0
  refine (gessolaw11_PackUnpacks.calls k _ _ l0 true w (Kd.C_of_reads (d := (0 : Int)) (h1 := fun _ => rfl) hr0) hc0 h).mono ?_
  rintro e w' ⟨rfl, hd⟩
  exact ⟨rfl, hd⟩

end Go.Proofs.Ytejbkjbldmaodaa.P
