/- Functions of the translated program as plain Lean functions, and proofs that their calls come to these. Written by a program of the session. No condition. -/
import Derived.Test.YtejbkjbldmaodaaPx0
import Derived.Test.YtejbkjbldmaodaaPx12
namespace Go.Proofs.Ytejbkjbldmaodaa.P
open Go.RowKit Go.Proofs.YtejbkjbldmaodaaW.PrintWords Go.Proofs.YtejbkjbldmaodaaW.PrintLast Go.Proofs.YtejbkjbldmaodaaW.PrintMore
attribute [local go_sem] max2_int min2_int max_two min_two max_three min_three max_four min_four   -- for this text's walks alone
set_option linter.unusedVariables false
set_option linter.unusedSimpArgs false

/-! ### gessoref11_Strings: function 23 -/
def gessoref11_Strings.l0 : Nat → List (List Int) → Int → List ByteArray → Int → Option (List ByteArray × Int)
  | 0, _, _, _, _ => none
  | k + 1, x4, x5, x6, x7 => if x7 < (x4.length : Int) then (if 0 ≤ x7 then (if x6.length < 8796093022208 then (gessoref11_Strings.l0 k x4 x5 (x6 ++ [strOfNums (rd_L1 x4 x7)]) (wrap64 (x7 + 1))) else (none)) else (none)) else (some (x6, x5))
def gessoref11_Strings.f (k : Nat) (l0 : List Int) : Option (List ByteArray × Int) := (gessoref11_Unpack.f k l0).bind fun bt344 => (gessoref11_Strings.l0 k bt344.1 bt344.2 ([] : List ByteArray) 0)
theorem gessoref11_Strings.mono_l : ∀ k, (∀ y0 y1 y2 y3, LeO (gessoref11_Strings.l0 k y0 y1 y2 y3) (gessoref11_Strings.l0 (k + 1) y0 y1 y2 y3))
  | 0 => fun _ _ _ _ r h => by simp [gessoref11_Strings.l0] at h
  | k + 1 => by
    have ih0 := gessoref11_Strings.mono_l k
    · intro y0 y1 y2 y3
      unfold gessoref11_Strings.l0
      repeat' first
      | (with_reducible exact ih0 _ _ _ _)
      | (with_reducible exact gessoref11_Unpack.mono _ _)
      | (with_reducible exact LeO.refl _)
      | (with_reducible exact LeO.none _)
      | (with_reducible refine LeO.ite ?_ ?_)
      | (with_reducible refine LeO.bind ?_ (fun _ => ?_))
      | exact ih0 _ _ _ _
      | exact gessoref11_Unpack.mono _ _
      | exact LeO.none _
      | refine LeO.ite ?_ ?_
      | refine LeO.bind ?_ (fun _ => ?_)
theorem gessoref11_Strings.mono : ∀ a0 k, LeO (gessoref11_Strings.f k a0) (gessoref11_Strings.f (k + 1) a0) := by
  intro a0 k
  have ih0 := gessoref11_Strings.mono_l k
  unfold gessoref11_Strings.f
  repeat' first
      | (with_reducible exact ih0 _ _ _ _)
      | (with_reducible exact gessoref11_Unpack.mono _ _)
      | (with_reducible exact LeO.refl _)
      | (with_reducible exact LeO.none _)
      | (with_reducible refine LeO.ite ?_ ?_)
      | (with_reducible refine LeO.bind ?_ (fun _ => ?_))
      | exact ih0 _ _ _ _
      | exact gessoref11_Unpack.mono _ _
      | exact LeO.none _
      | refine LeO.ite ?_ ?_
      | refine LeO.bind ?_ (fun _ => ?_)
set_option maxHeartbeats 8000000 in
set_option maxRecDepth 100000 in
theorem gessoref11_Strings.calls (k : Nat) (A0 : Option Addr) (c0 : Nat) (l0 : List Int) (r1 : List ByteArray) (r2 : Int) (w : World) (hr0 : Kd.C (Kd.int .u8) w A0 l0.length l0) (hc0 : l0.length ≤ c0) (h : gessoref11_Strings.f k l0 = some (r1, r2)) :
    Calls Try.prog 23 #[.slice A0 l0.length c0] w fun e w' => ∃ v0_ : Value, e = .returned (.tuple #[v0_, .int .i64 r2]) ∧ Kd.R Kd.string 9 w' w.heap.size (fun _ => True) v0_ r1 ∧ Below w.heap.size w w' := by
  have HR0 := Aside0.mk hr0
  have HC0 := Aside0.mk hc0
  clear hr0 hc0
  have HB := Aside0.mk (Below.refl w.heap.size w)
  have H : ((gessoref11_Unpack.f k l0).bind fun bt344 => (gessoref11_Strings.l0 k bt344.1 bt344.2 ([] : List ByteArray) 0)) = some (r1, r2) := h
  clear h
  replace H := Option.bind_eq_some_iff.mp H
  obtain ⟨⟨t344, t347⟩, A20, H⟩ := H
  replace H : (gessoref11_Strings.l0 k t344 t347 ([] : List ByteArray) 0) = some (r1, r2) := H
  have A2 := Aside0.mk A20
  clear A20
  have H' := Aside0.mk H
  clear H
  go_enter Try.func23, Try.ntmps23
  go_wp2_with (first | ((with_reducible refine gate_callee (f := 19) rfl ?_); refine goesL_ (some 10) rfl rfl Try.func19 (by kernel_rfl) rfl #[.slice A0 l0.length c0] rfl (by (try simp only [List.map_toArray, List.map_cons, List.map_nil]); first | done | rfl | (simp only [List.length_drop, List.length_take]; rfl)) ?_; (with_reducible refine (gessoref11_Unpack.calls k (fun k_ => k_ < w.heap.size) _ _ l0 t344 t347 _ ?side1 A2.out).mono ?_); (case side1 => exact Kd.V_mk HC0.out (Kd.F_below (Kd.C_F (Kd.heap_int .u8) HR0.out) (by repeat (first | (with_reducible first | exact HB.out | apply below_alloc | apply pw_below_drewN | apply below_drew1) | exact HB.out)))); rintro e w3 ⟨v345, rfl, ho0, hb⟩; refine ⟨_, rfl, ?_⟩; have n0_ := Aside0.mk (Kd.S_lower (Kd.S_mono (ok' := fun k_ => True) ho0 (fun _ hk_ => trivial)) (below_size (by repeat (first | (with_reducible first | exact HB.out | apply below_alloc | apply pw_below_drewN | apply below_drew1) | exact HB.out)))); have n1_ := Aside0.mk (below_step (by repeat (first | (with_reducible first | exact HB.out | apply below_alloc | apply pw_below_drewN | apply below_drew1) | exact HB.out)) hb); clear HB; have HO346 := n0_; have HB := n1_; clear n0_ n1_; (try clear hb); (try clear hb2); (try clear hk); (try clear hi); (try clear ho0)))
  go_loopg [6, 7] k (fun kq v6 v7 w' => ∃ (x6_1 : List ByteArray) (x7_1 : Int), v7 = .int .i64 x7_1 ∧ Aside0 (gessoref11_Strings.l0 kq t344 t347 x6_1 x7_1 = some (r1, r2)) ∧ Aside0 (kq ≤ k) ∧ Aside0 (Kd.S (Kd.slice 5 (Kd.int .u8)) 23 w' w.heap.size (fun _ => True) v345 t344) ∧ Aside0 (Kd.R Kd.string 9 w' w.heap.size (fun _ => True) v6 x6_1) ∧ Aside0 (Below w.heap.size w w'))
  case atStart => exact ⟨(([] : List ByteArray)), (0), (by first | rfl | (simp; done) | (simp [*]; done)), H', ⟨Nat.le_refl _⟩, ⟨by (with_reducible repeat (first | apply Kd.S_alloc | apply Kd.S_drewN | apply Kd.S_drew)); exact HO346.out⟩, ⟨by first | exact Kd.R_nil _ _ _ _ _ | exact Kd.N_nil _ _ _ _ _ | exact Kd.V_nil _ _ _ _ _ | exact Kd.Q_nil _ _ _ _ _ | exact Kd.S_nil _ _ _ _ _⟩, ⟨by repeat (first | (with_reducible first | exact HB.out | apply below_alloc | apply pw_below_drewN | apply below_drew1) | exact HB.out)⟩⟩
  case round =>
    clear H'
    try clear c1
    try clear c2
    try clear p2
    obtain ⟨x6_1, x7_1, rfl, HA, HK1, HO_4, HO_6, HB⟩ := hrel
    cases gk with
    | zero => exact absurd HA.out (by simp [gessoref11_Strings.l0])
    | succ k1 =>
      have H := HA.out
      clear HA
      simp only [gessoref11_Strings.l0] at H
      by_cases c4 : x7_1 < (t344.length : Int)
      · rw [if_pos c4] at H
        have c4b0 : decide (x7_1 < (t344.length : Int)) = true := decide_eq_true c4
        clear c4
        by_cases c5 : 0 ≤ x7_1
        · rw [if_pos c5] at H
          have c5b0 : decide (0 ≤ x7_1) = true := decide_eq_true c5
          clear c5
          by_cases c6 : x6_1.length < 8796093022208
          · rw [if_pos c6] at H
            have LMc6 := Aside0.mk c6
            clear c6
            obtain ⟨y349, hy349⟩ : ∃ y_ : List ByteArray, y_ = (x6_1 ++ [strOfNums (rd_L1 t344 x7_1)]) := ⟨_, rfl⟩
            replace H : (gessoref11_Strings.l0 k1 t344 t347 y349 (wrap64 (x7_1 + 1))) = some (r1, r2) := by first | (rw [hy349]; with_reducible exact H) | (have H2_ := (Option.bind_some _ _).symm.trans H; rw [hy349]; with_reducible exact H2_) | (have H2_ := (Option.bind_some _ _).symm.trans H; with_reducible exact H2_) | with_reducible exact H | (rw [hy349]; exact H) | exact H
            have Ny349 := Aside0.mk hy349
            clear hy349
            have H' := Aside0.mk H
            clear H
            obtain ⟨Ao7, co7, eo7⟩ := Kd.S_slice HO_4.out
            subst eo7
            have p348 : 0 ≤ (x7_1 : Int) := of_decide_eq_true (by first | (with_reducible assumption) | assumption)
            have q348 : x7_1 < (t344.length : Int) := of_decide_eq_true (by first | (with_reducible assumption) | assumption)
            obtain ⟨ad348, A348_0, c348_0, e348, hx348_0, hl348_0, hi348_0⟩ := at_L1 (Kd.S_reads' HO_4.out).2.2 x7_1 p348 q348
            cases e348
            obtain ⟨ce348, hce348, hMe348, hcc348⟩ := Kd.S_get HO_4.out [] x7_1 p348 (by first | exact q348 | exact of_decide_eq_true (by first | (with_reducible assumption) | assumption) | (have e_ := (Kd.S_reads' HO_4.out).1; omega))
            obtain ⟨ve348_0, rfl, ge348_0⟩ := hMe348
            have hv348_0 := hcc348 0 _ rfl
            rw [Nat.add_zero, show ((Kd.slice 5 (Kd.int .u8))).sz = 1 from rfl, Nat.mul_one] at hv348_0
            replace hv348_0 := Option.some.inj (hv348_0.symm.trans hx348_0)
            rw [hv348_0] at ge348_0
            have HL348_0 := Aside0.mk (show Kd.R (Kd.int .u8) 5 _ _ _ _ (rd_L1 t344 x7_1) from ge348_0)
            clear hv348_0 ge348_0
            clear hcc348 hce348
            have HR348_0 := Aside0.mk hi348_0
            have HC348_0 := Aside0.mk hl348_0
            clear hi348_0 hl348_0
            replace p348 := eq_true p348
            replace q348 := eq_true q348
            have hcv8 := Kd.C_string (P := Try.prog) (A := A348_0) (c := c348_0) Try.underlying23 Try.underlying5 Try.underlying9 (by repeat (first | (with_reducible exact HR348_0.out) | (with_reducible refine Kd.C_alloc ?_ _) | (with_reducible refine Kd.C_drewN ?_ _) | (with_reducible refine Kd.C_drew ?_) | exact HR348_0.out))
            go_wp2_with (first | ((with_reducible refine gate_builtin (b := .append) (xs := #[.tmp 19, .tmp 25]) rfl ?_); at_builtin; refine Kd.R_append Kd.string (w0 := w) w.heap.size rfl (.tmp 19) (.tmp 25) 47 9 (.string ⟨#[]⟩) 16 rfl Try.underlying47 info9 rfl (by decide) (by omega) u6 x6_1 (strOfNums (rd_L1 t344 x7_1)) [.string (strOfNums (rd_L1 t344 x7_1))] (fun _ => True) (fun _ => False) rfl rfl ?aP (fun _ hk => hk.elim) ?aF ?aO ?aB ?aS ?aL ?_; (case aP => exact rfl); (case aB => exact (by repeat (first | (with_reducible first | exact HB.out | apply below_alloc | apply pw_below_drewN | apply below_drew1) | exact HB.out))); (case aF => exact (fun _ _ => trivial)); (case aO => exact (by (with_reducible repeat (first | apply Kd.R_alloc | apply Kd.R_drewN | apply Kd.R_drew)); exact HO_6.out)); (case aS => exact (below_size (by repeat (first | (with_reducible first | exact HB.out | apply below_alloc | apply pw_below_drewN | apply below_drew1) | exact HB.out)))); (case aL => have := LMc6.out; omega); intro v350 w9 ho hb hg hat; rw [← Ny349.out] at ho; have n0_ := Aside0.mk (Kd.S_over' (by (with_reducible repeat (first | apply Kd.S_alloc | apply Kd.S_drewN | apply Kd.S_drew)); exact HO_4.out) (Kd.R_typed (by (with_reducible repeat (first | apply Kd.R_alloc | apply Kd.R_drewN | apply Kd.R_drew)); exact HO_6.out)) (by decide) hg); have n1_ := Aside0.mk (Kd.R_over' (by (with_reducible repeat (first | apply Kd.R_alloc | apply Kd.R_drewN | apply Kd.R_drew)); exact HL348_0.out) (Kd.R_typed (by (with_reducible repeat (first | apply Kd.R_alloc | apply Kd.R_drewN | apply Kd.R_drew)); exact HO_6.out)) (by decide) hg); have n2_ := Aside0.mk (hb); have n3_ := Aside0.mk (ho); clear HO_4; clear HL348_0; clear HB; clear HO_6; have HO_4 := n0_; have HL348_0 := n1_; have HB := n2_; have HO351 := n3_; clear n0_ n1_ n2_ n3_; clear ho hb hg hat))
            go_roundg k1
            case measure => have := HK1.out; omega
            case rel => exact ⟨(y349), (wrap64 (x7_1 + 1)), (by first | rfl | (simp; done) | (simp [*]; done)), H', ⟨by have := HK1.out; omega⟩, ⟨by (with_reducible repeat (first | apply Kd.S_alloc | apply Kd.S_drewN | apply Kd.S_drew)); exact HO_4.out⟩, ⟨by (with_reducible repeat (first | apply Kd.R_alloc | apply Kd.R_drewN | apply Kd.R_drew)); exact HO351.out⟩, ⟨by repeat (first | (with_reducible first | exact HB.out | apply below_alloc | apply pw_below_drewN | apply below_drew1) | exact HB.out)⟩⟩
          · rw [if_neg c6] at H
            exact absurd H (by simp)
        · rw [if_neg c5] at H
          exact absurd H (by simp)
      · rw [if_neg c4] at H
        have c4b0 : decide (x7_1 < (t344.length : Int)) = false := decide_eq_false c4
        clear c4
        simp only [Option.some.injEq, Prod.mk.injEq] at H
        obtain ⟨rfl, rfl⟩ := H
        obtain ⟨Ao10, co10, eo10⟩ := Kd.S_slice HO_4.out
        subst eo10
        go_wp2
        go_ret2
        exact ⟨_, by first | rfl | (simp [errW_none, errW_some] <;> rfl) | (simp [*, errW_none, errW_some] <;> rfl), by (with_reducible repeat (first | apply Kd.R_alloc | apply Kd.R_drewN | apply Kd.R_drew)); exact HO_6.out, by repeat (first | (with_reducible first | exact HB.out | apply below_alloc | apply pw_below_drewN | apply below_drew1) | exact HB.out)⟩

end Go.Proofs.Ytejbkjbldmaodaa.P
