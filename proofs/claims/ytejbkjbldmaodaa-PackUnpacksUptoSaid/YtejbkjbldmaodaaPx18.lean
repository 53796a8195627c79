/- Functions of the translated program as plain Lean functions, and proofs that their calls come to these. Written by a program of the session. No condition. -/
import Derived.Test.YtejbkjbldmaodaaPx0
import Derived.Test.YtejbkjbldmaodaaPx11
namespace Go.Proofs.Ytejbkjbldmaodaa.P
open Go.RowKit Go.Proofs.YtejbkjbldmaodaaW.PrintWords Go.Proofs.YtejbkjbldmaodaaW.PrintLast Go.Proofs.YtejbkjbldmaodaaW.PrintMore
attribute [local go_sem] max2_int min2_int max_two min_two max_three min_three max_four min_four   -- for this text's walks alone
set_option linter.unusedVariables false
set_option linter.unusedSimpArgs false

/-! ### pack_Strings: function 22 -/
def pack_Strings.l0 : Nat → Int → List ByteArray → List (List Int) → Int → Int → Option (List ByteArray × Int)
  | 0, _, _, _, _, _ => none
  | k + 1, x5, x6, x14, x15, x16 => if x16 < x15 then (if 0 ≤ x16 then (if x16 < (x14.length : Int) then (if x6.length < 8796093022208 then (pack_Strings.l0 k x5 (x6 ++ [strOfNums (rd_L1 x14 x16)]) x14 x15 (wrap64 (x16 + 1))) else (none)) else (none)) else (none)) else (some (x6, x5))
def pack_Strings.f (k : Nat) (l0 : List Int) : Option (List ByteArray × Int) := (pack_Unpack.f k l0).bind fun bt336 => (pack_Strings.l0 k bt336.2 ([] : List ByteArray) bt336.1 (bt336.1.length : Int) 0)
theorem pack_Strings.mono_l : ∀ k, (∀ y0 y1 y2 y3 y4, LeO (pack_Strings.l0 k y0 y1 y2 y3 y4) (pack_Strings.l0 (k + 1) y0 y1 y2 y3 y4))
  | 0 => fun _ _ _ _ _ r h => by simp [pack_Strings.l0] at h
  | k + 1 => by
    have ih0 := pack_Strings.mono_l k
    · intro y0 y1 y2 y3 y4
      unfold pack_Strings.l0
      repeat' first
      | (with_reducible exact ih0 _ _ _ _ _)
      | (with_reducible exact pack_Unpack.mono _ _)
      | (with_reducible exact LeO.refl _)
      | (with_reducible exact LeO.none _)
      | (with_reducible refine LeO.ite ?_ ?_)
      | (with_reducible refine LeO.bind ?_ (fun _ => ?_))
      | exact ih0 _ _ _ _ _
      | exact pack_Unpack.mono _ _
      | exact LeO.none _
      | refine LeO.ite ?_ ?_
      | refine LeO.bind ?_ (fun _ => ?_)
theorem pack_Strings.mono : ∀ a0 k, LeO (pack_Strings.f k a0) (pack_Strings.f (k + 1) a0) := by
  intro a0 k
  have ih0 := pack_Strings.mono_l k
  unfold pack_Strings.f
  repeat' first
      | (with_reducible exact ih0 _ _ _ _ _)
      | (with_reducible exact pack_Unpack.mono _ _)
      | (with_reducible exact LeO.refl _)
      | (with_reducible exact LeO.none _)
      | (with_reducible refine LeO.ite ?_ ?_)
      | (with_reducible refine LeO.bind ?_ (fun _ => ?_))
      | exact ih0 _ _ _ _ _
      | exact pack_Unpack.mono _ _
      | exact LeO.none _
      | refine LeO.ite ?_ ?_
      | refine LeO.bind ?_ (fun _ => ?_)
set_option maxHeartbeats 8000000 in
set_option maxRecDepth 100000 in
theorem pack_Strings.calls (k : Nat) (A0 : Option Addr) (c0 : Nat) (l0 : List Int) (r1 : List ByteArray) (r2 : Int) (w : World) (hr0 : Kd.C (Kd.int .u8) w A0 l0.length l0) (hc0 : l0.length ≤ c0) (h : pack_Strings.f k l0 = some (r1, r2)) :
    Calls Try.prog 22 #[.slice A0 l0.length c0] w fun e w' => ∃ v0_ : Value, e = .returned (.tuple #[v0_, .int .i64 r2]) ∧ Kd.R Kd.string 9 w' w.heap.size (fun _ => True) v0_ r1 ∧ Below w.heap.size w w' := by
  have HR0 := Aside0.mk hr0
  have HC0 := Aside0.mk hc0
  clear hr0 hc0
  have HB := Aside0.mk (Below.refl w.heap.size w)
  have H : ((pack_Unpack.f k l0).bind fun bt336 => (pack_Strings.l0 k bt336.2 ([] : List ByteArray) bt336.1 (bt336.1.length : Int) 0)) = some (r1, r2) := h
  clear h
  replace H := Option.bind_eq_some_iff.mp H
  obtain ⟨⟨t336, t339⟩, A20, H⟩ := H
  replace H : (pack_Strings.l0 k t339 ([] : List ByteArray) t336 (t336.length : Int) 0) = some (r1, r2) := H
  have A2 := Aside0.mk A20
  clear A20
  have H' := Aside0.mk H
  clear H
  go_enter Try.func22, Try.ntmps22
  go_wp2_with (first | ((with_reducible refine gate_callee (f := 18) rfl ?_); refine goesL_ (some 11) rfl rfl Try.func18 (by kernel_rfl) rfl #[.slice A0 l0.length c0] rfl (by (try simp only [List.map_toArray, List.map_cons, List.map_nil]); first | done | rfl | (simp only [List.length_drop, List.length_take]; rfl)) ?_; (with_reducible refine (pack_Unpack.calls k (fun k_ => k_ < w.heap.size) _ _ l0 t336 t339 _ ?side1 A2.out).mono ?_); (case side1 => exact Kd.V_mk HC0.out (Kd.F_below (Kd.C_F (Kd.heap_int .u8) HR0.out) (by repeat (first | (with_reducible first | exact HB.out | apply below_alloc | apply pw_below_drewN | apply below_drew1) | exact HB.out)))); rintro e w3 ⟨v337, rfl, ho0, hb⟩; refine ⟨_, rfl, ?_⟩; have n0_ := Aside0.mk (Kd.S_lower (Kd.S_mono (ok' := fun k_ => True) ho0 (fun _ hk_ => trivial)) (below_size (by repeat (first | (with_reducible first | exact HB.out | apply below_alloc | apply pw_below_drewN | apply below_drew1) | exact HB.out)))); have n1_ := Aside0.mk (below_step (by repeat (first | (with_reducible first | exact HB.out | apply below_alloc | apply pw_below_drewN | apply below_drew1) | exact HB.out)) hb); clear HB; have HO338 := n0_; have HB := n1_; clear n0_ n1_; (try clear hb); (try clear hb2); (try clear hk); (try clear hi); (try clear ho0); obtain ⟨Ao4, co4, eo4⟩ := Kd.S_slice HO338.out; subst eo4))
  go_loopg [6, 16] k (fun kq v6 v16 w' => ∃ (x6_1 : List ByteArray) (x16_1 : Int), v16 = .int .i64 x16_1 ∧ Aside0 (pack_Strings.l0 kq t339 x6_1 t336 (t336.length : Int) x16_1 = some (r1, r2)) ∧ Aside0 (kq ≤ k) ∧ Aside0 (Kd.R Kd.string 9 w' w.heap.size (fun _ => True) v6 x6_1) ∧ Aside0 (Kd.S (Kd.slice 5 (Kd.int .u8)) 23 w' w.heap.size (fun _ => True) (.slice Ao4 t336.length co4) t336) ∧ Aside0 (Below w.heap.size w w'))
  case atStart => exact ⟨(([] : List ByteArray)), (0), (by first | rfl | (simp; done) | (simp [*]; done)), H', ⟨Nat.le_refl _⟩, ⟨by first | exact Kd.R_nil _ _ _ _ _ | exact Kd.N_nil _ _ _ _ _ | exact Kd.V_nil _ _ _ _ _ | exact Kd.Q_nil _ _ _ _ _ | exact Kd.S_nil _ _ _ _ _⟩, ⟨by (with_reducible repeat (first | apply Kd.S_alloc | apply Kd.S_drewN | apply Kd.S_drew)); exact HO338.out⟩, ⟨by repeat (first | (with_reducible first | exact HB.out | apply below_alloc | apply pw_below_drewN | apply below_drew1) | exact HB.out)⟩⟩
  case round =>
    clear H'
    try clear c1
    try clear c2
    try clear p2
    obtain ⟨x6_1, x16_1, rfl, HA, HK1, HO_6, HO_14, HB⟩ := hrel
    cases gk with
    | zero => exact absurd HA.out (by simp [pack_Strings.l0])
    | succ k1 =>
      have H := HA.out
      clear HA
      simp only [pack_Strings.l0] at H
      by_cases c5 : x16_1 < (t336.length : Int)
      · rw [if_pos c5] at H
        have c5b0 : decide (x16_1 < (t336.length : Int)) = true := decide_eq_true c5
        clear c5
        by_cases c6 : 0 ≤ x16_1
        · rw [if_pos c6] at H
          have c6b0 : decide (0 ≤ x16_1) = true := decide_eq_true c6
          clear c6
          by_cases c7 : x16_1 < (t336.length : Int)
          · rw [if_pos c7] at H
            have c7b0 : decide (x16_1 < (t336.length : Int)) = true := decide_eq_true c7
            clear c7
            by_cases c8 : x6_1.length < 8796093022208
            · rw [if_pos c8] at H
              have LMc8 := Aside0.mk c8
              clear c8
              obtain ⟨y341, hy341⟩ : ∃ y_ : List ByteArray, y_ = (x6_1 ++ [strOfNums (rd_L1 t336 x16_1)]) := ⟨_, rfl⟩
              replace H : (pack_Strings.l0 k1 t339 y341 t336 (t336.length : Int) (wrap64 (x16_1 + 1))) = some (r1, r2) := by first | (rw [hy341]; with_reducible exact H) | (have H2_ := (Option.bind_some _ _).symm.trans H; rw [hy341]; with_reducible exact H2_) | (have H2_ := (Option.bind_some _ _).symm.trans H; with_reducible exact H2_) | with_reducible exact H | (rw [hy341]; exact H) | exact H
              have Ny341 := Aside0.mk hy341
              clear hy341
              have H' := Aside0.mk H
              clear H
              have p340 : 0 ≤ (x16_1 : Int) := of_decide_eq_true (by first | (with_reducible assumption) | assumption)
              have q340 : x16_1 < (t336.length : Int) := of_decide_eq_true (by first | (with_reducible assumption) | assumption)
              obtain ⟨ad340, A340_0, c340_0, e340, hx340_0, hl340_0, hi340_0⟩ := at_L1 (Kd.S_reads' HO_14.out).2.2 x16_1 p340 q340
              cases e340
              obtain ⟨ce340, hce340, hMe340, hcc340⟩ := Kd.S_get HO_14.out [] x16_1 p340 (by first | exact q340 | exact of_decide_eq_true (by first | (with_reducible assumption) | assumption) | (have e_ := (Kd.S_reads' HO_14.out).1; omega))
              obtain ⟨ve340_0, rfl, ge340_0⟩ := hMe340
              have hv340_0 := hcc340 0 _ rfl
              rw [Nat.add_zero, show ((Kd.slice 5 (Kd.int .u8))).sz = 1 from rfl, Nat.mul_one] at hv340_0
              replace hv340_0 := Option.some.inj (hv340_0.symm.trans hx340_0)
              rw [hv340_0] at ge340_0
              have HL340_0 := Aside0.mk (show Kd.R (Kd.int .u8) 5 _ _ _ _ (rd_L1 t336 x16_1) from ge340_0)
              clear hv340_0 ge340_0
              clear hcc340 hce340
              have HR340_0 := Aside0.mk hi340_0
              have HC340_0 := Aside0.mk hl340_0
              clear hi340_0 hl340_0
              replace p340 := eq_true p340
              replace q340 := eq_true q340
              have hcv9 := Kd.C_string (P := Try.prog) (A := A340_0) (c := c340_0) Try.underlying23 Try.underlying5 Try.underlying9 (by repeat (first | (with_reducible exact HR340_0.out) | (with_reducible refine Kd.C_alloc ?_ _) | (with_reducible refine Kd.C_drewN ?_ _) | (with_reducible refine Kd.C_drew ?_) | exact HR340_0.out))
              go_wp2_with (first | ((with_reducible refine gate_builtin (b := .append) (xs := #[.tmp 20, .tmp 23]) rfl ?_); at_builtin; refine Kd.R_append Kd.string (w0 := w) w.heap.size rfl (.tmp 20) (.tmp 23) 47 9 (.string ⟨#[]⟩) 16 rfl Try.underlying47 info9 rfl (by decide) (by omega) u6 x6_1 (strOfNums (rd_L1 t336 x16_1)) [.string (strOfNums (rd_L1 t336 x16_1))] (fun _ => True) (fun _ => False) rfl rfl ?aP (fun _ hk => hk.elim) ?aF ?aO ?aB ?aS ?aL ?_; (case aP => exact rfl); (case aB => exact (by repeat (first | (with_reducible first | exact HB.out | apply below_alloc | apply pw_below_drewN | apply below_drew1) | exact HB.out))); (case aF => exact (fun _ _ => trivial)); (case aO => exact (by (with_reducible repeat (first | apply Kd.R_alloc | apply Kd.R_drewN | apply Kd.R_drew)); exact HO_6.out)); (case aS => exact (below_size (by repeat (first | (with_reducible first | exact HB.out | apply below_alloc | apply pw_below_drewN | apply below_drew1) | exact HB.out)))); (case aL => have := LMc8.out; omega); intro v342 w10 ho hb hg hat; rw [← Ny341.out] at ho; have n0_ := Aside0.mk (Kd.S_over' (by (with_reducible repeat (first | apply Kd.S_alloc | apply Kd.S_drewN | apply Kd.S_drew)); exact HO_14.out) (Kd.R_typed (by (with_reducible repeat (first | apply Kd.R_alloc | apply Kd.R_drewN | apply Kd.R_drew)); exact HO_6.out)) (by decide) hg); have n1_ := Aside0.mk (Kd.R_over' (by (with_reducible repeat (first | apply Kd.R_alloc | apply Kd.R_drewN | apply Kd.R_drew)); exact HL340_0.out) (Kd.R_typed (by (with_reducible repeat (first | apply Kd.R_alloc | apply Kd.R_drewN | apply Kd.R_drew)); exact HO_6.out)) (by decide) hg); have n2_ := Aside0.mk (hb); have n3_ := Aside0.mk (ho); clear HO_14; clear HL340_0; clear HB; clear HO_6; have HO_14 := n0_; have HL340_0 := n1_; have HB := n2_; have HO343 := n3_; clear n0_ n1_ n2_ n3_; clear ho hb hg hat))
              go_roundg k1
              case measure => have := HK1.out; omega
              case rel => exact ⟨(y341), (wrap64 (x16_1 + 1)), (by first | rfl | (simp; done) | (simp [*]; done)), H', ⟨by have := HK1.out; omega⟩, ⟨by (with_reducible repeat (first | apply Kd.R_alloc | apply Kd.R_drewN | apply Kd.R_drew)); exact HO343.out⟩, ⟨by (with_reducible repeat (first | apply Kd.S_alloc | apply Kd.S_drewN | apply Kd.S_drew)); exact HO_14.out⟩, ⟨by repeat (first | (with_reducible first | exact HB.out | apply below_alloc | apply pw_below_drewN | apply below_drew1) | exact HB.out)⟩⟩
            · rw [if_neg c8] at H
              exact absurd H (by simp)
          · rw [if_neg c7] at H
            exact absurd H (by simp)
        · rw [if_neg c6] at H
          exact absurd H (by simp)
      · rw [if_neg c5] at H
        have c5b0 : decide (x16_1 < (t336.length : Int)) = false := decide_eq_false c5
        clear c5
        simp only [Option.some.injEq, Prod.mk.injEq] at H
        obtain ⟨rfl, rfl⟩ := H
        go_wp2
        go_ret2
        exact ⟨_, by first | rfl | (simp [errW_none, errW_some] <;> rfl) | (simp [*, errW_none, errW_some] <;> rfl), by (with_reducible repeat (first | apply Kd.R_alloc | apply Kd.R_drewN | apply Kd.R_drew)); exact HO_6.out, by repeat (first | (with_reducible first | exact HB.out | apply below_alloc | apply pw_below_drewN | apply below_drew1) | exact HB.out)⟩

end Go.Proofs.Ytejbkjbldmaodaa.P
