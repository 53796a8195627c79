/- Functions of the translated program as plain Lean functions, and proofs that their calls come to these. Written by a program of the session. No condition. -/
import Derived.Test.YtejbkjbldmaodaaPx0
import Derived.Test.YtejbkjbldmaodaaPx1
import Derived.Test.YtejbkjbldmaodaaPx2
import Derived.Test.YtejbkjbldmaodaaPx6
import Derived.Test.YtejbkjbldmaodaaPx11
namespace Go.Proofs.Ytejbkjbldmaodaa.P
open Go.RowKit Go.Proofs.YtejbkjbldmaodaaW.PrintWords Go.Proofs.YtejbkjbldmaodaaW.PrintLast Go.Proofs.YtejbkjbldmaodaaW.PrintMore
attribute [local go_sem] max2_int min2_int max_two min_two max_three min_three max_four min_four   -- for this text's walks alone
set_option linter.unusedVariables false
set_option linter.unusedSimpArgs false

/-! ### gessolaw11_PackBack: function 6 -/
def gessolaw11_PackBack.j0 : Nat → List Int → Bool → Option (Bool)
  | 0, _, _ => none
  | k + 1, x1, x47 => if x47 = true then (none) else ((pack_Unpack.f k x1).bind fun bt256 => ((pack_Pack.f k bt256.1).bind fun bt260 => (if bt256.2 = 0 then (if bt260.2 = 0 then (if (strOfNums bt260.1).toList = (strOfNums x1).toList then ((gessolaw11_awake.f k).bind fun t264 => (some t264)) else (if bt256.2 = 4 then (if (bt256.1.length : Int) = 0 then ((gessolaw11_awake.f k).bind fun t265 => (some t265)) else (none)) else (none))) else (if bt256.2 = 4 then (if (bt256.1.length : Int) = 0 then ((gessolaw11_awake.f k).bind fun t266 => (some t266)) else (none)) else (none))) else (if bt256.2 = 4 then (if (bt256.1.length : Int) = 0 then ((gessolaw11_awake.f k).bind fun t267 => (some t267)) else (none)) else (none)))))
def gessolaw11_PackBack.f (k : Nat) (l0 : List (List Int)) (l1 : List Int) : Option (Bool) := (pack_Pack.f k l0).bind fun bt247 => ((pack_Unpack.f k bt247.1).bind fun bt251 => (if bt247.2 = 0 then (if bt251.2 = 0 then ((gessolaw11_sameFields.f k l0 bt251.1).bind fun t255 => (if t255 = true then (gessolaw11_PackBack.j0 k l1 false) else (gessolaw11_PackBack.j0 k l1 true))) else (gessolaw11_PackBack.j0 k l1 true)) else (if bt247.2 = 5 then (gessolaw11_PackBack.j0 k l1 ((bt247.1.length : Int) != 0)) else (gessolaw11_PackBack.j0 k l1 true))))
theorem gessolaw11_PackBack.mono_l : ∀ k, (∀ y0 y1, LeO (gessolaw11_PackBack.j0 k y0 y1) (gessolaw11_PackBack.j0 (k + 1) y0 y1))
  | 0 => fun _ _ r h => by simp [gessolaw11_PackBack.j0] at h
  | k + 1 => by
    have ih0 := gessolaw11_PackBack.mono_l k
    · intro y0 y1
      unfold gessolaw11_PackBack.j0
      repeat' first
      | (with_reducible exact ih0 _ _)
      | (with_reducible exact gessolaw11_awake.mono _)
      | (with_reducible exact gessolaw11_sameFields.mono _ _ _)
      | (with_reducible exact pack_Pack.mono _ _)
      | (with_reducible exact pack_Unpack.mono _ _)
      | (with_reducible exact LeO.refl _)
      | (with_reducible exact LeO.none _)
      | (with_reducible refine LeO.ite ?_ ?_)
      | (with_reducible refine LeO.bind ?_ (fun _ => ?_))
      | exact ih0 _ _
      | exact gessolaw11_awake.mono _
      | exact gessolaw11_sameFields.mono _ _ _
      | exact pack_Pack.mono _ _
      | exact pack_Unpack.mono _ _
      | exact LeO.none _
      | refine LeO.ite ?_ ?_
      | refine LeO.bind ?_ (fun _ => ?_)
theorem gessolaw11_PackBack.mono : ∀ a0 a1 k, LeO (gessolaw11_PackBack.f k a0 a1) (gessolaw11_PackBack.f (k + 1) a0 a1) := by
  intro a0 a1 k
  have ih0 := gessolaw11_PackBack.mono_l k
  unfold gessolaw11_PackBack.f
  repeat' first
      | (with_reducible exact ih0 _ _)
      | (with_reducible exact gessolaw11_awake.mono _)
      | (with_reducible exact gessolaw11_sameFields.mono _ _ _)
      | (with_reducible exact pack_Pack.mono _ _)
      | (with_reducible exact pack_Unpack.mono _ _)
      | (with_reducible exact LeO.refl _)
      | (with_reducible exact LeO.none _)
      | (with_reducible refine LeO.ite ?_ ?_)
      | (with_reducible refine LeO.bind ?_ (fun _ => ?_))
      | exact ih0 _ _
      | exact gessolaw11_awake.mono _
      | exact gessolaw11_sameFields.mono _ _ _
      | exact pack_Pack.mono _ _
      | exact pack_Unpack.mono _ _
      | exact LeO.none _
      | refine LeO.ite ?_ ?_
      | refine LeO.bind ?_ (fun _ => ?_)
set_option maxHeartbeats 8000000 in
set_option maxRecDepth 100000 in
theorem gessolaw11_PackBack.calls (k : Nat) (A0 : Option Addr) (c0 : Nat) (l0 : List (List Int)) (A1 : Option Addr) (c1 : Nat) (l1 : List Int) (r : Bool) (w : World) (hr0 : Kd.C (Kd.slice 5 (Kd.int .u8)) w A0 l0.length l0) (hc0 : l0.length ≤ c0) (hr1 : Kd.C (Kd.int .u8) w A1 l1.length l1) (hc1 : l1.length ≤ c1) (h : gessolaw11_PackBack.f k l0 l1 = some r) :
    Calls Try.prog 6 #[.slice A0 l0.length c0, .slice A1 l1.length c1] w fun e w' => e = .returned (.bool r) ∧ Below w.heap.size w w' := by
  have HR0 := Aside0.mk hr0
  have HC0 := Aside0.mk hc0
  clear hr0 hc0
  have HR1 := Aside0.mk hr1
  have HC1 := Aside0.mk hc1
  clear hr1 hc1
  have HB := Aside0.mk (Below.refl w.heap.size w)
  have H : ((pack_Pack.f k l0).bind fun bt247 => ((pack_Unpack.f k bt247.1).bind fun bt251 => (if bt247.2 = 0 then (if bt251.2 = 0 then ((gessolaw11_sameFields.f k l0 bt251.1).bind fun t255 => (if t255 = true then (gessolaw11_PackBack.j0 k l1 false) else (gessolaw11_PackBack.j0 k l1 true))) else (gessolaw11_PackBack.j0 k l1 true)) else (if bt247.2 = 5 then (gessolaw11_PackBack.j0 k l1 ((bt247.1.length : Int) != 0)) else (gessolaw11_PackBack.j0 k l1 true))))) = some r := h
  clear h
  replace H := Option.bind_eq_some_iff.mp H
  obtain ⟨⟨t247, t248⟩, A30, H⟩ := H
  replace H : ((pack_Unpack.f k t247).bind fun bt251 => (if t248 = 0 then (if bt251.2 = 0 then ((gessolaw11_sameFields.f k l0 bt251.1).bind fun t255 => (if t255 = true then (gessolaw11_PackBack.j0 k l1 false) else (gessolaw11_PackBack.j0 k l1 true))) else (gessolaw11_PackBack.j0 k l1 true)) else (if t248 = 5 then (gessolaw11_PackBack.j0 k l1 ((t247.length : Int) != 0)) else (gessolaw11_PackBack.j0 k l1 true)))) = some r := H
  have A3 := Aside0.mk A30
  clear A30
  replace H := Option.bind_eq_some_iff.mp H
  obtain ⟨⟨t251, t254⟩, A40, H⟩ := H
  replace H : (if t248 = 0 then (if t254 = 0 then ((gessolaw11_sameFields.f k l0 t251).bind fun t255 => (if t255 = true then (gessolaw11_PackBack.j0 k l1 false) else (gessolaw11_PackBack.j0 k l1 true))) else (gessolaw11_PackBack.j0 k l1 true)) else (if t248 = 5 then (gessolaw11_PackBack.j0 k l1 ((t247.length : Int) != 0)) else (gessolaw11_PackBack.j0 k l1 true))) = some r := H
  have A4 := Aside0.mk A40
  clear A40
  have HC5 := Aside0.mk H
  clear H
  go_enter Try.func6, Try.ntmps6
  go_upto_region 3 with (first | ((with_reducible refine gate_callee (f := 10) rfl ?_); refine goesL_ (some 15) rfl rfl Try.func10 (by kernel_rfl) rfl #[.slice A0 l0.length c0] rfl (by (try simp only [List.map_toArray, List.map_cons, List.map_nil]); first | done | rfl | (simp only [List.length_drop, List.length_take]; rfl)) ?_; (with_reducible refine (pack_Pack.calls k _ _ l0 t247 t248 _ ?side1 ?side2 A3.out).mono ?_); (case side1 => repeat (first | exact HR0.out | (with_reducible refine Kd.C_alloc ?_ _) | (with_reducible refine Kd.C_drewN ?_ _) | (with_reducible refine Kd.C_drew ?_))); (case side2 => exact HC0.out); rintro e w6 ⟨v249, rfl, ho0, hb⟩; refine ⟨_, rfl, ?_⟩; have n0_ := Aside0.mk (Kd.R_lower ho0 (below_size (by repeat (first | (with_reducible first | exact HB.out | apply below_alloc | apply pw_below_drewN | apply below_drew1) | exact HB.out)))); have n1_ := Aside0.mk (below_step (by repeat (first | (with_reducible first | exact HB.out | apply below_alloc | apply pw_below_drewN | apply below_drew1) | exact HB.out)) hb); clear HB; have HO250 := n0_; have HB := n1_; clear n0_ n1_; (try clear hb); (try clear hb2); (try clear hk); (try clear hi); (try clear ho0); obtain ⟨Ao7, co7, eo7⟩ := Kd.R_slice HO250.out; subst eo7) | ((with_reducible refine gate_callee (f := 18) rfl ?_); refine goesL_ (some 20) rfl rfl Try.func18 (by kernel_rfl) rfl #[.slice Ao7 t247.length co7] rfl (by (try simp only [List.map_toArray, List.map_cons, List.map_nil]); first | done | rfl | (simp only [List.length_drop, List.length_take]; rfl)) ?_; (with_reducible refine (pack_Unpack.calls k (fun k_ => some k_ = (.slice Ao7 t247.length co7 : Value).ownBlock) _ _ t247 t251 t254 _ ?side1 A4.out).mono ?_); (case side1 => exact Kd.R_V (Kd.R_tight rfl (HO250.out))); rintro e w8 ⟨v252, rfl, ho0, hb⟩; refine ⟨_, rfl, ?_⟩; have n0_ := Aside0.mk (Kd.R_below (by (with_reducible repeat (first | apply Kd.R_alloc | apply Kd.R_drewN | apply Kd.R_drew)); exact HO250.out) hb); have n1_ := Aside0.mk (Kd.S_lower (Kd.S_new' (Kd.S_mono (ok' := fun k_ => True) ho0 (fun _ hk_ => trivial)) (Kd.R_lt (by (with_reducible repeat (first | apply Kd.R_alloc | apply Kd.R_drewN | apply Kd.R_drew)); exact HO250.out))) (below_size (by repeat (first | (with_reducible first | exact HB.out | apply below_alloc | apply pw_below_drewN | apply below_drew1) | exact HB.out)))); have n2_ := Aside0.mk (below_step (by repeat (first | (with_reducible first | exact HB.out | apply below_alloc | apply pw_below_drewN | apply below_drew1) | exact HB.out)) hb); clear HO250; clear HB; have HO250 := n0_; have HO253 := n1_; have HB := n2_; clear n0_ n1_ n2_; (try clear hb); (try clear hb2); (try clear hk); (try clear hi); (try clear ho0)))
  (try simp only [Act.put, List.setIfInBounds_toArray, List.set_cons_zero, List.set_cons_succ])
  go_cut [47] (fun v47 wc => ∃ (kq : Nat) (x47_4 : Bool), v47 = .bool x47_4 ∧ Aside0 (gessolaw11_PackBack.j0 kq l1 x47_4 = some r) ∧ Aside0 (kq ≤ k) ∧ Aside0 (Below w.heap.size w wc))
  case first =>
    have H := HC5.out
    clear HC5
    by_cases c9 : t248 = 0
    · rw [if_pos c9] at H
      have c9b0 : (t248 == 0) = true := beq_iff_eq.mpr c9
      have c9b1 : (t248 != 0) = false := bne_eq_false_iff_eq.mpr c9
      clear c9
      (first | rw [c9b0] | (simp only [i64_w, i32_w]; rw [c9b0]) | skip)
      by_cases c10 : t254 = 0
      · rw [if_pos c10] at H
        have c10b0 : (t254 == 0) = true := beq_iff_eq.mpr c10
        have c10b1 : (t254 != 0) = false := bne_eq_false_iff_eq.mpr c10
        clear c10
        replace H := Option.bind_eq_some_iff.mp H
        obtain ⟨t255, A110, H⟩ := H
        replace H : (if t255 = true then (gessolaw11_PackBack.j0 k l1 false) else (gessolaw11_PackBack.j0 k l1 true)) = some r := H
        have A11 := Aside0.mk A110
        clear A110
        by_cases c12 : t255 = true
        · subst c12
          have H1 : (gessolaw11_PackBack.j0 k l1 false) = some r := by rw [if_pos rfl] at H; exact H
          clear H
          have H := H1
          clear H1
          have H' := Aside0.mk H
          clear H
          obtain ⟨Ao13, co13, eo13⟩ := Kd.S_slice HO253.out
          subst eo13
          go_wp2_with (first | (go_at_call 12; (with_reducible refine (gessolaw11_sameFields.calls k _ _ l0 _ _ t251 true _ ?side1 ?side2 ?side3 ?side4 A11.out).mono ?_); (case side1 => repeat (first | exact (Kd.C_below HR0.out HB.out) | (with_reducible refine Kd.C_alloc ?_ _) | (with_reducible refine Kd.C_drewN ?_ _) | (with_reducible refine Kd.C_drew ?_))); (case side2 => exact HC0.out); (case side3 => repeat (first | exact (Kd.S_reads' HO253.out).2.2 | (with_reducible refine Kd.C_alloc ?_ _) | (with_reducible refine Kd.C_drewN ?_ _) | (with_reducible refine Kd.C_drew ?_))); (case side4 => exact (Kd.S_reads' HO253.out).2.1); rintro e w' ⟨rfl, ⟨nd, rfl⟩⟩))
          go_meet
          case rel => exact ⟨_, (false), (by first | rfl | (simp; done) | (simp [*]; done)), H', ⟨by first | omega | exact Nat.le_refl _⟩, ⟨by repeat (first | (with_reducible first | exact HB.out | apply below_alloc | apply pw_below_drewN | apply below_drew1) | exact HB.out)⟩⟩
        · replace c12 := Bool.eq_false_iff.mpr c12
          subst c12
          have H1 : (gessolaw11_PackBack.j0 k l1 true) = some r := by rw [if_neg (show ¬ (false = true) by decide)] at H; exact H
          clear H
          have H := H1
          clear H1
          have H' := Aside0.mk H
          clear H
          obtain ⟨Ao14, co14, eo14⟩ := Kd.S_slice HO253.out
          subst eo14
          go_wp2_with (first | (go_at_call 12; (with_reducible refine (gessolaw11_sameFields.calls k _ _ l0 _ _ t251 false _ ?side1 ?side2 ?side3 ?side4 A11.out).mono ?_); (case side1 => repeat (first | exact (Kd.C_below HR0.out HB.out) | (with_reducible refine Kd.C_alloc ?_ _) | (with_reducible refine Kd.C_drewN ?_ _) | (with_reducible refine Kd.C_drew ?_))); (case side2 => exact HC0.out); (case side3 => repeat (first | exact (Kd.S_reads' HO253.out).2.2 | (with_reducible refine Kd.C_alloc ?_ _) | (with_reducible refine Kd.C_drewN ?_ _) | (with_reducible refine Kd.C_drew ?_))); (case side4 => exact (Kd.S_reads' HO253.out).2.1); rintro e w' ⟨rfl, ⟨nd, rfl⟩⟩))
          go_meet
          case rel => exact ⟨_, (true), (by first | rfl | (simp; done) | (simp [*]; done)), H', ⟨by first | omega | exact Nat.le_refl _⟩, ⟨by repeat (first | (with_reducible first | exact HB.out | apply below_alloc | apply pw_below_drewN | apply below_drew1) | exact HB.out)⟩⟩
      · rw [if_neg c10] at H
        have c10b0 : (t254 == 0) = false := beq_eq_false_iff_ne.mpr c10
        have c10b1 : (t254 != 0) = true := bne_iff_ne.mpr c10
        have H' := Aside0.mk H
        clear H
        go_wp2
        go_meet
        case rel => exact ⟨_, (true), (by first | rfl | (simp; done) | (simp [*]; done)), H', ⟨by first | omega | exact Nat.le_refl _⟩, ⟨by repeat (first | (with_reducible first | exact HB.out | apply below_alloc | apply pw_below_drewN | apply below_drew1) | exact HB.out)⟩⟩
    · rw [if_neg c9] at H
      have c9b0 : (t248 == 0) = false := beq_eq_false_iff_ne.mpr c9
      have c9b1 : (t248 != 0) = true := bne_iff_ne.mpr c9
      (first | rw [c9b0] | (simp only [i64_w, i32_w]; rw [c9b0]) | skip)
      by_cases c15 : t248 = 5
      · rw [if_pos c15] at H
        have c15b0 : (t248 == 5) = true := beq_iff_eq.mpr c15
        have c15b1 : (t248 != 5) = false := bne_eq_false_iff_eq.mpr c15
        clear c15
        have H' := Aside0.mk H
        clear H
        go_wp2
        go_meet
        case rel => exact ⟨_, (((t247.length : Int) != 0)), (by first | rfl | (simp; done) | (simp [*]; done)), H', ⟨by first | omega | exact Nat.le_refl _⟩, ⟨by repeat (first | (with_reducible first | exact HB.out | apply below_alloc | apply pw_below_drewN | apply below_drew1) | exact HB.out)⟩⟩
      · rw [if_neg c15] at H
        have c15b0 : (t248 == 5) = false := beq_eq_false_iff_ne.mpr c15
        have c15b1 : (t248 != 5) = true := bne_iff_ne.mpr c15
        have H' := Aside0.mk H
        clear H
        go_wp2
        go_meet
        case rel => exact ⟨_, (true), (by first | rfl | (simp; done) | (simp [*]; done)), H', ⟨by first | omega | exact Nat.le_refl _⟩, ⟨by repeat (first | (with_reducible first | exact HB.out | apply below_alloc | apply pw_below_drewN | apply below_drew1) | exact HB.out)⟩⟩
  case rest =>
    clear HC5
    try clear c1
    try clear p2
    try clear c6
    try clear c9
    try clear c9b0
    try clear c9b1
    try clear c10
    try clear c10b0
    try clear c10b1
    try clear c12
    try clear c15
    try clear c15b0
    try clear c15b1
    obtain ⟨kq, x47_4, rfl, HA, HJ4, HB⟩ := hcut
    cases kq with
    | zero => exact absurd HA.out (by simp [gessolaw11_PackBack.j0])
    | succ kj4 =>
      have H := HA.out
      clear HA
      simp only [gessolaw11_PackBack.j0] at H
      by_cases c16 : x47_4 = true
      · subst c16
        have H1 : (none) = some r := by rw [if_pos rfl] at H; exact H
        clear H
        have H := H1
        clear H1
        exact absurd H (by simp)
      · replace c16 := Bool.eq_false_iff.mpr c16
        subst c16
        have H1 : ((pack_Unpack.f kj4 l1).bind fun bt256 => ((pack_Pack.f kj4 bt256.1).bind fun bt260 => (if bt256.2 = 0 then (if bt260.2 = 0 then (if (strOfNums bt260.1).toList = (strOfNums l1).toList then ((gessolaw11_awake.f kj4).bind fun t264 => (some t264)) else (if bt256.2 = 4 then (if (bt256.1.length : Int) = 0 then ((gessolaw11_awake.f kj4).bind fun t265 => (some t265)) else (none)) else (none))) else (if bt256.2 = 4 then (if (bt256.1.length : Int) = 0 then ((gessolaw11_awake.f kj4).bind fun t266 => (some t266)) else (none)) else (none))) else (if bt256.2 = 4 then (if (bt256.1.length : Int) = 0 then ((gessolaw11_awake.f kj4).bind fun t267 => (some t267)) else (none)) else (none))))) = some r := by rw [if_neg (show ¬ (false = true) by decide)] at H; exact H
        clear H
        have H := H1
        clear H1
        replace H := Option.bind_eq_some_iff.mp H
        obtain ⟨⟨t256, t259⟩, A170, H⟩ := H
        replace H : ((pack_Pack.f kj4 t256).bind fun bt260 => (if t259 = 0 then (if bt260.2 = 0 then (if (strOfNums bt260.1).toList = (strOfNums l1).toList then ((gessolaw11_awake.f kj4).bind fun t264 => (some t264)) else (if t259 = 4 then (if (t256.length : Int) = 0 then ((gessolaw11_awake.f kj4).bind fun t265 => (some t265)) else (none)) else (none))) else (if t259 = 4 then (if (t256.length : Int) = 0 then ((gessolaw11_awake.f kj4).bind fun t266 => (some t266)) else (none)) else (none))) else (if t259 = 4 then (if (t256.length : Int) = 0 then ((gessolaw11_awake.f kj4).bind fun t267 => (some t267)) else (none)) else (none)))) = some r := H
        have A17 := Aside0.mk A170
        clear A170
        replace H := Option.bind_eq_some_iff.mp H
        obtain ⟨⟨t260, t261⟩, A180, H⟩ := H
        replace H : (if t259 = 0 then (if t261 = 0 then (if (strOfNums t260).toList = (strOfNums l1).toList then ((gessolaw11_awake.f kj4).bind fun t264 => (some t264)) else (if t259 = 4 then (if (t256.length : Int) = 0 then ((gessolaw11_awake.f kj4).bind fun t265 => (some t265)) else (none)) else (none))) else (if t259 = 4 then (if (t256.length : Int) = 0 then ((gessolaw11_awake.f kj4).bind fun t266 => (some t266)) else (none)) else (none))) else (if t259 = 4 then (if (t256.length : Int) = 0 then ((gessolaw11_awake.f kj4).bind fun t267 => (some t267)) else (none)) else (none))) = some r := H
        have A18 := Aside0.mk A180
        clear A180
        by_cases c19 : t259 = 0
        · rw [if_pos c19] at H
          have c19b0 : (t259 == 0) = true := beq_iff_eq.mpr c19
          have c19b1 : (t259 != 0) = false := bne_eq_false_iff_eq.mpr c19
          clear c19
          by_cases c20 : t261 = 0
          · rw [if_pos c20] at H
            have c20b0 : (t261 == 0) = true := beq_iff_eq.mpr c20
            have c20b1 : (t261 != 0) = false := bne_eq_false_iff_eq.mpr c20
            clear c20
            by_cases c21 : (strOfNums t260).toList = (strOfNums l1).toList
            · rw [if_pos c21] at H
              have c21b0 : ((strOfNums t260).toList == (strOfNums l1).toList) = true := beq_iff_eq.mpr c21
              have c21b1 : ((strOfNums t260).toList != (strOfNums l1).toList) = false := bne_eq_false_iff_eq.mpr c21
              clear c21
              replace H := Option.bind_eq_some_iff.mp H
              obtain ⟨t264, A220, H⟩ := H
              replace H : (some t264) = some r := H
              have A22 := Aside0.mk A220
              clear A220
              obtain rfl := Option.some.inj H
              go_wp2_with (first | ((with_reducible refine gate_callee (f := 18) rfl ?_); refine goesL_ (some 50) rfl rfl Try.func18 (by kernel_rfl) rfl #[.slice A1 l1.length c1] rfl (by (try simp only [List.map_toArray, List.map_cons, List.map_nil]); first | done | rfl | (simp only [List.length_drop, List.length_take]; rfl)) ?_; (with_reducible refine (pack_Unpack.calls kj4 (fun k_ => k_ < w.heap.size) _ _ l1 t256 t259 _ ?side1 A17.out).mono ?_); (case side1 => exact Kd.V_mk HC1.out (Kd.F_below (Kd.C_F (Kd.heap_int .u8) HR1.out) (by repeat (first | (with_reducible first | exact HB.out | apply below_alloc | apply pw_below_drewN | apply below_drew1) | exact HB.out)))); rintro e w23 ⟨v257, rfl, ho0, hb⟩; refine ⟨_, rfl, ?_⟩; have n0_ := Aside0.mk (Kd.S_lower (Kd.S_mono (ok' := fun k_ => True) ho0 (fun _ hk_ => trivial)) (below_size (by repeat (first | (with_reducible first | exact HB.out | apply below_alloc | apply pw_below_drewN | apply below_drew1) | exact HB.out)))); have n1_ := Aside0.mk (below_step (by repeat (first | (with_reducible first | exact HB.out | apply below_alloc | apply pw_below_drewN | apply below_drew1) | exact HB.out)) hb); clear HB; have HO258 := n0_; have HB := n1_; clear n0_ n1_; (try clear hb); (try clear hb2); (try clear hk); (try clear hi); (try clear ho0); obtain ⟨Ao24, co24, eo24⟩ := Kd.S_slice HO258.out; subst eo24) | ((with_reducible refine gate_callee (f := 10) rfl ?_); refine goesL_ (some 55) rfl rfl Try.func10 (by kernel_rfl) rfl #[.slice Ao24 t256.length co24] rfl (by (try simp only [List.map_toArray, List.map_cons, List.map_nil]); first | done | rfl | (simp only [List.length_drop, List.length_take]; rfl)) ?_; (with_reducible refine (pack_Pack.calls kj4 _ _ t256 t260 t261 _ ?side1 ?side2 A18.out).mono ?_); (case side1 => repeat (first | exact (Kd.S_reads' HO258.out).2.2 | (with_reducible refine Kd.C_alloc ?_ _) | (with_reducible refine Kd.C_drewN ?_ _) | (with_reducible refine Kd.C_drew ?_))); (case side2 => exact (Kd.S_reads' HO258.out).2.1); rintro e w25 ⟨v262, rfl, ho0, hb⟩; refine ⟨_, rfl, ?_⟩; have n0_ := Aside0.mk (Kd.S_elder' (by (with_reducible repeat (first | apply Kd.S_alloc | apply Kd.S_drewN | apply Kd.S_drew)); exact HO258.out) (Kd.R_base ho0) hb); have n1_ := Aside0.mk (Kd.R_lower ho0 (below_size (by repeat (first | (with_reducible first | exact HB.out | apply below_alloc | apply pw_below_drewN | apply below_drew1) | exact HB.out)))); have n2_ := Aside0.mk (below_step (by repeat (first | (with_reducible first | exact HB.out | apply below_alloc | apply pw_below_drewN | apply below_drew1) | exact HB.out)) hb); clear HO258; clear HB; have HO258 := n0_; have HO263 := n1_; have HB := n2_; clear n0_ n1_ n2_; (try clear hb); (try clear hb2); (try clear hk); (try clear hi); (try clear ho0); have hcv26 := own_string (P := Try.prog) Try.underlying23 Try.underlying5 Try.underlying9 (Kd.own_of_R HO263.out); have hcv27 := Kd.C_string (P := Try.prog) (A := A1) (c := c1) Try.underlying23 Try.underlying5 Try.underlying9 (Kd.C_below HR1.out HB.out)) | (go_at_call 13; (with_reducible refine (gessolaw11_awake.calls kj4  t264 _ A22.out).mono ?_); rintro e w28 ⟨rfl, hb⟩; have n0_ := Aside0.mk (Kd.S_below (by (with_reducible repeat (first | apply Kd.S_alloc | apply Kd.S_drewN | apply Kd.S_drew)); exact HO258.out) hb); have n1_ := Aside0.mk (Kd.R_below (by (with_reducible repeat (first | apply Kd.R_alloc | apply Kd.R_drewN | apply Kd.R_drew)); exact HO263.out) hb); have n2_ := Aside0.mk (below_step (by repeat (first | (with_reducible first | exact HB.out | apply below_alloc | apply pw_below_drewN | apply below_drew1) | exact HB.out)) hb); clear HO258; clear HO263; clear HB; have HO258 := n0_; have HO263 := n1_; have HB := n2_; clear n0_ n1_ n2_; (try clear hb); (try clear hb2); (try clear hk); (try clear hi)))
              go_ret
              exact ⟨by first | rfl | (simp [errW_none, errW_some] <;> rfl) | (simp [*, errW_none, errW_some] <;> rfl), by repeat (first | (with_reducible first | exact HB.out | apply below_alloc | apply pw_below_drewN | apply below_drew1) | exact HB.out)⟩
            · rw [if_neg c21] at H
              have c21b0 : ((strOfNums t260).toList == (strOfNums l1).toList) = false := beq_eq_false_iff_ne.mpr c21
              have c21b1 : ((strOfNums t260).toList != (strOfNums l1).toList) = true := bne_iff_ne.mpr c21
              by_cases c29 : t259 = 4
              · rw [if_pos c29] at H
                have c29b0 : (t259 == 4) = true := beq_iff_eq.mpr c29
                have c29b1 : (t259 != 4) = false := bne_eq_false_iff_eq.mpr c29
                clear c29
                by_cases c30 : (t256.length : Int) = 0
                · rw [if_pos c30] at H
                  have c30b0 : ((t256.length : Int) == 0) = true := beq_iff_eq.mpr c30
                  have c30b1 : ((t256.length : Int) != 0) = false := bne_eq_false_iff_eq.mpr c30
                  clear c30
                  replace H := Option.bind_eq_some_iff.mp H
                  obtain ⟨t265, A310, H⟩ := H
                  replace H : (some t265) = some r := H
                  have A31 := Aside0.mk A310
                  clear A310
                  obtain rfl := Option.some.inj H
                  go_wp2_with (first | ((with_reducible refine gate_callee (f := 18) rfl ?_); refine goesL_ (some 50) rfl rfl Try.func18 (by kernel_rfl) rfl #[.slice A1 l1.length c1] rfl (by (try simp only [List.map_toArray, List.map_cons, List.map_nil]); first | done | rfl | (simp only [List.length_drop, List.length_take]; rfl)) ?_; (with_reducible refine (pack_Unpack.calls kj4 (fun k_ => k_ < w.heap.size) _ _ l1 t256 t259 _ ?side1 A17.out).mono ?_); (case side1 => exact Kd.V_mk HC1.out (Kd.F_below (Kd.C_F (Kd.heap_int .u8) HR1.out) (by repeat (first | (with_reducible first | exact HB.out | apply below_alloc | apply pw_below_drewN | apply below_drew1) | exact HB.out)))); rintro e w32 ⟨v257, rfl, ho0, hb⟩; refine ⟨_, rfl, ?_⟩; have n0_ := Aside0.mk (Kd.S_lower (Kd.S_mono (ok' := fun k_ => True) ho0 (fun _ hk_ => trivial)) (below_size (by repeat (first | (with_reducible first | exact HB.out | apply below_alloc | apply pw_below_drewN | apply below_drew1) | exact HB.out)))); have n1_ := Aside0.mk (below_step (by repeat (first | (with_reducible first | exact HB.out | apply below_alloc | apply pw_below_drewN | apply below_drew1) | exact HB.out)) hb); clear HB; have HO258 := n0_; have HB := n1_; clear n0_ n1_; (try clear hb); (try clear hb2); (try clear hk); (try clear hi); (try clear ho0); obtain ⟨Ao33, co33, eo33⟩ := Kd.S_slice HO258.out; subst eo33) | ((with_reducible refine gate_callee (f := 10) rfl ?_); refine goesL_ (some 55) rfl rfl Try.func10 (by kernel_rfl) rfl #[.slice Ao33 t256.length co33] rfl (by (try simp only [List.map_toArray, List.map_cons, List.map_nil]); first | done | rfl | (simp only [List.length_drop, List.length_take]; rfl)) ?_; (with_reducible refine (pack_Pack.calls kj4 _ _ t256 t260 t261 _ ?side1 ?side2 A18.out).mono ?_); (case side1 => repeat (first | exact (Kd.S_reads' HO258.out).2.2 | (with_reducible refine Kd.C_alloc ?_ _) | (with_reducible refine Kd.C_drewN ?_ _) | (with_reducible refine Kd.C_drew ?_))); (case side2 => exact (Kd.S_reads' HO258.out).2.1); rintro e w34 ⟨v262, rfl, ho0, hb⟩; refine ⟨_, rfl, ?_⟩; have n0_ := Aside0.mk (Kd.S_elder' (by (with_reducible repeat (first | apply Kd.S_alloc | apply Kd.S_drewN | apply Kd.S_drew)); exact HO258.out) (Kd.R_base ho0) hb); have n1_ := Aside0.mk (Kd.R_lower ho0 (below_size (by repeat (first | (with_reducible first | exact HB.out | apply below_alloc | apply pw_below_drewN | apply below_drew1) | exact HB.out)))); have n2_ := Aside0.mk (below_step (by repeat (first | (with_reducible first | exact HB.out | apply below_alloc | apply pw_below_drewN | apply below_drew1) | exact HB.out)) hb); clear HO258; clear HB; have HO258 := n0_; have HO263 := n1_; have HB := n2_; clear n0_ n1_ n2_; (try clear hb); (try clear hb2); (try clear hk); (try clear hi); (try clear ho0); have hcv35 := own_string (P := Try.prog) Try.underlying23 Try.underlying5 Try.underlying9 (Kd.own_of_R HO263.out); have hcv36 := Kd.C_string (P := Try.prog) (A := A1) (c := c1) Try.underlying23 Try.underlying5 Try.underlying9 (Kd.C_below HR1.out HB.out)) | (go_at_call 13; (with_reducible refine (gessolaw11_awake.calls kj4  t265 _ A31.out).mono ?_); rintro e w37 ⟨rfl, hb⟩; have n0_ := Aside0.mk (Kd.S_below (by (with_reducible repeat (first | apply Kd.S_alloc | apply Kd.S_drewN | apply Kd.S_drew)); exact HO258.out) hb); have n1_ := Aside0.mk (Kd.R_below (by (with_reducible repeat (first | apply Kd.R_alloc | apply Kd.R_drewN | apply Kd.R_drew)); exact HO263.out) hb); have n2_ := Aside0.mk (below_step (by repeat (first | (with_reducible first | exact HB.out | apply below_alloc | apply pw_below_drewN | apply below_drew1) | exact HB.out)) hb); clear HO258; clear HO263; clear HB; have HO258 := n0_; have HO263 := n1_; have HB := n2_; clear n0_ n1_ n2_; (try clear hb); (try clear hb2); (try clear hk); (try clear hi)))
                  go_ret
                  exact ⟨by first | rfl | (simp [errW_none, errW_some] <;> rfl) | (simp [*, errW_none, errW_some] <;> rfl), by repeat (first | (with_reducible first | exact HB.out | apply below_alloc | apply pw_below_drewN | apply below_drew1) | exact HB.out)⟩
                · rw [if_neg c30] at H
                  exact absurd H (by simp)
              · rw [if_neg c29] at H
                exact absurd H (by simp)
          · rw [if_neg c20] at H
            have c20b0 : (t261 == 0) = false := beq_eq_false_iff_ne.mpr c20
            have c20b1 : (t261 != 0) = true := bne_iff_ne.mpr c20
            by_cases c38 : t259 = 4
            · rw [if_pos c38] at H
              have c38b0 : (t259 == 4) = true := beq_iff_eq.mpr c38
              have c38b1 : (t259 != 4) = false := bne_eq_false_iff_eq.mpr c38
              clear c38
              by_cases c39 : (t256.length : Int) = 0
              · rw [if_pos c39] at H
                have c39b0 : ((t256.length : Int) == 0) = true := beq_iff_eq.mpr c39
                have c39b1 : ((t256.length : Int) != 0) = false := bne_eq_false_iff_eq.mpr c39
                clear c39
                replace H := Option.bind_eq_some_iff.mp H
                obtain ⟨t266, A400, H⟩ := H
                replace H : (some t266) = some r := H
                have A40 := Aside0.mk A400
                clear A400
                obtain rfl := Option.some.inj H
                go_wp2_with (first | ((with_reducible refine gate_callee (f := 18) rfl ?_); refine goesL_ (some 50) rfl rfl Try.func18 (by kernel_rfl) rfl #[.slice A1 l1.length c1] rfl (by (try simp only [List.map_toArray, List.map_cons, List.map_nil]); first | done | rfl | (simp only [List.length_drop, List.length_take]; rfl)) ?_; (with_reducible refine (pack_Unpack.calls kj4 (fun k_ => k_ < w.heap.size) _ _ l1 t256 t259 _ ?side1 A17.out).mono ?_); (case side1 => exact Kd.V_mk HC1.out (Kd.F_below (Kd.C_F (Kd.heap_int .u8) HR1.out) (by repeat (first | (with_reducible first | exact HB.out | apply below_alloc | apply pw_below_drewN | apply below_drew1) | exact HB.out)))); rintro e w41 ⟨v257, rfl, ho0, hb⟩; refine ⟨_, rfl, ?_⟩; have n0_ := Aside0.mk (Kd.S_lower (Kd.S_mono (ok' := fun k_ => True) ho0 (fun _ hk_ => trivial)) (below_size (by repeat (first | (with_reducible first | exact HB.out | apply below_alloc | apply pw_below_drewN | apply below_drew1) | exact HB.out)))); have n1_ := Aside0.mk (below_step (by repeat (first | (with_reducible first | exact HB.out | apply below_alloc | apply pw_below_drewN | apply below_drew1) | exact HB.out)) hb); clear HB; have HO258 := n0_; have HB := n1_; clear n0_ n1_; (try clear hb); (try clear hb2); (try clear hk); (try clear hi); (try clear ho0); obtain ⟨Ao42, co42, eo42⟩ := Kd.S_slice HO258.out; subst eo42) | ((with_reducible refine gate_callee (f := 10) rfl ?_); refine goesL_ (some 55) rfl rfl Try.func10 (by kernel_rfl) rfl #[.slice Ao42 t256.length co42] rfl (by (try simp only [List.map_toArray, List.map_cons, List.map_nil]); first | done | rfl | (simp only [List.length_drop, List.length_take]; rfl)) ?_; (with_reducible refine (pack_Pack.calls kj4 _ _ t256 t260 t261 _ ?side1 ?side2 A18.out).mono ?_); (case side1 => repeat (first | exact (Kd.S_reads' HO258.out).2.2 | (with_reducible refine Kd.C_alloc ?_ _) | (with_reducible refine Kd.C_drewN ?_ _) | (with_reducible refine Kd.C_drew ?_))); (case side2 => exact (Kd.S_reads' HO258.out).2.1); rintro e w43 ⟨v262, rfl, ho0, hb⟩; refine ⟨_, rfl, ?_⟩; have n0_ := Aside0.mk (Kd.S_elder' (by (with_reducible repeat (first | apply Kd.S_alloc | apply Kd.S_drewN | apply Kd.S_drew)); exact HO258.out) (Kd.R_base ho0) hb); have n1_ := Aside0.mk (Kd.R_lower ho0 (below_size (by repeat (first | (with_reducible first | exact HB.out | apply below_alloc | apply pw_below_drewN | apply below_drew1) | exact HB.out)))); have n2_ := Aside0.mk (below_step (by repeat (first | (with_reducible first | exact HB.out | apply below_alloc | apply pw_below_drewN | apply below_drew1) | exact HB.out)) hb); clear HO258; clear HB; have HO258 := n0_; have HO263 := n1_; have HB := n2_; clear n0_ n1_ n2_; (try clear hb); (try clear hb2); (try clear hk); (try clear hi); (try clear ho0)) | (go_at_call 13; (with_reducible refine (gessolaw11_awake.calls kj4  t266 _ A40.out).mono ?_); rintro e w44 ⟨rfl, hb⟩; have n0_ := Aside0.mk (Kd.S_below (by (with_reducible repeat (first | apply Kd.S_alloc | apply Kd.S_drewN | apply Kd.S_drew)); exact HO258.out) hb); have n1_ := Aside0.mk (Kd.R_below (by (with_reducible repeat (first | apply Kd.R_alloc | apply Kd.R_drewN | apply Kd.R_drew)); exact HO263.out) hb); have n2_ := Aside0.mk (below_step (by repeat (first | (with_reducible first | exact HB.out | apply below_alloc | apply pw_below_drewN | apply below_drew1) | exact HB.out)) hb); clear HO258; clear HO263; clear HB; have HO258 := n0_; have HO263 := n1_; have HB := n2_; clear n0_ n1_ n2_; (try clear hb); (try clear hb2); (try clear hk); (try clear hi)))
                go_ret
                exact ⟨by first | rfl | (simp [errW_none, errW_some] <;> rfl) | (simp [*, errW_none, errW_some] <;> rfl), by repeat (first | (with_reducible first | exact HB.out | apply below_alloc | apply pw_below_drewN | apply below_drew1) | exact HB.out)⟩
              · rw [if_neg c39] at H
                exact absurd H (by simp)
            · rw [if_neg c38] at H
              exact absurd H (by simp)
        · rw [if_neg c19] at H
          have c19b0 : (t259 == 0) = false := beq_eq_false_iff_ne.mpr c19
          have c19b1 : (t259 != 0) = true := bne_iff_ne.mpr c19
          by_cases c45 : t259 = 4
          · rw [if_pos c45] at H
            have c45b0 : (t259 == 4) = true := beq_iff_eq.mpr c45
            have c45b1 : (t259 != 4) = false := bne_eq_false_iff_eq.mpr c45
            clear c45
            by_cases c46 : (t256.length : Int) = 0
            · rw [if_pos c46] at H
              have c46b0 : ((t256.length : Int) == 0) = true := beq_iff_eq.mpr c46
              have c46b1 : ((t256.length : Int) != 0) = false := bne_eq_false_iff_eq.mpr c46
              clear c46
              replace H := Option.bind_eq_some_iff.mp H
              obtain ⟨t267, A470, H⟩ := H
              replace H : (some t267) = some r := H
              have A47 := Aside0.mk A470
              clear A470
              obtain rfl := Option.some.inj H
              go_wp2_with (first | ((with_reducible refine gate_callee (f := 18) rfl ?_); refine goesL_ (some 50) rfl rfl Try.func18 (by kernel_rfl) rfl #[.slice A1 l1.length c1] rfl (by (try simp only [List.map_toArray, List.map_cons, List.map_nil]); first | done | rfl | (simp only [List.length_drop, List.length_take]; rfl)) ?_; (with_reducible refine (pack_Unpack.calls kj4 (fun k_ => k_ < w.heap.size) _ _ l1 t256 t259 _ ?side1 A17.out).mono ?_); (case side1 => exact Kd.V_mk HC1.out (Kd.F_below (Kd.C_F (Kd.heap_int .u8) HR1.out) (by repeat (first | (with_reducible first | exact HB.out | apply below_alloc | apply pw_below_drewN | apply below_drew1) | exact HB.out)))); rintro e w48 ⟨v257, rfl, ho0, hb⟩; refine ⟨_, rfl, ?_⟩; have n0_ := Aside0.mk (Kd.S_lower (Kd.S_mono (ok' := fun k_ => True) ho0 (fun _ hk_ => trivial)) (below_size (by repeat (first | (with_reducible first | exact HB.out | apply below_alloc | apply pw_below_drewN | apply below_drew1) | exact HB.out)))); have n1_ := Aside0.mk (below_step (by repeat (first | (with_reducible first | exact HB.out | apply below_alloc | apply pw_below_drewN | apply below_drew1) | exact HB.out)) hb); clear HB; have HO258 := n0_; have HB := n1_; clear n0_ n1_; (try clear hb); (try clear hb2); (try clear hk); (try clear hi); (try clear ho0); obtain ⟨Ao49, co49, eo49⟩ := Kd.S_slice HO258.out; subst eo49) | ((with_reducible refine gate_callee (f := 10) rfl ?_); refine goesL_ (some 55) rfl rfl Try.func10 (by kernel_rfl) rfl #[.slice Ao49 t256.length co49] rfl (by (try simp only [List.map_toArray, List.map_cons, List.map_nil]); first | done | rfl | (simp only [List.length_drop, List.length_take]; rfl)) ?_; (with_reducible refine (pack_Pack.calls kj4 _ _ t256 t260 t261 _ ?side1 ?side2 A18.out).mono ?_); (case side1 => repeat (first | exact (Kd.S_reads' HO258.out).2.2 | (with_reducible refine Kd.C_alloc ?_ _) | (with_reducible refine Kd.C_drewN ?_ _) | (with_reducible refine Kd.C_drew ?_))); (case side2 => exact (Kd.S_reads' HO258.out).2.1); rintro e w50 ⟨v262, rfl, ho0, hb⟩; refine ⟨_, rfl, ?_⟩; have n0_ := Aside0.mk (Kd.S_elder' (by (with_reducible repeat (first | apply Kd.S_alloc | apply Kd.S_drewN | apply Kd.S_drew)); exact HO258.out) (Kd.R_base ho0) hb); have n1_ := Aside0.mk (Kd.R_lower ho0 (below_size (by repeat (first | (with_reducible first | exact HB.out | apply below_alloc | apply pw_below_drewN | apply below_drew1) | exact HB.out)))); have n2_ := Aside0.mk (below_step (by repeat (first | (with_reducible first | exact HB.out | apply below_alloc | apply pw_below_drewN | apply below_drew1) | exact HB.out)) hb); clear HO258; clear HB; have HO258 := n0_; have HO263 := n1_; have HB := n2_; clear n0_ n1_ n2_; (try clear hb); (try clear hb2); (try clear hk); (try clear hi); (try clear ho0)) | (go_at_call 13; (with_reducible refine (gessolaw11_awake.calls kj4  t267 _ A47.out).mono ?_); rintro e w51 ⟨rfl, hb⟩; have n0_ := Aside0.mk (Kd.S_below (by (with_reducible repeat (first | apply Kd.S_alloc | apply Kd.S_drewN | apply Kd.S_drew)); exact HO258.out) hb); have n1_ := Aside0.mk (Kd.R_below (by (with_reducible repeat (first | apply Kd.R_alloc | apply Kd.R_drewN | apply Kd.R_drew)); exact HO263.out) hb); have n2_ := Aside0.mk (below_step (by repeat (first | (with_reducible first | exact HB.out | apply below_alloc | apply pw_below_drewN | apply below_drew1) | exact HB.out)) hb); clear HO258; clear HO263; clear HB; have HO258 := n0_; have HO263 := n1_; have HB := n2_; clear n0_ n1_ n2_; (try clear hb); (try clear hb2); (try clear hk); (try clear hi)))
              go_ret
              exact ⟨by first | rfl | (simp [errW_none, errW_some] <;> rfl) | (simp [*, errW_none, errW_some] <;> rfl), by repeat (first | (with_reducible first | exact HB.out | apply below_alloc | apply pw_below_drewN | apply below_drew1) | exact HB.out)⟩
            · rw [if_neg c46] at H
              exact absurd H (by simp)
          · rw [if_neg c45] at H
            exact absurd H (by simp)

end Go.Proofs.Ytejbkjbldmaodaa.P
