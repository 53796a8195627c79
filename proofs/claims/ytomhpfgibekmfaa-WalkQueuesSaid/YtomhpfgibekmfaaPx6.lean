/- Functions of the translated program as plain Lean functions, and proofs that their calls come to these. Written by a program of the session. No condition. -/
import Derived.Test.YtomhpfgibekmfaaPx0
import Derived.Test.YtomhpfgibekmfaaPx3
namespace Go.Proofs.Ytomhpfgibekmfaa.P
open Go.RowKit Go.Proofs.YtomhpfgibekmfaaW.PrintWords Go.Proofs.YtomhpfgibekmfaaW.PrintLast Go.Proofs.YtomhpfgibekmfaaW.PrintMore
attribute [local go_sem] max2_int min2_int max_two min_two max_three min_three max_four min_four   -- for this text's walks alone
set_option linter.unusedVariables false
set_option linter.unusedSimpArgs false

/-! ### gessolaw15_light: function 15 -/
def gessolaw15_light.l0 : Nat → List (List ByteArray) → Int → Int → Option (Bool)
  | 0, _, _, _ => none
  | k + 1, x0, x3, x4 => if x4 < (x0.length : Int) then (if 0 ≤ x4 then (gessolaw15_light.l0 k x0 (wrap64 (x3 + (mn ((rd_L1 x0 x4).length : Int) 1001))) (wrap64 (x4 + 1))) else (none)) else (some (decide (x3 ≤ 1000)))
def gessolaw15_light.f (k : Nat) (l0 : List (List ByteArray)) : Option (Bool) := if (l0.length : Int) > 200 then (some false) else (gessolaw15_light.l0 k l0 0 0)
theorem gessolaw15_light.mono_l : ∀ k, (∀ y0 y1 y2, LeO (gessolaw15_light.l0 k y0 y1 y2) (gessolaw15_light.l0 (k + 1) y0 y1 y2))
  | 0 => fun _ _ _ r h => by simp [gessolaw15_light.l0] at h
  | k + 1 => by
    have ih0 := gessolaw15_light.mono_l k
    · intro y0 y1 y2
      unfold gessolaw15_light.l0
      repeat' first
      | (with_reducible exact ih0 _ _ _)
      | (with_reducible exact LeO.refl _)
      | (with_reducible exact LeO.none _)
      | (with_reducible refine LeO.ite ?_ ?_)
      | (with_reducible refine LeO.bind ?_ (fun _ => ?_))
      | exact ih0 _ _ _
      | exact LeO.none _
      | refine LeO.ite ?_ ?_
      | refine LeO.bind ?_ (fun _ => ?_)
theorem gessolaw15_light.mono : ∀ a0 k, LeO (gessolaw15_light.f k a0) (gessolaw15_light.f (k + 1) a0) := by
  intro a0 k
  have ih0 := gessolaw15_light.mono_l k
  unfold gessolaw15_light.f
  repeat' first
      | (with_reducible exact ih0 _ _ _)
      | (with_reducible exact LeO.refl _)
      | (with_reducible exact LeO.none _)
      | (with_reducible refine LeO.ite ?_ ?_)
      | (with_reducible refine LeO.bind ?_ (fun _ => ?_))
      | exact ih0 _ _ _
      | exact LeO.none _
      | refine LeO.ite ?_ ?_
      | refine LeO.bind ?_ (fun _ => ?_)
set_option maxHeartbeats 8000000 in
set_option maxRecDepth 100000 in
theorem gessolaw15_light.calls (k : Nat) (A0 : Option Addr) (c0 : Nat) (l0 : List (List ByteArray)) (r : Bool) (w : World) (hr0 : Kd.C (Kd.slice 9 Kd.string) w A0 l0.length l0) (hc0 : l0.length ≤ c0) (h : gessolaw15_light.f k l0 = some r) :
    Calls Try.prog 15 #[.slice A0 l0.length c0] w fun e w' => e = .returned (.bool r) ∧ Below w.heap.size w w' := by
  have HR0 := Aside0.mk hr0
  have HC0 := Aside0.mk hc0
  clear hr0 hc0
  have HB := Aside0.mk (Below.refl w.heap.size w)
  have H : (if (l0.length : Int) > 200 then (some false) else (gessolaw15_light.l0 k l0 0 0)) = some r := h
  clear h
  by_cases c2 : (l0.length : Int) > 200
  · rw [if_pos c2] at H
    have c2b0 : decide (200 < (l0.length : Int)) = true := decide_eq_true c2
    have c2b1 : decide (200 < l0.length) = true := decide_eq_true (by omega)
    clear c2
    obtain rfl := Option.some.inj H
    go_enter Try.func15, Try.ntmps15
    go_wp2
    go_ret
    exact ⟨by first | rfl | (simp [errW_none, errW_some] <;> rfl) | (simp [*, errW_none, errW_some] <;> rfl), by repeat (first | (with_reducible first | exact HB.out | apply below_alloc | apply pw_below_drewN | apply below_drew1) | exact HB.out)⟩
  · rw [if_neg c2] at H
    have c2b0 : decide (200 < (l0.length : Int)) = false := decide_eq_false c2
    have c2b1 : decide (200 < l0.length) = false := decide_eq_false (by omega)
    clear c2
    have H' := Aside0.mk H
    clear H
    go_enter Try.func15, Try.ntmps15
    go_wp2
    go_loopg [3, 4] k (fun kq v3 v4 w' => ∃ (x3_1 : Int) (x4_1 : Int), v3 = .int .i64 x3_1 ∧ v4 = .int .i64 x4_1 ∧ Aside0 (gessolaw15_light.l0 kq l0 x3_1 x4_1 = some r) ∧ Aside0 (kq ≤ k) ∧ Aside0 (Below w.heap.size w w'))
    case atStart => exact ⟨(0), (0), (by first | rfl | (simp; done) | (simp [*]; done)), (by first | rfl | (simp; done) | (simp [*]; done)), H', ⟨Nat.le_refl _⟩, ⟨by repeat (first | (with_reducible first | exact HB.out | apply below_alloc | apply pw_below_drewN | apply below_drew1) | exact HB.out)⟩⟩
    case round =>
      clear H'
      try clear c1
      try clear c2
      try clear c2b0
      try clear c2b1
      try clear p2
      obtain ⟨x3_1, x4_1, rfl, rfl, HA, HK1, HB⟩ := hrel
      cases gk with
      | zero => exact absurd HA.out (by simp [gessolaw15_light.l0])
      | succ k1 =>
        have H := HA.out
        clear HA
        simp only [gessolaw15_light.l0] at H
        by_cases c3 : x4_1 < (l0.length : Int)
        · rw [if_pos c3] at H
          have c3b0 : decide (x4_1 < (l0.length : Int)) = true := decide_eq_true c3
          clear c3
          by_cases c4 : 0 ≤ x4_1
          · rw [if_pos c4] at H
            have c4b0 : decide (0 ≤ x4_1) = true := decide_eq_true c4
            clear c4
            obtain ⟨ji5, hji5⟩ : ∃ j_ : Int, (mn ((rd_L1 l0 x4_1).length : Int) 1001) = j_ := ⟨_, rfl⟩
            replace H : (gessolaw15_light.l0 k1 l0 (wrap64 (x3_1 + (ji5))) (wrap64 (x4_1 + 1))) = some r := by first | (rw [hji5] at H; exact H) | (simp only [hji5] at H ⊢; exact H)
            have hji5_ : (if 1001 < ((rd_L1 l0 x4_1).length : Int) then 1001 else ((rd_L1 l0 x4_1).length : Int)) = ji5 := hji5
            have H' := Aside0.mk H
            clear H
            have p177 : 0 ≤ (x4_1 : Int) := of_decide_eq_true (by first | (with_reducible assumption) | assumption)
            have q177 : x4_1 < (l0.length : Int) := of_decide_eq_true (by first | (with_reducible assumption) | assumption)
            obtain ⟨ad177, A177_0, c177_0, e177, hx177_0, hl177_0, hi177_0⟩ := at_L1 HR0.out x4_1 p177 q177
            cases e177
            replace hx177_0 := (HB.out.cell (World.block_lt_of_cell? w _ hx177_0)).trans hx177_0
            have HR177_0 := Aside0.mk hi177_0
            have HC177_0 := Aside0.mk hl177_0
            clear hi177_0 hl177_0
            replace p177 := eq_true p177
            replace q177 := eq_true q177
            go_wp2
            go_roundg k1
            case measure => have := HK1.out; omega
            case rel => exact ⟨(wrap64 (x3_1 + (ji5))), (wrap64 (x4_1 + 1)), (by first | rfl | (simp; done) | (simp only [← hji5] <;> (first | rfl | simp)) | (simp [*]; done)), (by first | rfl | (simp; done) | (simp [*]; done)), H', ⟨by have := HK1.out; omega⟩, ⟨by repeat (first | (with_reducible first | exact HB.out | apply below_alloc | apply pw_below_drewN | apply below_drew1) | exact HB.out)⟩⟩
          · rw [if_neg c4] at H
            exact absurd H (by simp)
        · rw [if_neg c3] at H
          have c3b0 : decide (x4_1 < (l0.length : Int)) = false := decide_eq_false c3
          clear c3
          obtain rfl := Option.some.inj H
          go_wp2
          go_ret
          exact ⟨by first | rfl | (simp [errW_none, errW_some] <;> rfl) | (simp [*, errW_none, errW_some] <;> rfl), by repeat (first | (with_reducible first | exact HB.out | apply below_alloc | apply pw_below_drewN | apply below_drew1) | exact HB.out)⟩

/-! ### gessoref15_Queue_before: function 31 -/
def gessoref15_Queue_before.f (k : Nat) (a0_0 : Bool) (l0_1 : List (List ByteArray)) (l1 : List ByteArray) (l2 : List ByteArray) : Option (Bool) := if a0_0 = true then ((gessoref15_Deeper.f k l1 l2).bind fun t179 => (some t179)) else ((gessoref15_Less.f k l1 l2).bind fun t180 => (some t180))
theorem gessoref15_Queue_before.mono : ∀ a0 a1 a2 a3 k, LeO (gessoref15_Queue_before.f k a0 a1 a2 a3) (gessoref15_Queue_before.f (k + 1) a0 a1 a2 a3) := by
  intro a0 a1 a2 a3 k
  unfold gessoref15_Queue_before.f
  repeat' first
      | (with_reducible exact gessoref15_Deeper.mono _ _ _)
      | (with_reducible exact gessoref15_Less.mono _ _ _)
      | (with_reducible exact LeO.refl _)
      | (with_reducible exact LeO.none _)
      | (with_reducible refine LeO.ite ?_ ?_)
      | (with_reducible refine LeO.bind ?_ (fun _ => ?_))
      | exact gessoref15_Deeper.mono _ _ _
      | exact gessoref15_Less.mono _ _ _
      | exact LeO.none _
      | refine LeO.ite ?_ ?_
      | refine LeO.bind ?_ (fun _ => ?_)
set_option maxHeartbeats 8000000 in
set_option maxRecDepth 100000 in
theorem gessoref15_Queue_before.calls (k : Nat) (a0_0 : Bool) (A0_1 : Option Addr) (c0_1 : Nat) (l0_1 : List (List ByteArray)) (A1 : Option Addr) (c1 : Nat) (l1 : List ByteArray) (A2 : Option Addr) (c2 : Nat) (l2 : List ByteArray) (r : Bool) (w : World) (hr0_1 : Kd.C (Kd.slice 9 Kd.string) w A0_1 l0_1.length l0_1) (hc0_1 : l0_1.length ≤ c0_1) (hr1 : Kd.C Kd.string w A1 l1.length l1) (hc1 : l1.length ≤ c1) (hr2 : Kd.C Kd.string w A2 l2.length l2) (hc2 : l2.length ≤ c2) (h : gessoref15_Queue_before.f k a0_0 l0_1 l1 l2 = some r) :
    Calls Try.prog 31 #[.agg #[.bool a0_0, .slice A0_1 l0_1.length c0_1], .slice A1 l1.length c1, .slice A2 l2.length c2] w fun e w' => e = .returned (.bool r) ∧ Below w.heap.size w w' := by
  have hu32 := Try.underlying32
  have HR0_1 := Aside0.mk hr0_1
  have HC0_1 := Aside0.mk hc0_1
  clear hr0_1 hc0_1
  have HR1 := Aside0.mk hr1
  have HC1 := Aside0.mk hc1
  clear hr1 hc1
  have HR2 := Aside0.mk hr2
  have HC2 := Aside0.mk hc2
  clear hr2 hc2
  have HB := Aside0.mk (Below.refl w.heap.size w)
  have H : (if a0_0 = true then ((gessoref15_Deeper.f k l1 l2).bind fun t179 => (some t179)) else ((gessoref15_Less.f k l1 l2).bind fun t180 => (some t180))) = some r := h
  clear h
  by_cases c4 : a0_0 = true
  · subst c4
    have H1 : ((gessoref15_Deeper.f k l1 l2).bind fun t179 => (some t179)) = some r := by rw [if_pos rfl] at H; exact H
    clear H
    have H := H1
    clear H1
    replace H := Option.bind_eq_some_iff.mp H
    obtain ⟨t179, A50, H⟩ := H
    replace H : (some t179) = some r := H
    have A5 := Aside0.mk A50
    clear A50
    obtain rfl := Option.some.inj H
    go_enter Try.func31, Try.ntmps31
    go_wp2_with (first | ((with_reducible refine gate_dst (N := 3) rfl ?_); refine box_event ?hg (N := 3) ?hd (cs := #[.bool true, .slice A0_1 l0_1.length c0_1]) (t := 32) ?hr ?_; (case hd => rfl); (case hg => rfl); (case hr => first | (go_simp; done) | (go_simp; rfl)); intro gb178 hg w6 hbox hb; have n0_ := Aside0.mk (below_step (by repeat (first | (with_reducible first | exact HB.out | apply below_alloc | apply pw_below_drewN | apply below_drew1) | exact HB.out)) hb); have n1_ := Aside0.mk (hbox); have n2_ := Aside0.mk ((by rw [hg]; exact (below_size (by repeat (first | (with_reducible first | exact HB.out | apply below_alloc | apply pw_below_drewN | apply below_drew1) | exact HB.out))) : w.heap.size ≤ gb178)); have n3_ := Aside0.mk ((by rw [hg]; exact (below_size (by repeat (first | (with_reducible first | exact HB.out | apply below_alloc | apply pw_below_drewN | apply below_drew1) | exact HB.out))) : w.heap.size ≤ gb178)); clear HB; have HB := n0_; have BK178 := n1_; have GW178 := n2_; have GE178 := n3_; clear n0_ n1_ n2_ n3_; clear hb hbox hg; have hcz7_0 : w6.cell? ⟨gb178, 0, none⟩ = some (.bool true) := (blk_cell BK178.out 0).trans rfl; have hcz7_1 : w6.cell? ⟨gb178, 1, none⟩ = some (.slice A0_1 l0_1.length c0_1) := (blk_cell BK178.out 1).trans rfl; have hfz7_0 := blk_frozen BK178.out 0; have hfz7_1 := blk_frozen BK178.out 1) | ((with_reducible refine gate_callee (f := 12) rfl ?_); refine goesL_ (some 11) rfl rfl Try.func12 (by kernel_rfl) rfl #[.slice A1 l1.length c1, .slice A2 l2.length c2] rfl (by (try simp only [List.map_toArray, List.map_cons, List.map_nil]); first | done | rfl | (simp only [List.length_drop, List.length_take]; rfl)) ?_; (with_reducible refine (gessoref15_Deeper.calls k _ _ l1 _ _ l2 t179 _ ?side1 ?side2 ?side3 ?side4 A5.out).mono ?_); (case side1 => repeat (first | exact (Kd.C_below HR1.out HB.out) | (with_reducible refine Kd.C_alloc ?_ _) | (with_reducible refine Kd.C_drewN ?_ _) | (with_reducible refine Kd.C_drew ?_))); (case side2 => exact HC1.out); (case side3 => repeat (first | exact (Kd.C_below HR2.out HB.out) | (with_reducible refine Kd.C_alloc ?_ _) | (with_reducible refine Kd.C_drewN ?_ _) | (with_reducible refine Kd.C_drew ?_))); (case side4 => exact HC2.out); rintro e w' ⟨rfl, ⟨nd, rfl⟩⟩; refine ⟨_, rfl, ?_⟩))
    go_ret
    exact ⟨by first | rfl | (simp [errW_none, errW_some] <;> rfl) | (simp [*, errW_none, errW_some] <;> rfl), by repeat (first | (with_reducible first | exact HB.out | apply below_alloc | apply pw_below_drewN | apply below_drew1 | refine below_set ?_ GE178.out) | exact HB.out)⟩
  · replace c4 := Bool.eq_false_iff.mpr c4
    subst c4
    have H1 : ((gessoref15_Less.f k l1 l2).bind fun t180 => (some t180)) = some r := by rw [if_neg (show ¬ (false = true) by decide)] at H; exact H
    clear H
    have H := H1
    clear H1
    replace H := Option.bind_eq_some_iff.mp H
    obtain ⟨t180, A80, H⟩ := H
    replace H : (some t180) = some r := H
    have A8 := Aside0.mk A80
    clear A80
    obtain rfl := Option.some.inj H
    go_enter Try.func31, Try.ntmps31
    go_wp2_with (first | ((with_reducible refine gate_dst (N := 3) rfl ?_); refine box_event ?hg (N := 3) ?hd (cs := #[.bool false, .slice A0_1 l0_1.length c0_1]) (t := 32) ?hr ?_; (case hd => rfl); (case hg => rfl); (case hr => first | (go_simp; done) | (go_simp; rfl)); intro gb178 hg w9 hbox hb; have n0_ := Aside0.mk (below_step (by repeat (first | (with_reducible first | exact HB.out | apply below_alloc | apply pw_below_drewN | apply below_drew1) | exact HB.out)) hb); have n1_ := Aside0.mk (hbox); have n2_ := Aside0.mk ((by rw [hg]; exact (below_size (by repeat (first | (with_reducible first | exact HB.out | apply below_alloc | apply pw_below_drewN | apply below_drew1) | exact HB.out))) : w.heap.size ≤ gb178)); have n3_ := Aside0.mk ((by rw [hg]; exact (below_size (by repeat (first | (with_reducible first | exact HB.out | apply below_alloc | apply pw_below_drewN | apply below_drew1) | exact HB.out))) : w.heap.size ≤ gb178)); clear HB; have HB := n0_; have BK178 := n1_; have GW178 := n2_; have GE178 := n3_; clear n0_ n1_ n2_ n3_; clear hb hbox hg; have hcz10_0 : w9.cell? ⟨gb178, 0, none⟩ = some (.bool false) := (blk_cell BK178.out 0).trans rfl; have hcz10_1 : w9.cell? ⟨gb178, 1, none⟩ = some (.slice A0_1 l0_1.length c0_1) := (blk_cell BK178.out 1).trans rfl; have hfz10_0 := blk_frozen BK178.out 0; have hfz10_1 := blk_frozen BK178.out 1) | ((with_reducible refine gate_callee (f := 10) rfl ?_); refine goesL_ (some 14) rfl rfl Try.func10 (by kernel_rfl) rfl #[.slice A1 l1.length c1, .slice A2 l2.length c2] rfl (by (try simp only [List.map_toArray, List.map_cons, List.map_nil]); first | done | rfl | (simp only [List.length_drop, List.length_take]; rfl)) ?_; (with_reducible refine (gessoref15_Less.calls k _ _ l1 _ _ l2 t180 _ ?side1 ?side2 ?side3 ?side4 A8.out).mono ?_); (case side1 => repeat (first | exact (Kd.C_below HR1.out HB.out) | (with_reducible refine Kd.C_alloc ?_ _) | (with_reducible refine Kd.C_drewN ?_ _) | (with_reducible refine Kd.C_drew ?_))); (case side2 => exact HC1.out); (case side3 => repeat (first | exact (Kd.C_below HR2.out HB.out) | (with_reducible refine Kd.C_alloc ?_ _) | (with_reducible refine Kd.C_drewN ?_ _) | (with_reducible refine Kd.C_drew ?_))); (case side4 => exact HC2.out); rintro e w' ⟨rfl, ⟨nd, rfl⟩⟩; refine ⟨_, rfl, ?_⟩))
    go_ret
    exact ⟨by first | rfl | (simp [errW_none, errW_some] <;> rfl) | (simp [*, errW_none, errW_some] <;> rfl), by repeat (first | (with_reducible first | exact HB.out | apply below_alloc | apply pw_below_drewN | apply below_drew1 | refine below_set ?_ GE178.out) | exact HB.out)⟩

end Go.Proofs.Ytomhpfgibekmfaa.P
