/- Functions of the translated program as plain Lean functions, and proofs that their calls come to these. Written by a program of the session. No condition. -/
import Derived.Test.YtomhpfgibekmfaaPx0
import Derived.Test.YtomhpfgibekmfaaPx7
namespace Go.Proofs.Ytomhpfgibekmfaa.P
open Go.RowKit Go.Proofs.YtomhpfgibekmfaaW.PrintWords Go.Proofs.YtomhpfgibekmfaaW.PrintLast Go.Proofs.YtomhpfgibekmfaaW.PrintMore
attribute [local go_sem] max2_int min2_int max_two min_two max_three min_three max_four min_four   -- for this text's walks alone
set_option linter.unusedVariables false
set_option linter.unusedSimpArgs false

/-! ### gessoref15_Sorted: function 24 -/
def gessoref15_Sorted.l0 : Nat → List (List ByteArray) → Int → Bool → List (List ByteArray) → Option ((List (List ByteArray)))
  | 0, _, _, _, _ => none
  | k + 1, x0, x6, x238000, x238001 => if x6 < (x0.length : Int) then (if 0 ≤ x6 then ((gessoref15_Queue_Push.f k x238000 x238001 (rd_L1 x0 x6)).bind fun bt239 => (gessoref15_Sorted.l0 k x0 (wrap64 (x6 + 1)) bt239.1 bt239.2)) else (none)) else (some x238001)
def gessoref15_Sorted.f (k : Nat) (l0 : List (List ByteArray)) (a1 : Bool) : Option ((List (List ByteArray))) := gessoref15_Sorted.l0 k l0 0 a1 ([] : List (List ByteArray))
theorem gessoref15_Sorted.mono_l : ∀ k, (∀ y0 y1 y2 y3, LeO (gessoref15_Sorted.l0 k y0 y1 y2 y3) (gessoref15_Sorted.l0 (k + 1) y0 y1 y2 y3))
  | 0 => fun _ _ _ _ r h => by simp [gessoref15_Sorted.l0] at h
  | k + 1 => by
    have ih0 := gessoref15_Sorted.mono_l k
    · intro y0 y1 y2 y3
      unfold gessoref15_Sorted.l0
      repeat' first
      | (with_reducible exact ih0 _ _ _ _)
      | (with_reducible exact gessoref15_Queue_Push.mono _ _ _ _)
      | (with_reducible exact LeO.refl _)
      | (with_reducible exact LeO.none _)
      | (with_reducible refine LeO.ite ?_ ?_)
      | (with_reducible refine LeO.bind ?_ (fun _ => ?_))
      | exact ih0 _ _ _ _
      | exact gessoref15_Queue_Push.mono _ _ _ _
      | exact LeO.none _
      | refine LeO.ite ?_ ?_
      | refine LeO.bind ?_ (fun _ => ?_)
theorem gessoref15_Sorted.mono : ∀ a0 a1 k, LeO (gessoref15_Sorted.f k a0 a1) (gessoref15_Sorted.f (k + 1) a0 a1) := by
  intro a0 a1 k
  have ih0 := gessoref15_Sorted.mono_l k
  unfold gessoref15_Sorted.f
  repeat' first
      | (with_reducible exact ih0 _ _ _ _)
      | (with_reducible exact gessoref15_Queue_Push.mono _ _ _ _)
      | (with_reducible exact LeO.refl _)
      | (with_reducible exact LeO.none _)
      | (with_reducible refine LeO.ite ?_ ?_)
      | (with_reducible refine LeO.bind ?_ (fun _ => ?_))
      | exact ih0 _ _ _ _
      | exact gessoref15_Queue_Push.mono _ _ _ _
      | exact LeO.none _
      | refine LeO.ite ?_ ?_
      | refine LeO.bind ?_ (fun _ => ?_)
set_option maxHeartbeats 8000000 in
set_option maxRecDepth 100000 in
theorem gessoref15_Sorted.calls (k : Nat) (A0 : Option Addr) (c0 : Nat) (l0 : List (List ByteArray)) (a1 : Bool) (r : List (List ByteArray)) (w : World) (hr0 : Kd.C (Kd.slice 9 Kd.string) w A0 l0.length l0) (hc0 : l0.length ≤ c0) (h : gessoref15_Sorted.f k l0 a1 = some r) :
    Calls Try.prog 24 #[.slice A0 l0.length c0, .bool a1] w fun e w' => ∃ v0_ : Value, e = .returned (v0_) ∧ Kd.N (Kd.slice 9 Kd.string) 22 w' w.heap.size (fun k_ => (w.heap.size ≤ k_)) v0_ r ∧ Below w.heap.size w w' := by
  have hu32 := Try.underlying32
  have HR0 := Aside0.mk hr0
  have HC0 := Aside0.mk hc0
  clear hr0 hc0
  have HB := Aside0.mk (Below.refl w.heap.size w)
  have H : (gessoref15_Sorted.l0 k l0 0 a1 ([] : List (List ByteArray))) = some r := h
  clear h
  have H' := Aside0.mk H
  clear H
  go_enter Try.func24, Try.ntmps24
  go_wp2_with (first | ((with_reducible refine gate_dst (N := 5) rfl ?_); refine box_event ?hg (N := 5) ?hd (cs := #[.bool false, .slice none 0 0]) (t := 32) ?hr ?_; (case hd => rfl); (case hg => rfl); (case hr => first | (go_simp; done) | (go_simp; rfl)); intro gb237 hg w3 hbox hb; have n0_ := Aside0.mk (below_step (by repeat (first | (with_reducible first | exact HB.out | apply below_alloc | apply pw_below_drewN | apply below_drew1) | exact HB.out)) hb); have n1_ := Aside0.mk (hbox); have n2_ := Aside0.mk ((by rw [hg]; exact (below_size (by repeat (first | (with_reducible first | exact HB.out | apply below_alloc | apply pw_below_drewN | apply below_drew1) | exact HB.out))) : w.heap.size ≤ gb237)); have n3_ := Aside0.mk ((by rw [hg]; exact (below_size (by repeat (first | (with_reducible first | exact HB.out | apply below_alloc | apply pw_below_drewN | apply below_drew1) | exact HB.out))) : w.heap.size ≤ gb237)); clear HB; have HB := n0_; have BK237 := n1_; have GW237 := n2_; have GE237 := n3_; clear n0_ n1_ n2_ n3_; clear hb hbox hg; have hcz4_0 : w3.cell? ⟨gb237, 0, none⟩ = some (.bool false) := (blk_cell BK237.out 0).trans rfl; have hcz4_1 : w3.cell? ⟨gb237, 1, none⟩ = some (.slice none 0 0) := (blk_cell BK237.out 1).trans rfl; have hfz4_0 := blk_frozen BK237.out 0; have hfz4_1 := blk_frozen BK237.out 1))
  go_loopg [6] k (fun kq v6 w' => ∃ (x6_1 : Int) (x238000_1 : Bool) (x238001_1 : List (List ByteArray)) (u238001 : Value), v6 = .int .i64 x6_1 ∧ Aside0 (gessoref15_Sorted.l0 kq l0 x6_1 x238000_1 x238001_1 = some r) ∧ Aside0 (kq ≤ k) ∧ Aside0 (Kd.N (Kd.slice 9 Kd.string) 22 w' w.heap.size (fun k_ => (w.heap.size ≤ k_) ∧ k_ ≠ gb237) u238001 x238001_1) ∧ Aside0 (w'.heap[gb237]? = some (.cells #[.bool x238000_1, u238001] 32 (0, 0))) ∧ Aside0 (Below w.heap.size w w'))
  case atStart => exact ⟨(0), (a1), (([] : List (List ByteArray))), (.slice none 0 0), (by first | rfl | (simp; done) | (simp [*]; done)), H', ⟨Nat.le_refl _⟩, ⟨by first | exact Kd.S_nil _ _ _ _ _ | exact Kd.N_nil _ _ _ _ _ | exact Kd.V_nil _ _ _ _ _ | exact Kd.Q_nil _ _ _ _ _ | exact Kd.R_nil _ _ _ _ _⟩, ⟨by (with_reducible repeat (first | refine blk_drewN ?_ _ | refine blk_drew ?_ | refine blk_alloc ?_ _)); refine blk_put (cs := #[.bool a1, .slice none 0 0]) ?_ 1 _ rfl; (with_reducible repeat (first | refine blk_drewN ?_ _ | refine blk_drew ?_ | refine blk_alloc ?_ _)); refine blk_put (cs := #[.bool false, .slice none 0 0]) ?_ 0 _ rfl; (with_reducible repeat (first | refine blk_drewN ?_ _ | refine blk_drew ?_ | refine blk_alloc ?_ _)); exact BK237.out⟩, ⟨by repeat (first | (with_reducible first | exact HB.out | apply below_alloc | apply pw_below_drewN | apply below_drew1 | refine below_set ?_ GE237.out) | exact HB.out)⟩⟩
  case round =>
    clear H'
    try clear c2
    try clear p2
    try clear hcz4_0
    try clear hcz4_1
    try clear hfz4_0
    try clear hfz4_1
    obtain ⟨x6_1, x238000_1, x238001_1, u238001, rfl, HA, HK1, HO_238001, BK237, HB⟩ := hrel
    cases gk with
    | zero => exact absurd HA.out (by simp [gessoref15_Sorted.l0])
    | succ k1 =>
      have H := HA.out
      clear HA
      simp only [gessoref15_Sorted.l0] at H
      by_cases c5 : x6_1 < (l0.length : Int)
      · rw [if_pos c5] at H
        have c5b0 : decide (x6_1 < (l0.length : Int)) = true := decide_eq_true c5
        clear c5
        by_cases c6 : 0 ≤ x6_1
        · rw [if_pos c6] at H
          have c6b0 : decide (0 ≤ x6_1) = true := decide_eq_true c6
          clear c6
          replace H := Option.bind_eq_some_iff.mp H
          obtain ⟨⟨t239, t240⟩, A70, H⟩ := H
          replace H : (gessoref15_Sorted.l0 k1 l0 (wrap64 (x6_1 + 1)) t239 t240) = some r := H
          have A7 := Aside0.mk A70
          clear A70
          have H' := Aside0.mk H
          clear H
          try go_wp2
          have n0_ := Aside0.mk (Kd.N_drew HO_238001.out)
          have n1_ := Aside0.mk (blk_drew BK237.out)
          have n2_ := Aside0.mk (below_drew1 HB.out)
          clear HO_238001
          clear BK237
          clear HB
          have HO_238001 := n0_
          have BK237 := n1_
          have HB := n2_
          clear n0_ n1_ n2_
          have p238 : 0 ≤ (x6_1 : Int) := of_decide_eq_true (by first | (with_reducible assumption) | assumption)
          have q238 : x6_1 < (l0.length : Int) := of_decide_eq_true (by first | (with_reducible assumption) | assumption)
          obtain ⟨ad238, A238_0, c238_0, e238, hx238_0, hl238_0, hi238_0⟩ := at_L1 HR0.out x6_1 p238 q238
          have hw238_0 := hx238_0
          cases e238
          replace hx238_0 := (HB.out.cell (World.block_lt_of_cell? w _ hx238_0)).trans hx238_0
          have HR238_0 := Aside0.mk hi238_0
          have HC238_0 := Aside0.mk hl238_0
          clear hi238_0 hl238_0
          replace p238 := eq_true p238
          replace q238 := eq_true q238
          obtain ⟨Ao9, co9, eo9⟩ := Kd.N_slice HO_238001.out
          (first | subst eo9 | (injection eo9 with f1_ f2_ f3_; have f4_ := f1_.symm; have f5_ := f3_.symm; clear f1_ f2_ f3_; subst f4_; subst f5_))
          refine start_ (n := 7) (S := fun w' => w'.cell? ⟨gb237, 0, none⟩ = some (.bool x238000_1) ∧ w'.cell? ⟨gb237, 1, none⟩ = some (.slice Ao9 x238001_1.length co9) ∧ w'.cell? (ad238.add (x6_1).toNat) = some (.slice A238_0 (rd_L1 l0 x6_1).length c238_0)) (ds := [6]) #[false, false, false, false, false, false, false] (by kernel_rfl) rfl rfl ⟨(blk_cell BK237.out 0).trans rfl, (blk_cell BK237.out 1).trans rfl, ((HB.out.cell (World.block_lt_of_cell? w _ hw238_0)).trans hw238_0)⟩ (fun hHeld => ?_)
          generalize wr.drew = w8 at HO_238001 BK237 HB HR238_0 hx238_0 hHeld ⊢
          refine pure_ (i := 1) (N := some 16) (v := ?_) (a' := ?_) #[false, true, false, false, false, false, false] rfl rfl (by kernel_rfl) (fun _ _ _ h => h) (Or.inl ⟨by rfl, ?_⟩) ?_ ?_
          rotate_left
          · intro w'
            go_simp
            with_reducible rfl
          rotate_left
          · simp only [Act.put, List.setIfInBounds_toArray, List.set_cons_zero, List.set_cons_succ, i64_w, i32_w]
            rfl
          refine pure_ (i := 2) (N := some 17) (v := ?_) (a' := ?_) #[false, true, true, false, false, false, false] rfl rfl (by kernel_rfl) (fun _ _ _ h => h) (Or.inl ⟨by rfl, ?_⟩) ?_ ?_
          rotate_left
          · intro w'
            go_simp
            with_reducible rfl
          rotate_left
          · simp only [Act.put, List.setIfInBounds_toArray, List.set_cons_zero, List.set_cons_succ, i64_w, i32_w]
            rfl
          refine pure_ (i := 3) (N := some 18) (v := ?_) (a' := ?_) #[false, true, true, true, false, false, false] rfl rfl (by kernel_rfl) (fun _ _ _ h => h) (Or.inl ⟨by rfl, ?_⟩) ?_ ?_
          rotate_left
          · intro w'
            go_simp
            with_reducible rfl
          rotate_left
          · simp only [Act.put, List.setIfInBounds_toArray, List.set_cons_zero, List.set_cons_succ, i64_w, i32_w]
            rfl
          refine take_ (i := 0) (N := some 15) (v := ?_) (a' := ?_) #[true, true, true, true, false, false, false] rfl rfl (by kernel_rfl) (fun _ _ _ h => h) (Or.inl ⟨by rfl, ?_⟩) hHeld ?_ ?_
          rotate_left
          · rintro w' ⟨s0, s1, s2⟩
            go_simp
            with_reducible rfl
          rotate_left
          · simp only [Act.put, List.setIfInBounds_toArray, List.set_cons_zero, List.set_cons_succ, i64_w, i32_w]
            rfl
          refine take_ (i := 4) (N := some 19) (v := ?_) (a' := ?_) #[true, true, true, true, true, false, false] rfl rfl (by kernel_rfl) (fun _ _ _ h => h) (Or.inl ⟨by rfl, ?_⟩) hHeld ?_ ?_
          rotate_left
          · rintro w' ⟨s0, s1, s2⟩
            go_simp
            with_reducible rfl
          rotate_left
          · simp only [Act.put, List.setIfInBounds_toArray, List.set_cons_zero, List.set_cons_succ, i64_w, i32_w]
            rfl
          refine one_ (i := 5) (N := some 20) #[true, true, true, true, true, true, false] rfl rfl (by kernel_rfl) (by decide) (fun K hK => ?_)
          refine goes_ Try.func18 (by kernel_rfl) rfl #[.agg #[.bool x238000_1, .slice Ao9 x238001_1.length co9], .slice A238_0 (rd_L1 l0 x6_1).length c238_0] (by rfl) rfl rfl (by (try simp only [List.map_toArray, List.map_cons, List.map_nil]); first | done | rfl | (simp only [List.length_drop, List.length_take]; rfl)) ?_
          with_reducible refine (gessoref15_Queue_Push.calls k1 x238000_1 (fun k_ => ((w.heap.size ≤ k_) ∧ k_ ≠ gb237)) _ _ x238001_1 _ _ (rd_L1 l0 x6_1) t239 t240 _ ?side1 ?side2 ?side3 A7.out).mono ?_
          (case side1 => exact Kd.N_V (HO_238001.out))
          (case side2 => repeat (first | exact (Kd.C_below HR238_0.out HB.out) | (with_reducible refine Kd.C_alloc ?_ _) | (with_reducible refine Kd.C_drewN ?_ _) | (with_reducible refine Kd.C_drew ?_)))
          (case side3 => exact HC238_0.out)
          rintro e w10 ⟨v241, rfl, ho0, hb⟩
          refine ⟨_, rfl, ?_⟩
          have n0_ := Aside0.mk (Kd.N_elder' (by (with_reducible repeat (first | apply Kd.N_alloc | apply Kd.N_drewN | apply Kd.N_drew)); exact HO_238001.out) (Kd.N_base ho0) hb)
          have n1_ := Aside0.mk (Kd.N_lower (Kd.N_mono (ok' := fun k_ => (w.heap.size ≤ k_) ∧ k_ ≠ gb237) ho0 (fun k_ hk_ => ⟨Or.elim hk_ (fun hs_ => hs_.1) (fun hn_ => (Nat.le_trans (below_size (by repeat (first | (with_reducible first | exact HB.out | apply below_alloc | apply pw_below_drewN | apply below_drew1 | refine below_set ?_ GE237.out) | exact HB.out))) hn_)), Or.elim hk_ (fun hs_ => hs_.2) (fun hn_ => (Kd.freshB (g := gb237) (o := .cells #[.bool x238000_1, .slice Ao9 x238001_1.length co9] 32 (0, 0)) (by (with_reducible repeat (first | refine blk_drewN ?_ _ | refine blk_drew ?_ | refine blk_alloc ?_ _)); exact BK237.out) k_ hn_))⟩)) (below_size (by repeat (first | (with_reducible first | exact HB.out | apply below_alloc | apply pw_below_drewN | apply below_drew1 | refine below_set ?_ GE237.out) | exact HB.out))))
          have n2_ := Aside0.mk (blk_below (g := gb237) (o := .cells #[.bool x238000_1, .slice Ao9 x238001_1.length co9] 32 (0, 0)) (by (with_reducible repeat (first | refine blk_drewN ?_ _ | refine blk_drew ?_ | refine blk_alloc ?_ _)); exact BK237.out) hb)
          have n3_ := Aside0.mk (below_step (by repeat (first | (with_reducible first | exact HB.out | apply below_alloc | apply pw_below_drewN | apply below_drew1 | refine below_set ?_ GE237.out) | exact HB.out)) hb)
          clear HO_238001
          clear BK237
          clear HB
          have HO_238001 := n0_
          have HO242 := n1_
          have BK237 := n2_
          have HB := n3_
          clear n0_ n1_ n2_ n3_
          (try clear hb)
          (try clear hb2)
          (try clear hk)
          (try clear hi)
          (try clear ho0)
          obtain ⟨Ao12, co12, eo12⟩ := Kd.N_slice HO242.out
          (first | subst eo12 | (injection eo12 with f1_ f2_ f3_; have f4_ := f1_.symm; have f5_ := f3_.symm; clear f1_ f2_ f3_; subst f4_; subst f5_))
          refine hK.out _ _ ⟨(blk_cell BK237.out 0).trans rfl, (blk_cell BK237.out 1).trans rfl, ((HB.out.cell (World.block_lt_of_cell? w _ hw238_0)).trans hw238_0)⟩ (fun hHeld => ?_)
          clear hK K
          refine norm_ (a' := ?_) ?_ ?_
          rotate_left
          · show Act.put _ (some 20) _ = _
            simp only [Act.put, List.setIfInBounds_toArray, List.set_cons_zero, List.set_cons_succ, i64_w, i32_w]
            rfl
          refine last_ (i := 6) (N := none) #[true, true, true, true, true, true, true] rfl rfl (by kernel_rfl) (by decide) (fun K hK => ?_)
          have hs11 : w10.cell? ⟨gb237, 0, none⟩ = some (.bool x238000_1) := (blk_cell BK237.out 0).trans rfl
          have hfs11 := blk_frozen BK237.out 0
          have hs13 : w10.cell? ⟨gb237, 1, none⟩ = some (.slice Ao9 x238001_1.length co9) := (blk_cell BK237.out 1).trans rfl
          have hfs13 := blk_frozen BK237.out 1
          refine skip_ (w1 := ?_) (by rfl) rfl ?_ ?_
          rotate_left
          · go_simp
            rfl
          refine hK.out _ _ ?_
          clear hK K
          refine done_ (by kernel_rfl) ?_
          try go_wp2
          go_roundg k1
          case measure => have := HK1.out; omega
          case rel => exact ⟨(wrap64 (x6_1 + 1)), (t239), (t240), (.slice Ao12 t240.length co12), (by first | rfl | (simp; done) | (simp [*]; done)), H', ⟨by have := HK1.out; omega⟩, ⟨by (with_reducible repeat (first | apply Kd.N_alloc | apply Kd.N_drewN | apply Kd.N_drew)); exact Kd.N_mono (Kd.N_far (p := ⟨gb237, 1, none⟩) (Kd.N_far (p := ⟨gb237, 0, none⟩) (Kd.N_mono HO242.out (fun k_ hk => (⟨hk, hk.2⟩ : _ ∧ k_ ≠ gb237))) (fun _ hk => hk.2) (.bool t239)) (fun _ hk => hk.2) (.slice Ao12 t240.length co12)) (fun _ hk => ⟨hk.1.1, hk.1.2⟩)⟩, ⟨by (with_reducible repeat (first | refine blk_drewN ?_ _ | refine blk_drew ?_ | refine blk_alloc ?_ _)); refine blk_put (cs := #[.bool t239, .slice Ao9 x238001_1.length co9]) ?_ 1 _ rfl; (with_reducible repeat (first | refine blk_drewN ?_ _ | refine blk_drew ?_ | refine blk_alloc ?_ _)); refine blk_put (cs := #[.bool x238000_1, .slice Ao9 x238001_1.length co9]) ?_ 0 _ rfl; (with_reducible repeat (first | refine blk_drewN ?_ _ | refine blk_drew ?_ | refine blk_alloc ?_ _)); exact BK237.out⟩, ⟨by repeat (first | (with_reducible first | exact HB.out | apply below_alloc | apply pw_below_drewN | apply below_drew1 | refine below_set ?_ GE237.out) | exact HB.out)⟩⟩
        · rw [if_neg c6] at H
          exact absurd H (by simp)
      · rw [if_neg c5] at H
        have c5b0 : decide (x6_1 < (l0.length : Int)) = false := decide_eq_false c5
        clear c5
        obtain rfl := Option.some.inj H
        have hcz14_0 : wr.cell? ⟨gb237, 0, none⟩ = some (.bool x238000_1) := (blk_cell BK237.out 0).trans rfl
        have hcz14_1 : wr.cell? ⟨gb237, 1, none⟩ = some (u238001) := (blk_cell BK237.out 1).trans rfl
        have hfz14_0 := blk_frozen BK237.out 0
        have hfz14_1 := blk_frozen BK237.out 1
        go_wp2
        go_ret
        exact ⟨_, by first | rfl | (simp [errW_none, errW_some] <;> rfl) | (simp [*, errW_none, errW_some] <;> rfl), by (with_reducible repeat (first | apply Kd.N_alloc | apply Kd.N_drewN | apply Kd.N_drew)); exact Kd.N_mono HO_238001.out (fun _ hk => hk.1), by repeat (first | (with_reducible first | exact HB.out | apply below_alloc | apply pw_below_drewN | apply below_drew1 | refine below_set ?_ GE237.out) | exact HB.out)⟩

end Go.Proofs.Ytomhpfgibekmfaa.P
