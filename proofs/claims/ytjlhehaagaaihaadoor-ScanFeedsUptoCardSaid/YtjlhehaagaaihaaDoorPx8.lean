/- Functions of the translated program as plain Lean functions, and proofs that their calls come to these. Written by a program of the session. No condition. -/
import Derived.Test.YtjlhehaagaaihaaDoorPx0
import Derived.Test.YtjlhehaagaaihaaDoorPx7
namespace Go.Proofs.YtjlhehaagaaihaaDoor.P
open Go.RowKit Go.Proofs.YtjlhehaagaaihaaDoorW.PrintWords Go.Proofs.YtjlhehaagaaihaaDoorW.PrintLast Go.Proofs.YtjlhehaagaaihaaDoorW.PrintMore
attribute [local go_sem] max2_int min2_int max_two min_two max_three min_three max_four min_four   -- for this text's walks alone
set_option linter.unusedVariables false
set_option linter.unusedSimpArgs false

/-! ### gessoref01_Fault: function 25 -/
def gessoref01_Fault.l0 : Nat → List Int → Int → Option (Int)
  | 0, _, _ => none
  | k + 1, x0, x3 => if x3 < (x0.length : Int) then (if 0 ≤ x3 then (if x3 ≤ (x0.length : Int) then ((gessoref01_One.f k (x0.drop (x3 : Int).toNat)).bind fun bt258 => (if bt258.2 = 0 then (some x3) else (gessoref01_Fault.l0 k x0 (wrap64 (x3 + bt258.2))))) else (none)) else (none)) else (some (-1))
def gessoref01_Fault.f (k : Nat) (l0 : List Int) : Option (Int) := gessoref01_Fault.l0 k l0 0
theorem gessoref01_Fault.mono_l : ∀ k, (∀ y0 y1, LeO (gessoref01_Fault.l0 k y0 y1) (gessoref01_Fault.l0 (k + 1) y0 y1))
  | 0 => fun _ _ r h => by simp [gessoref01_Fault.l0] at h
  | k + 1 => by
    have ih0 := gessoref01_Fault.mono_l k
    · intro y0 y1
      unfold gessoref01_Fault.l0
      repeat' first
      | (with_reducible exact ih0 _ _)
      | (with_reducible exact gessoref01_One.mono _ _)
      | (with_reducible exact LeO.refl _)
      | (with_reducible exact LeO.none _)
      | (with_reducible refine LeO.ite ?_ ?_)
      | (with_reducible refine LeO.bind ?_ (fun _ => ?_))
      | exact ih0 _ _
      | exact gessoref01_One.mono _ _
      | exact LeO.none _
      | refine LeO.ite ?_ ?_
      | refine LeO.bind ?_ (fun _ => ?_)
theorem gessoref01_Fault.mono : ∀ a0 k, LeO (gessoref01_Fault.f k a0) (gessoref01_Fault.f (k + 1) a0) := by
  intro a0 k
  have ih0 := gessoref01_Fault.mono_l k
  unfold gessoref01_Fault.f
  repeat' first
      | (with_reducible exact ih0 _ _)
      | (with_reducible exact gessoref01_One.mono _ _)
      | (with_reducible exact LeO.refl _)
      | (with_reducible exact LeO.none _)
      | (with_reducible refine LeO.ite ?_ ?_)
      | (with_reducible refine LeO.bind ?_ (fun _ => ?_))
      | exact ih0 _ _
      | exact gessoref01_One.mono _ _
      | exact LeO.none _
      | refine LeO.ite ?_ ?_
      | refine LeO.bind ?_ (fun _ => ?_)
set_option maxHeartbeats 8000000 in
set_option maxRecDepth 100000 in
theorem gessoref01_Fault.calls (k : Nat) (A0 : Option Addr) (c0 : Nat) (l0 : List Int) (r : Int) (w : World) (hr0 : Kd.C (Kd.int .u8) w A0 l0.length l0) (hc0 : l0.length ≤ c0) (h : gessoref01_Fault.f k l0 = some r) :
    Calls Tryd.prog 25 #[.slice A0 l0.length c0] w fun e w' => e = .returned (.int .i64 r) ∧ Below w.heap.size w w' := by
  have HR0 := Aside0.mk hr0
  have HC0 := Aside0.mk hc0
  clear hr0 hc0
  have HB := Aside0.mk (Below.refl w.heap.size w)
  have H : (gessoref01_Fault.l0 k l0 0) = some r := h
  clear h
  have H' := Aside0.mk H
  clear H
  go_enter Tryd.func25, Tryd.ntmps25
  go_wp2
  go_loopg [3] k (fun kq v3 w' => ∃ (x3_1 : Int), v3 = .int .i64 x3_1 ∧ Aside0 (gessoref01_Fault.l0 kq l0 x3_1 = some r) ∧ Aside0 (kq ≤ k) ∧ Aside0 (Below w.heap.size w w'))
  case atStart => exact ⟨(0), (by first | rfl | (simp; done) | (simp [*]; done)), H', ⟨Nat.le_refl _⟩, ⟨by repeat (first | (with_reducible first | exact HB.out | apply below_alloc | apply pw_below_drewN | apply below_drew1) | exact HB.out)⟩⟩
  case round =>
    clear H'
    obtain ⟨x3_1, rfl, HA, HK1, HB⟩ := hrel
    cases gk with
    | zero => exact absurd HA.out (by simp [gessoref01_Fault.l0])
    | succ k1 =>
      have H := HA.out
      clear HA
      simp only [gessoref01_Fault.l0] at H
      by_cases c2 : x3_1 < (l0.length : Int)
      · rw [if_pos c2] at H
        have c2b0 : decide (x3_1 < (l0.length : Int)) = true := decide_eq_true c2
        clear c2
        by_cases c3 : 0 ≤ x3_1
        · rw [if_pos c3] at H
          have c3b0 := eq_true c3
          have c3b1 : decide (0 ≤ x3_1) = true := decide_eq_true c3
          clear c3
          by_cases c4 : x3_1 ≤ (l0.length : Int)
          · rw [if_pos c4] at H
            have c4b0 := eq_true c4
            have c4b1 : decide (x3_1 ≤ (l0.length : Int)) = true := decide_eq_true c4
            clear c4
            replace H := Option.bind_eq_some_iff.mp H
            obtain ⟨⟨t258, t259⟩, A50, H⟩ := H
            replace H : (if t259 = 0 then (some x3_1) else (gessoref01_Fault.l0 k1 l0 (wrap64 (x3_1 + t259)))) = some r := H
            have A5 := Aside0.mk A50
            clear A50
            by_cases c6 : t259 = 0
            · rw [if_pos c6] at H
              have c6b0 : (t259 == 0) = true := beq_iff_eq.mpr c6
              have c6b1 : (t259 != 0) = false := bne_eq_false_iff_eq.mpr c6
              clear c6
              obtain rfl := Option.some.inj H
              obtain ⟨i07, hi07, _, hsz7, _⟩ := info_parts info5
              obtain ⟨A7, hcut7, hA7, hC7⟩ := print_drop_of (P := Tryd.prog) (Value.int .u8) 0 23 5 .i64 Tryd.underlying23 hi07 hsz7 A0 c0 l0 x3_1 (of_decide_eq_true (by first | (with_reducible assumption) | assumption)) (of_decide_eq_true (by first | (with_reducible assumption) | assumption)) HC0.out
              have HR257 := Aside0.mk (Kd.C_of_reads (h1 := fun _ => rfl) (hA7 _ (Kd.reads_of_C HR0.out)))
              have HC257 := Aside0.mk hC7
              clear hA7 hC7 hi07 hsz7
              go_wp2_with (first | ((with_reducible refine gate_callee (f := 24) rfl ?_); refine goesL_ (some 14) rfl rfl Tryd.func24 (by kernel_rfl) rfl #[.slice A7 (l0.drop (x3_1 : Int).toNat).length (c0 - x3_1.toNat)] rfl (by (try simp only [List.map_toArray, List.map_cons, List.map_nil]); first | done | (rw [show (l0.drop (x3_1 : Int).toNat).length = (l0.length - x3_1.toNat) from List.length_drop] <;> rfl) | rfl | (simp only [List.length_drop, List.length_take]; rfl)) ?_; (with_reducible refine (gessoref01_One.calls k1 _ _ (l0.drop (x3_1 : Int).toNat) t258 t259 _ ?side1 ?side2 A5.out).mono ?_); (case side1 => repeat (first | exact (Kd.C_below HR257.out HB.out) | (with_reducible refine Kd.C_alloc ?_ _) | (with_reducible refine Kd.C_drewN ?_ _) | (with_reducible refine Kd.C_drew ?_))); (case side2 => exact HC257.out); rintro e w8 ⟨rfl, hb⟩; refine ⟨_, rfl, ?_⟩; have n0_ := Aside0.mk (below_step (by repeat (first | (with_reducible first | exact HB.out | apply below_alloc | apply pw_below_drewN | apply below_drew1) | exact HB.out)) hb); clear HB; have HB := n0_; clear n0_; (try clear hb); (try clear hb2); (try clear hk); (try clear hi)))
              go_ret
              exact ⟨by first | rfl | (simp [errW_none, errW_some] <;> rfl) | (simp [*, errW_none, errW_some] <;> rfl), by repeat (first | (with_reducible first | exact HB.out | apply below_alloc | apply pw_below_drewN | apply below_drew1) | exact HB.out)⟩
            · rw [if_neg c6] at H
              have c6b0 : (t259 == 0) = false := beq_eq_false_iff_ne.mpr c6
              have c6b1 : (t259 != 0) = true := bne_iff_ne.mpr c6
              have H' := Aside0.mk H
              clear H
              obtain ⟨i09, hi09, _, hsz9, _⟩ := info_parts info5
              obtain ⟨A9, hcut9, hA9, hC9⟩ := print_drop_of (P := Tryd.prog) (Value.int .u8) 0 23 5 .i64 Tryd.underlying23 hi09 hsz9 A0 c0 l0 x3_1 (of_decide_eq_true (by first | (with_reducible assumption) | assumption)) (of_decide_eq_true (by first | (with_reducible assumption) | assumption)) HC0.out
              have HR257 := Aside0.mk (Kd.C_of_reads (h1 := fun _ => rfl) (hA9 _ (Kd.reads_of_C HR0.out)))
              have HC257 := Aside0.mk hC9
              clear hA9 hC9 hi09 hsz9
              go_wp2_with (first | ((with_reducible refine gate_callee (f := 24) rfl ?_); refine goesL_ (some 14) rfl rfl Tryd.func24 (by kernel_rfl) rfl #[.slice A9 (l0.drop (x3_1 : Int).toNat).length (c0 - x3_1.toNat)] rfl (by (try simp only [List.map_toArray, List.map_cons, List.map_nil]); first | done | (rw [show (l0.drop (x3_1 : Int).toNat).length = (l0.length - x3_1.toNat) from List.length_drop] <;> rfl) | rfl | (simp only [List.length_drop, List.length_take]; rfl)) ?_; (with_reducible refine (gessoref01_One.calls k1 _ _ (l0.drop (x3_1 : Int).toNat) t258 t259 _ ?side1 ?side2 A5.out).mono ?_); (case side1 => repeat (first | exact (Kd.C_below HR257.out HB.out) | (with_reducible refine Kd.C_alloc ?_ _) | (with_reducible refine Kd.C_drewN ?_ _) | (with_reducible refine Kd.C_drew ?_))); (case side2 => exact HC257.out); rintro e w10 ⟨rfl, hb⟩; refine ⟨_, rfl, ?_⟩; have n0_ := Aside0.mk (below_step (by repeat (first | (with_reducible first | exact HB.out | apply below_alloc | apply pw_below_drewN | apply below_drew1) | exact HB.out)) hb); clear HB; have HB := n0_; clear n0_; (try clear hb); (try clear hb2); (try clear hk); (try clear hi)))
              go_roundg k1
              case measure => have := HK1.out; omega
              case rel => exact ⟨(wrap64 (x3_1 + t259)), (by first | rfl | (simp; done) | (simp [*]; done)), H', ⟨by have := HK1.out; omega⟩, ⟨by repeat (first | (with_reducible first | exact HB.out | apply below_alloc | apply pw_below_drewN | apply below_drew1) | exact HB.out)⟩⟩
          · rw [if_neg c4] at H
            exact absurd H (by simp)
        · rw [if_neg c3] at H
          exact absurd H (by simp)
      · rw [if_neg c2] at H
        have c2b0 : decide (x3_1 < (l0.length : Int)) = false := decide_eq_false c2
        clear c2
        obtain rfl := Option.some.inj H
        go_wp2
        go_ret
        exact ⟨by first | rfl | (simp [errW_none, errW_some] <;> rfl) | (simp [*, errW_none, errW_some] <;> rfl), by repeat (first | (with_reducible first | exact HB.out | apply below_alloc | apply pw_below_drewN | apply below_drew1) | exact HB.out)⟩

end Go.Proofs.YtjlhehaagaaihaaDoor.P
