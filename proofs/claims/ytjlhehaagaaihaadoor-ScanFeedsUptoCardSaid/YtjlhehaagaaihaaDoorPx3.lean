/- Functions of the translated program as plain Lean functions, and proofs that their calls come to these. Written by a program of the session. No condition. -/
import Derived.Test.YtjlhehaagaaihaaDoorPx0
import Derived.Test.YtjlhehaagaaihaaDoorPx1
import Derived.Test.YtjlhehaagaaihaaDoorEb
namespace Go.Proofs.YtjlhehaagaaihaaDoor.P
open Go.RowKit Go.Proofs.YtjlhehaagaaihaaDoorW.PrintWords Go.Proofs.YtjlhehaagaaihaaDoorW.PrintLast Go.Proofs.YtjlhehaagaaihaaDoorW.PrintMore
attribute [local go_sem] max2_int min2_int max_two min_two max_three min_three max_four min_four   -- for this text's walks alone
set_option linter.unusedVariables false
set_option linter.unusedSimpArgs false

/-! ### code_Fault: function 20 -/
def code_Fault.l0 : Nat → List Int → Int → Option (Int)
  | 0, _, _ => none
  | k + 1, x0, x3 => if x3 < (x0.length : Int) then (if 0 ≤ x3 then (if x3 ≤ (x0.length : Int) then ((code_One.f (x0.drop (x3 : Int).toNat)).bind fun bt157 => (if bt157.2 = 0 then (some x3) else (code_Fault.l0 k x0 (wrap64 (x3 + bt157.2))))) else (none)) else (none)) else (some (-1))
def code_Fault.f (k : Nat) (l0 : List Int) : Option (Int) := code_Fault.l0 k l0 0
theorem code_Fault.mono_l : ∀ k, (∀ y0 y1, LeO (code_Fault.l0 k y0 y1) (code_Fault.l0 (k + 1) y0 y1))
  | 0 => fun _ _ r h => by simp [code_Fault.l0] at h
  | k + 1 => by
    have ih0 := code_Fault.mono_l k
    · intro y0 y1
      unfold code_Fault.l0
      repeat' first
      | (with_reducible exact ih0 _ _)
      | (with_reducible exact LeO.refl _)
      | (with_reducible exact LeO.none _)
      | (with_reducible refine LeO.ite ?_ ?_)
      | (with_reducible refine LeO.bind ?_ (fun _ => ?_))
      | exact ih0 _ _
      | exact LeO.none _
      | refine LeO.ite ?_ ?_
      | refine LeO.bind ?_ (fun _ => ?_)
theorem code_Fault.mono : ∀ a0 k, LeO (code_Fault.f k a0) (code_Fault.f (k + 1) a0) := by
  intro a0 k
  have ih0 := code_Fault.mono_l k
  unfold code_Fault.f
  repeat' first
      | (with_reducible exact ih0 _ _)
      | (with_reducible exact LeO.refl _)
      | (with_reducible exact LeO.none _)
      | (with_reducible refine LeO.ite ?_ ?_)
      | (with_reducible refine LeO.bind ?_ (fun _ => ?_))
      | exact ih0 _ _
      | exact LeO.none _
      | refine LeO.ite ?_ ?_
      | refine LeO.bind ?_ (fun _ => ?_)
set_option maxHeartbeats 8000000 in
set_option maxRecDepth 100000 in
theorem code_Fault.calls (k : Nat) (A0 : Option Addr) (c0 : Nat) (l0 : List Int) (r : Int) (w : World) (HTb_ : Aside0 (Tabs w)) (hr0 : Kd.C (Kd.int .u8) w A0 l0.length l0) (hc0 : l0.length ≤ c0) (h : code_Fault.f k l0 = some r) :
    Calls Tryd.prog 20 #[.slice A0 l0.length c0] w fun e w' => e = .returned (.int .i64 r) ∧ Below w.heap.size w w' := by
  have HR0 := Aside0.mk hr0
  have HC0 := Aside0.mk hc0
  clear hr0 hc0
  have HB := Aside0.mk (Below.refl w.heap.size w)
  have H : (code_Fault.l0 k l0 0) = some r := h
  clear h
  have H' := Aside0.mk H
  clear H
  go_enter Tryd.func20, Tryd.ntmps20
  go_wp2
  go_loopg [3] k (fun kq v3 w' => ∃ (x3_1 : Int), v3 = .int .i64 x3_1 ∧ Aside0 (code_Fault.l0 kq l0 x3_1 = some r) ∧ Aside0 (kq ≤ k) ∧ Aside0 (Below w.heap.size w w'))
  case atStart => exact ⟨(0), (by first | rfl | (simp; done) | (simp [*]; done)), H', ⟨Nat.le_refl _⟩, ⟨by repeat (first | (with_reducible first | exact HB.out | apply below_alloc | apply pw_below_drewN | apply below_drew1) | exact HB.out)⟩⟩
  case round =>
    clear H'
    obtain ⟨x3_1, rfl, HA, HK1, HB⟩ := hrel
    cases gk with
    | zero => exact absurd HA.out (by simp [code_Fault.l0])
    | succ k1 =>
      have H := HA.out
      clear HA
      simp only [code_Fault.l0] at H
      by_cases c2 : x3_1 < (l0.length : Int)
      · rw [if_pos c2] at H
        have c2b0 : decide (x3_1 < (l0.length : Int)) = true := decide_eq_true c2
        clear c2
        by_cases c3 : 0 ≤ x3_1
        · rw [if_pos c3] at H
          have c3b0 := eq_true c3
          have c3b1 : decide (0 ≤ x3_1) = true := decide_eq_true c3
          clear c3
          by_cases c4 : x3_1 ≤ (l0.length : Int)
          · rw [if_pos c4] at H
            have c4b0 := eq_true c4
            have c4b1 : decide (x3_1 ≤ (l0.length : Int)) = true := decide_eq_true c4
            clear c4
            replace H := Option.bind_eq_some_iff.mp H
            obtain ⟨⟨t157, t158⟩, A50, H⟩ := H
            replace H : (if t158 = 0 then (some x3_1) else (code_Fault.l0 k1 l0 (wrap64 (x3_1 + t158)))) = some r := H
            have A5 := Aside0.mk A50
            clear A50
            by_cases c6 : t158 = 0
            · rw [if_pos c6] at H
              have c6b0 : (t158 == 0) = true := beq_iff_eq.mpr c6
              have c6b1 : (t158 != 0) = false := bne_eq_false_iff_eq.mpr c6
              clear c6
              obtain rfl := Option.some.inj H
              obtain ⟨i07, hi07, _, hsz7, _⟩ := info_parts info5
              obtain ⟨A7, hcut7, hA7, hC7⟩ := print_drop_of (P := Tryd.prog) (Value.int .u8) 0 23 5 .i64 Tryd.underlying23 hi07 hsz7 A0 c0 l0 x3_1 (of_decide_eq_true (by first | (with_reducible assumption) | assumption)) (of_decide_eq_true (by first | (with_reducible assumption) | assumption)) HC0.out
              have HR156 := Aside0.mk (Kd.C_of_reads (h1 := fun _ => rfl) (hA7 _ (Kd.reads_of_C HR0.out)))
              have HC156 := Aside0.mk hC7
              clear hA7 hC7 hi07 hsz7
              go_wp2_with (first | ((with_reducible refine gate_callee (f := 23) rfl ?_); refine goesL_ (some 14) rfl rfl Tryd.func23 (by kernel_rfl) rfl #[.slice A7 (l0.drop (x3_1 : Int).toNat).length (c0 - x3_1.toNat)] rfl (by (try simp only [List.map_toArray, List.map_cons, List.map_nil]); first | done | (rw [show (l0.drop (x3_1 : Int).toNat).length = (l0.length - x3_1.toNat) from List.length_drop] <;> rfl) | rfl | (simp only [List.length_drop, List.length_take]; rfl)) ?_; (with_reducible refine (code_One.calls _ _ (l0.drop (x3_1 : Int).toNat) t157 t158 _ ?sideT ?side1 ?side2 A5.out).mono ?_); (case sideT => first | exact ⟨HTb_.out.below (by repeat (first | (with_reducible first | exact HB.out | apply below_alloc | apply pw_below_drewN | apply below_drew1) | exact HB.out))⟩ | exact ⟨HTb_.out.drawn (by repeat (first | exact Drawn0.refl _ | apply Drawn0.step))⟩ | exact ⟨HTb_.out.below (Drawn0.below (by repeat (first | exact Drawn0.refl _ | apply Drawn0.step)))⟩); (case side1 => repeat (first | exact (Kd.C_below HR156.out HB.out) | (with_reducible refine Kd.C_alloc ?_ _) | (with_reducible refine Kd.C_drewN ?_ _) | (with_reducible refine Kd.C_drew ?_))); (case side2 => exact HC156.out); rintro e w8 ⟨rfl, hb⟩; refine ⟨_, rfl, ?_⟩; have n0_ := Aside0.mk (below_step (by repeat (first | (with_reducible first | exact HB.out | apply below_alloc | apply pw_below_drewN | apply below_drew1) | exact HB.out)) hb); clear HB; have HB := n0_; clear n0_; (try clear hb); (try clear hb2); (try clear hk); (try clear hi)))
              go_ret
              exact ⟨by first | rfl | (simp [errW_none, errW_some] <;> rfl) | (simp [*, errW_none, errW_some] <;> rfl), by repeat (first | (with_reducible first | exact HB.out | apply below_alloc | apply pw_below_drewN | apply below_drew1) | exact HB.out)⟩
            · rw [if_neg c6] at H
              have c6b0 : (t158 == 0) = false := beq_eq_false_iff_ne.mpr c6
              have c6b1 : (t158 != 0) = true := bne_iff_ne.mpr c6
              have H' := Aside0.mk H
              clear H
              obtain ⟨i09, hi09, _, hsz9, _⟩ := info_parts info5
              obtain ⟨A9, hcut9, hA9, hC9⟩ := print_drop_of (P := Tryd.prog) (Value.int .u8) 0 23 5 .i64 Tryd.underlying23 hi09 hsz9 A0 c0 l0 x3_1 (of_decide_eq_true (by first | (with_reducible assumption) | assumption)) (of_decide_eq_true (by first | (with_reducible assumption) | assumption)) HC0.out
              have HR156 := Aside0.mk (Kd.C_of_reads (h1 := fun _ => rfl) (hA9 _ (Kd.reads_of_C HR0.out)))
              have HC156 := Aside0.mk hC9
              clear hA9 hC9 hi09 hsz9
              go_wp2_with (first | ((with_reducible refine gate_callee (f := 23) rfl ?_); refine goesL_ (some 14) rfl rfl Tryd.func23 (by kernel_rfl) rfl #[.slice A9 (l0.drop (x3_1 : Int).toNat).length (c0 - x3_1.toNat)] rfl (by (try simp only [List.map_toArray, List.map_cons, List.map_nil]); first | done | (rw [show (l0.drop (x3_1 : Int).toNat).length = (l0.length - x3_1.toNat) from List.length_drop] <;> rfl) | rfl | (simp only [List.length_drop, List.length_take]; rfl)) ?_; (with_reducible refine (code_One.calls _ _ (l0.drop (x3_1 : Int).toNat) t157 t158 _ ?sideT ?side1 ?side2 A5.out).mono ?_); (case sideT => first | exact ⟨HTb_.out.below (by repeat (first | (with_reducible first | exact HB.out | apply below_alloc | apply pw_below_drewN | apply below_drew1) | exact HB.out))⟩ | exact ⟨HTb_.out.drawn (by repeat (first | exact Drawn0.refl _ | apply Drawn0.step))⟩ | exact ⟨HTb_.out.below (Drawn0.below (by repeat (first | exact Drawn0.refl _ | apply Drawn0.step)))⟩); (case side1 => repeat (first | exact (Kd.C_below HR156.out HB.out) | (with_reducible refine Kd.C_alloc ?_ _) | (with_reducible refine Kd.C_drewN ?_ _) | (with_reducible refine Kd.C_drew ?_))); (case side2 => exact HC156.out); rintro e w10 ⟨rfl, hb⟩; refine ⟨_, rfl, ?_⟩; have n0_ := Aside0.mk (below_step (by repeat (first | (with_reducible first | exact HB.out | apply below_alloc | apply pw_below_drewN | apply below_drew1) | exact HB.out)) hb); clear HB; have HB := n0_; clear n0_; (try clear hb); (try clear hb2); (try clear hk); (try clear hi)))
              go_roundg k1
              case measure => have := HK1.out; omega
              case rel => exact ⟨(wrap64 (x3_1 + t158)), (by first | rfl | (simp; done) | (simp [*]; done)), H', ⟨by have := HK1.out; omega⟩, ⟨by repeat (first | (with_reducible first | exact HB.out | apply below_alloc | apply pw_below_drewN | apply below_drew1) | exact HB.out)⟩⟩
          · rw [if_neg c4] at H
            exact absurd H (by simp)
        · rw [if_neg c3] at H
          exact absurd H (by simp)
      · rw [if_neg c2] at H
        have c2b0 : decide (x3_1 < (l0.length : Int)) = false := decide_eq_false c2
        clear c2
        obtain rfl := Option.some.inj H
        go_wp2
        go_ret
        exact ⟨by first | rfl | (simp [errW_none, errW_some] <;> rfl) | (simp [*, errW_none, errW_some] <;> rfl), by repeat (first | (with_reducible first | exact HB.out | apply below_alloc | apply pw_below_drewN | apply below_drew1) | exact HB.out)⟩

/-! ### utf8_RuneLen: function 47 -/
def utf8_RuneLen.j0 : Nat → Int → Bool → Option (Int)
  | 0, _, _ => none
  | k + 1, x0, x12 => if x12 = true then (some (-1)) else (if x0 ≤ 65535 then (some 3) else (if x0 ≤ 1114111 then (some 4) else (some (-1))))
def utf8_RuneLen.f (k : Nat) (a0 : Int) : Option (Int) := if a0 < 0 then (some (-1)) else (if a0 ≤ 127 then (some 1) else (if a0 ≤ 2047 then (some 2) else (if 55296 ≤ a0 then (utf8_RuneLen.j0 k a0 (decide (a0 ≤ 57343))) else (utf8_RuneLen.j0 k a0 false))))
theorem utf8_RuneLen.mono_l : ∀ k, (∀ y0 y1, LeO (utf8_RuneLen.j0 k y0 y1) (utf8_RuneLen.j0 (k + 1) y0 y1))
  | 0 => fun _ _ r h => by simp [utf8_RuneLen.j0] at h
  | k + 1 => by
    have ih0 := utf8_RuneLen.mono_l k
    · intro y0 y1
      unfold utf8_RuneLen.j0
      repeat' first
      | (with_reducible exact ih0 _ _)
      | (with_reducible exact LeO.refl _)
      | (with_reducible exact LeO.none _)
      | (with_reducible refine LeO.ite ?_ ?_)
      | (with_reducible refine LeO.bind ?_ (fun _ => ?_))
      | exact ih0 _ _
      | exact LeO.none _
      | refine LeO.ite ?_ ?_
      | refine LeO.bind ?_ (fun _ => ?_)
theorem utf8_RuneLen.mono : ∀ a0 k, LeO (utf8_RuneLen.f k a0) (utf8_RuneLen.f (k + 1) a0) := by
  intro a0 k
  have ih0 := utf8_RuneLen.mono_l k
  unfold utf8_RuneLen.f
  repeat' first
      | (with_reducible exact ih0 _ _)
      | (with_reducible exact LeO.refl _)
      | (with_reducible exact LeO.none _)
      | (with_reducible refine LeO.ite ?_ ?_)
      | (with_reducible refine LeO.bind ?_ (fun _ => ?_))
      | exact ih0 _ _
      | exact LeO.none _
      | refine LeO.ite ?_ ?_
      | refine LeO.bind ?_ (fun _ => ?_)
set_option maxHeartbeats 8000000 in
set_option maxRecDepth 100000 in
theorem utf8_RuneLen.calls (k : Nat) (a0 : Int) (r : Int) (w : World) (h : utf8_RuneLen.f k a0 = some r) :
    Calls Tryd.prog 47 #[.int .i32 a0] w fun e w' => e = .returned (.int .i64 r) ∧ Drawn0 w w' := by
  have H : (if a0 < 0 then (some (-1)) else (if a0 ≤ 127 then (some 1) else (if a0 ≤ 2047 then (some 2) else (if 55296 ≤ a0 then (utf8_RuneLen.j0 k a0 (decide (a0 ≤ 57343))) else (utf8_RuneLen.j0 k a0 false))))) = some r := h
  clear h
  by_cases c2 : a0 < 0
  · rw [if_pos c2] at H
    have c2b0 : decide (a0 < 0) = true := decide_eq_true c2
    clear c2
    obtain rfl := Option.some.inj H
    go_enter Tryd.func47, Tryd.ntmps47
    go_wp2
    go_ret
    exact ⟨by first | rfl | (simp; done) | (simp [*]; done), by repeat (first | exact Drawn0.refl _ | apply Drawn0.step)⟩
  · rw [if_neg c2] at H
    have c2b0 : decide (a0 < 0) = false := decide_eq_false c2
    clear c2
    by_cases c3 : a0 ≤ 127
    · rw [if_pos c3] at H
      have c3b0 : decide (a0 ≤ 127) = true := decide_eq_true c3
      clear c3
      obtain rfl := Option.some.inj H
      go_enter Tryd.func47, Tryd.ntmps47
      go_wp2
      go_ret
      exact ⟨by first | rfl | (simp; done) | (simp [*]; done), by repeat (first | exact Drawn0.refl _ | apply Drawn0.step)⟩
    · rw [if_neg c3] at H
      have c3b0 : decide (a0 ≤ 127) = false := decide_eq_false c3
      clear c3
      by_cases c4 : a0 ≤ 2047
      · rw [if_pos c4] at H
        have c4b0 : decide (a0 ≤ 2047) = true := decide_eq_true c4
        clear c4
        obtain rfl := Option.some.inj H
        go_enter Tryd.func47, Tryd.ntmps47
        go_wp2
        go_ret
        exact ⟨by first | rfl | (simp; done) | (simp [*]; done), by repeat (first | exact Drawn0.refl _ | apply Drawn0.step)⟩
      · rw [if_neg c4] at H
        have c4b0 : decide (a0 ≤ 2047) = false := decide_eq_false c4
        clear c4
        have HC5 := Aside0.mk H
        clear H
        go_enter Tryd.func47, Tryd.ntmps47
        go_upto_region 7 with (fail)
        go_cut [12] (fun v12 wc => ∃ (kq : Nat) (x12_4 : Bool), v12 = .bool x12_4 ∧ Aside0 (utf8_RuneLen.j0 kq a0 x12_4 = some r) ∧ Aside0 (kq ≤ k) ∧ Drawn0 w wc)
        case first =>
          have H := HC5.out
          clear HC5
          by_cases c6 : 55296 ≤ a0
          · rw [if_pos c6] at H
            have c6b0 : decide (55296 ≤ a0) = true := decide_eq_true c6
            clear c6
            (first | rw [c6b0] | (simp only [i64_w, i32_w]; rw [c6b0]) | skip)
            have H' := Aside0.mk H
            clear H
            go_wp2
            go_meet
            case rel => exact ⟨_, (decide (a0 ≤ 57343)), (by first | rfl | (simp; done) | (simp [*]; done)), H', ⟨by first | omega | exact Nat.le_refl _⟩, by repeat (first | exact Drawn0.refl _ | apply Drawn0.step)⟩
          · rw [if_neg c6] at H
            have c6b0 : decide (55296 ≤ a0) = false := decide_eq_false c6
            clear c6
            (first | rw [c6b0] | (simp only [i64_w, i32_w]; rw [c6b0]) | skip)
            have H' := Aside0.mk H
            clear H
            go_wp2
            go_meet
            case rel => exact ⟨_, (false), (by first | rfl | (simp; done) | (simp [*]; done)), H', ⟨by first | omega | exact Nat.le_refl _⟩, by repeat (first | exact Drawn0.refl _ | apply Drawn0.step)⟩
        case rest =>
          clear HC5
          try clear c2
          try clear c2b0
          try clear p2
          try clear c3
          try clear c3b0
          try clear c4
          try clear c4b0
          try clear c6
          try clear c6b0
          obtain ⟨kq, x12_4, rfl, HA, HJ4, ⟨mc4, rfl⟩⟩ := hcut
          cases kq with
          | zero => exact absurd HA.out (by simp [utf8_RuneLen.j0])
          | succ kj4 =>
            have H := HA.out
            clear HA
            simp only [utf8_RuneLen.j0] at H
            by_cases c7 : x12_4 = true
            · subst c7
              have H1 : (some (-1)) = some r := by rw [if_pos rfl] at H; exact H
              clear H
              have H := H1
              clear H1
              obtain rfl := Option.some.inj H
              go_wp2
              go_ret
              exact ⟨by first | rfl | (simp; done) | (simp [*]; done), by repeat (first | exact Drawn0.refl _ | apply Drawn0.step)⟩
            · replace c7 := Bool.eq_false_iff.mpr c7
              subst c7
              have H1 : (if a0 ≤ 65535 then (some 3) else (if a0 ≤ 1114111 then (some 4) else (some (-1)))) = some r := by rw [if_neg (show ¬ (false = true) by decide)] at H; exact H
              clear H
              have H := H1
              clear H1
              by_cases c8 : a0 ≤ 65535
              · rw [if_pos c8] at H
                have c8b0 : decide (a0 ≤ 65535) = true := decide_eq_true c8
                clear c8
                obtain rfl := Option.some.inj H
                go_wp2
                go_ret
                exact ⟨by first | rfl | (simp; done) | (simp [*]; done), by repeat (first | exact Drawn0.refl _ | apply Drawn0.step)⟩
              · rw [if_neg c8] at H
                have c8b0 : decide (a0 ≤ 65535) = false := decide_eq_false c8
                clear c8
                by_cases c9 : a0 ≤ 1114111
                · rw [if_pos c9] at H
                  have c9b0 : decide (a0 ≤ 1114111) = true := decide_eq_true c9
                  clear c9
                  obtain rfl := Option.some.inj H
                  go_wp2
                  go_ret
                  exact ⟨by first | rfl | (simp; done) | (simp [*]; done), by repeat (first | exact Drawn0.refl _ | apply Drawn0.step)⟩
                · rw [if_neg c9] at H
                  have c9b0 : decide (a0 ≤ 1114111) = false := decide_eq_false c9
                  clear c9
                  obtain rfl := Option.some.inj H
                  go_wp2
                  go_ret
                  exact ⟨by first | rfl | (simp; done) | (simp [*]; done), by repeat (first | exact Drawn0.refl _ | apply Drawn0.step)⟩

/-! ### code_Width: function 22 -/
def code_Width.f (k : Nat) (a0 : Int) : Option (Int) := (code_point.f k a0).bind fun bt159 => (if bt159.2 = true then ((utf8_RuneLen.f k bt159.1).bind fun t161 => (some t161)) else (some 0))
theorem code_Width.mono : ∀ a0 k, LeO (code_Width.f k a0) (code_Width.f (k + 1) a0) := by
  intro a0 k
  unfold code_Width.f
  repeat' first
      | (with_reducible exact code_point.mono _ _)
      | (with_reducible exact utf8_RuneLen.mono _ _)
      | (with_reducible exact LeO.refl _)
      | (with_reducible exact LeO.none _)
      | (with_reducible refine LeO.ite ?_ ?_)
      | (with_reducible refine LeO.bind ?_ (fun _ => ?_))
      | exact code_point.mono _ _
      | exact utf8_RuneLen.mono _ _
      | exact LeO.none _
      | refine LeO.ite ?_ ?_
      | refine LeO.bind ?_ (fun _ => ?_)
set_option maxHeartbeats 8000000 in
set_option maxRecDepth 100000 in
theorem code_Width.calls (k : Nat) (a0 : Int) (r : Int) (w : World) (h : code_Width.f k a0 = some r) :
    Calls Tryd.prog 22 #[.int .u32 a0] w fun e w' => e = .returned (.int .i64 r) ∧ Drawn0 w w' := by
  have H : ((code_point.f k a0).bind fun bt159 => (if bt159.2 = true then ((utf8_RuneLen.f k bt159.1).bind fun t161 => (some t161)) else (some 0))) = some r := h
  clear h
  replace H := Option.bind_eq_some_iff.mp H
  obtain ⟨⟨t159, t160⟩, A20, H⟩ := H
  replace H : (if t160 = true then ((utf8_RuneLen.f k t159).bind fun t161 => (some t161)) else (some 0)) = some r := H
  have A2 := Aside0.mk A20
  clear A20
  by_cases c3 : t160 = true
  · subst c3
    have H1 : ((utf8_RuneLen.f k t159).bind fun t161 => (some t161)) = some r := by rw [if_pos rfl] at H; exact H
    clear H
    have H := H1
    clear H1
    replace H := Option.bind_eq_some_iff.mp H
    obtain ⟨t161, A40, H⟩ := H
    replace H : (some t161) = some r := H
    have A4 := Aside0.mk A40
    clear A40
    obtain rfl := Option.some.inj H
    go_enter Tryd.func22, Tryd.ntmps22
    go_wp2_with (first | ((with_reducible refine gate_callee (f := 44) rfl ?_); refine goesL_ (some 7) rfl rfl Tryd.func44 (by kernel_rfl) rfl #[.int .u32 a0] rfl (by (try simp only [List.map_toArray, List.map_cons, List.map_nil]); first | done | rfl | (simp only [List.length_drop, List.length_take]; rfl)) ?_; (with_reducible refine (code_point.calls k a0 t159 true _ A2.out).mono ?_); rintro e w' ⟨rfl, ⟨nd, rfl⟩⟩; refine ⟨_, rfl, ?_⟩) | ((with_reducible refine gate_callee (f := 47) rfl ?_); refine goesL_ (some 13) rfl rfl Tryd.func47 (by kernel_rfl) rfl #[.int .i32 t159] rfl (by (try simp only [List.map_toArray, List.map_cons, List.map_nil]); first | done | rfl | (simp only [List.length_drop, List.length_take]; rfl)) ?_; (with_reducible refine (utf8_RuneLen.calls k t159 t161 _ A4.out).mono ?_); rintro e w' ⟨rfl, ⟨nd, rfl⟩⟩; refine ⟨_, rfl, ?_⟩))
    go_ret
    exact ⟨by first | rfl | (simp; done) | (simp [*]; done), by repeat (first | exact Drawn0.refl _ | apply Drawn0.step)⟩
  · replace c3 := Bool.eq_false_iff.mpr c3
    subst c3
    have H1 : (some 0) = some r := by rw [if_neg (show ¬ (false = true) by decide)] at H; exact H
    clear H
    have H := H1
    clear H1
    obtain rfl := Option.some.inj H
    go_enter Tryd.func22, Tryd.ntmps22
    go_wp2_with (first | ((with_reducible refine gate_callee (f := 44) rfl ?_); refine goesL_ (some 7) rfl rfl Tryd.func44 (by kernel_rfl) rfl #[.int .u32 a0] rfl (by (try simp only [List.map_toArray, List.map_cons, List.map_nil]); first | done | rfl | (simp only [List.length_drop, List.length_take]; rfl)) ?_; (with_reducible refine (code_point.calls k a0 t159 false _ A2.out).mono ?_); rintro e w' ⟨rfl, ⟨nd, rfl⟩⟩; refine ⟨_, rfl, ?_⟩))
    go_ret
    exact ⟨by first | rfl | (simp; done) | (simp [*]; done), by repeat (first | exact Drawn0.refl _ | apply Drawn0.step)⟩

/-! ### gessolaw01_awake: function 21 -/
def gessolaw01_awake.f (k : Nat)  : Option (Bool) := (code_One.f (([195, 169, 65] : List Int))).bind fun bt165 => (if bt165.1 = 233 then (if bt165.2 = 2 then ((code_Fault.f k (([65, 195] : List Int))).bind fun t170 => (if t170 = 1 then ((code_Width.f k 8364).bind fun t171 => (if t171 = 3 then (some true) else (some false))) else (some false))) else (some false)) else (some false))
theorem gessolaw01_awake.mono : ∀ k, LeO (gessolaw01_awake.f k ) (gessolaw01_awake.f (k + 1) ) := by
  intro  k
  unfold gessolaw01_awake.f
  repeat' first
      | (with_reducible exact code_Fault.mono _ _)
      | (with_reducible exact code_Width.mono _ _)
      | (with_reducible exact LeO.refl _)
      | (with_reducible exact LeO.none _)
      | (with_reducible refine LeO.ite ?_ ?_)
      | (with_reducible refine LeO.bind ?_ (fun _ => ?_))
      | exact code_Fault.mono _ _
      | exact code_Width.mono _ _
      | exact LeO.none _
      | refine LeO.ite ?_ ?_
      | refine LeO.bind ?_ (fun _ => ?_)
set_option maxHeartbeats 8000000 in
set_option maxRecDepth 100000 in
theorem gessolaw01_awake.calls (k : Nat)  (r : Bool) (w : World) (HTb_ : Aside0 (Tabs w)) (h : gessolaw01_awake.f k  = some r) :
    Calls Tryd.prog 21 #[] w fun e w' => e = .returned (.bool r) ∧ Below w.heap.size w w' := by
  have HB := Aside0.mk (Below.refl w.heap.size w)
  have H : ((code_One.f (([195, 169, 65] : List Int))).bind fun bt165 => (if bt165.1 = 233 then (if bt165.2 = 2 then ((code_Fault.f k (([65, 195] : List Int))).bind fun t170 => (if t170 = 1 then ((code_Width.f k 8364).bind fun t171 => (if t171 = 3 then (some true) else (some false))) else (some false))) else (some false)) else (some false))) = some r := h
  clear h
  obtain ⟨y162, hy162⟩ : ∃ y_ : List Int, y_ = (([195, 169, 65] : List Int)) := ⟨_, rfl⟩
  replace H : ((code_One.f y162).bind fun bt165 => (if bt165.1 = 233 then (if bt165.2 = 2 then ((code_Fault.f k (([65, 195] : List Int))).bind fun t170 => (if t170 = 1 then ((code_Width.f k 8364).bind fun t171 => (if t171 = 3 then (some true) else (some false))) else (some false))) else (some false)) else (some false))) = some r := by first | (rw [hy162]; with_reducible exact H) | (have H2_ := (Option.bind_some _ _).symm.trans H; rw [hy162]; with_reducible exact H2_) | (have H2_ := (Option.bind_some _ _).symm.trans H; with_reducible exact H2_) | with_reducible exact H | (rw [hy162]; exact H) | exact H
  have Ny162 := Aside0.mk hy162
  clear hy162
  replace H := Option.bind_eq_some_iff.mp H
  obtain ⟨⟨t165, t166⟩, A10, H⟩ := H
  replace H : (if t165 = 233 then (if t166 = 2 then ((code_Fault.f k (([65, 195] : List Int))).bind fun t170 => (if t170 = 1 then ((code_Width.f k 8364).bind fun t171 => (if t171 = 3 then (some true) else (some false))) else (some false))) else (some false)) else (some false)) = some r := H
  have A1 := Aside0.mk A10
  clear A10
  by_cases c2 : t165 = 233
  · rw [if_pos c2] at H
    have c2b0 : (t165 == 233) = true := beq_iff_eq.mpr c2
    have c2b1 : (t165 != 233) = false := bne_eq_false_iff_eq.mpr c2
    clear c2
    by_cases c3 : t166 = 2
    · rw [if_pos c3] at H
      have c3b0 : (t166 == 2) = true := beq_iff_eq.mpr c3
      have c3b1 : (t166 != 2) = false := bne_eq_false_iff_eq.mpr c3
      clear c3
      obtain ⟨y167, hy167⟩ : ∃ y_ : List Int, y_ = (([65, 195] : List Int)) := ⟨_, rfl⟩
      replace H : ((code_Fault.f k y167).bind fun t170 => (if t170 = 1 then ((code_Width.f k 8364).bind fun t171 => (if t171 = 3 then (some true) else (some false))) else (some false))) = some r := by first | (rw [hy167]; with_reducible exact H) | (have H2_ := (Option.bind_some _ _).symm.trans H; rw [hy167]; with_reducible exact H2_) | (have H2_ := (Option.bind_some _ _).symm.trans H; with_reducible exact H2_) | with_reducible exact H | (rw [hy167]; exact H) | exact H
      have Ny167 := Aside0.mk hy167
      clear hy167
      replace H := Option.bind_eq_some_iff.mp H
      obtain ⟨t170, A40, H⟩ := H
      replace H : (if t170 = 1 then ((code_Width.f k 8364).bind fun t171 => (if t171 = 3 then (some true) else (some false))) else (some false)) = some r := H
      have A4 := Aside0.mk A40
      clear A40
      by_cases c5 : t170 = 1
      · rw [if_pos c5] at H
        have c5b0 : (t170 == 1) = true := beq_iff_eq.mpr c5
        have c5b1 : (t170 != 1) = false := bne_eq_false_iff_eq.mpr c5
        clear c5
        replace H := Option.bind_eq_some_iff.mp H
        obtain ⟨t171, A60, H⟩ := H
        replace H : (if t171 = 3 then (some true) else (some false)) = some r := H
        have A6 := Aside0.mk A60
        clear A60
        by_cases c7 : t171 = 3
        · rw [if_pos c7] at H
          have c7b0 : (t171 == 3) = true := beq_iff_eq.mpr c7
          have c7b1 : (t171 != 3) = false := bne_eq_false_iff_eq.mpr c7
          clear c7
          obtain rfl := Option.some.inj H
          go_enter Tryd.func21, Tryd.ntmps21
          go_wp2_with (first | ((with_reducible refine gate_dst (N := 4) rfl ?_); (try (refine gate_guard (by rfl) ?_; dsimp only)); refine Kd.R_lit (Kd.int .u8) _ 5 ?hg (N := 4) ?hd (xs := ([195, 169, 65] : List Int)) (inner := [.int .u8 195, .int .u8 169, .int .u8 65]) (ok := fun _ => True) (okp := fun _ => True) ?hr ?hp (fun _ hk => hk) trivial (Below.refl _ _) (Nat.le_refl _) (by simp) ?_; (case hd => rfl); (case hg => rfl); (case hr => first | (go_simp; done) | (go_simp; rfl)); (case hp => exact (Reps.one (show Kd.M (Kd.int .u8) _ _ _ 195 [.int .u8 195] from rfl) (Reps.one (show Kd.M (Kd.int .u8) _ _ _ 169 [.int .u8 169] from rfl) (Reps.one (show Kd.M (Kd.int .u8) _ _ _ 65 [.int .u8 65] from rfl) (Reps.none _ _))))); intro v163 w8 ho9 hb hg_ hnew_; clear hg_ hnew_; (first | rw [← Ny162.out] at ho9 | (simp only [Int.reduceToNat] at ho9; rw [← Ny162.out] at ho9)); have n0_ := Aside0.mk (Kd.R_lower ho9 (below_size (by repeat (first | (with_reducible first | exact HB.out | apply below_alloc | apply pw_below_drewN | apply below_drew1) | exact HB.out)))); have n1_ := Aside0.mk (below_step (by repeat (first | (with_reducible first | exact HB.out | apply below_alloc | apply pw_below_drewN | apply below_drew1) | exact HB.out)) hb); clear HB; have HO164 := n0_; have HB := n1_; clear n0_ n1_; clear hb ho9; obtain ⟨Ao10, co10, eo10⟩ := Kd.R_slice HO164.out; subst eo10) | ((with_reducible refine gate_callee (f := 23) rfl ?_); refine goesL_ (some 5) rfl rfl Tryd.func23 (by kernel_rfl) rfl #[.slice Ao10 y162.length co10] rfl (by (try simp only [List.map_toArray, List.map_cons, List.map_nil]); first | done | rfl | (simp only [List.length_drop, List.length_take]; rfl)) ?_; (with_reducible refine (code_One.calls _ _ y162 t165 t166 _ ?sideT ?side1 ?side2 A1.out).mono ?_); (case sideT => first | exact ⟨HTb_.out.below (by repeat (first | (with_reducible first | exact HB.out | apply below_alloc | apply pw_below_drewN | apply below_drew1) | exact HB.out))⟩ | exact ⟨HTb_.out.drawn (by repeat (first | exact Drawn0.refl _ | apply Drawn0.step))⟩ | exact ⟨HTb_.out.below (Drawn0.below (by repeat (first | exact Drawn0.refl _ | apply Drawn0.step)))⟩); (case side1 => repeat (first | exact (Kd.R_reads' HO164.out).2.2 | (with_reducible refine Kd.C_alloc ?_ _) | (with_reducible refine Kd.C_drewN ?_ _) | (with_reducible refine Kd.C_drew ?_))); (case side2 => exact (Kd.R_reads' HO164.out).2.1); rintro e w11 ⟨rfl, hb⟩; refine ⟨_, rfl, ?_⟩; have n0_ := Aside0.mk (Kd.R_below (by (with_reducible repeat (first | apply Kd.R_alloc | apply Kd.R_drewN | apply Kd.R_drew)); exact HO164.out) hb); have n1_ := Aside0.mk (below_step (by repeat (first | (with_reducible first | exact HB.out | apply below_alloc | apply pw_below_drewN | apply below_drew1) | exact HB.out)) hb); clear HO164; clear HB; have HO164 := n0_; have HB := n1_; clear n0_ n1_; (try clear hb); (try clear hb2); (try clear hk); (try clear hi)) | ((with_reducible refine gate_dst (N := 15) rfl ?_); (try (refine gate_guard (by rfl) ?_; dsimp only)); refine Kd.R_lit (Kd.int .u8) _ 5 ?hg (N := 15) ?hd (xs := ([65, 195] : List Int)) (inner := [.int .u8 65, .int .u8 195]) (ok := fun _ => True) (okp := fun _ => True) ?hr ?hp (fun _ hk => hk) trivial (Below.refl _ _) (Nat.le_refl _) (by simp) ?_; (case hd => rfl); (case hg => rfl); (case hr => first | (go_simp; done) | (go_simp; rfl)); (case hp => exact (Reps.one (show Kd.M (Kd.int .u8) _ _ _ 65 [.int .u8 65] from rfl) (Reps.one (show Kd.M (Kd.int .u8) _ _ _ 195 [.int .u8 195] from rfl) (Reps.none _ _)))); intro v168 w12 ho13 hb hg_ hnew_; clear hg_ hnew_; (first | rw [← Ny167.out] at ho13 | (simp only [Int.reduceToNat] at ho13; rw [← Ny167.out] at ho13)); have n0_ := Aside0.mk (Kd.R_elder' (by (with_reducible repeat (first | apply Kd.R_alloc | apply Kd.R_drewN | apply Kd.R_drew)); exact HO164.out) (Kd.R_base ho13) hb); have n1_ := Aside0.mk (Kd.R_lower (Kd.R_new' ho13 (Kd.R_lt (by (with_reducible repeat (first | apply Kd.R_alloc | apply Kd.R_drewN | apply Kd.R_drew)); exact HO164.out))) (below_size (by repeat (first | (with_reducible first | exact HB.out | apply below_alloc | apply pw_below_drewN | apply below_drew1) | exact HB.out)))); have n2_ := Aside0.mk (below_step (by repeat (first | (with_reducible first | exact HB.out | apply below_alloc | apply pw_below_drewN | apply below_drew1) | exact HB.out)) hb); clear HO164; clear HB; have HO164 := n0_; have HO169 := n1_; have HB := n2_; clear n0_ n1_ n2_; clear hb ho13; obtain ⟨Ao14, co14, eo14⟩ := Kd.R_slice HO169.out; subst eo14) | (go_at_call 20; (with_reducible refine (code_Fault.calls k _ _ y167 t170 _ ?sideT ?side1 ?side2 A4.out).mono ?_); (case sideT => first | exact ⟨HTb_.out.below (by repeat (first | (with_reducible first | exact HB.out | apply below_alloc | apply pw_below_drewN | apply below_drew1) | exact HB.out))⟩ | exact ⟨HTb_.out.drawn (by repeat (first | exact Drawn0.refl _ | apply Drawn0.step))⟩ | exact ⟨HTb_.out.below (Drawn0.below (by repeat (first | exact Drawn0.refl _ | apply Drawn0.step)))⟩); (case side1 => repeat (first | exact (Kd.R_reads' HO169.out).2.2 | (with_reducible refine Kd.C_alloc ?_ _) | (with_reducible refine Kd.C_drewN ?_ _) | (with_reducible refine Kd.C_drew ?_))); (case side2 => exact (Kd.R_reads' HO169.out).2.1); rintro e w15 ⟨rfl, hb⟩; have n0_ := Aside0.mk (Kd.R_below (by (with_reducible repeat (first | apply Kd.R_alloc | apply Kd.R_drewN | apply Kd.R_drew)); exact HO164.out) hb); have n1_ := Aside0.mk (Kd.R_below (by (with_reducible repeat (first | apply Kd.R_alloc | apply Kd.R_drewN | apply Kd.R_drew)); exact HO169.out) hb); have n2_ := Aside0.mk (below_step (by repeat (first | (with_reducible first | exact HB.out | apply below_alloc | apply pw_below_drewN | apply below_drew1) | exact HB.out)) hb); clear HO164; clear HO169; clear HB; have HO164 := n0_; have HO169 := n1_; have HB := n2_; clear n0_ n1_ n2_; (try clear hb); (try clear hb2); (try clear hk); (try clear hi)) | (go_at_call 22; (with_reducible refine (code_Width.calls k 8364 t171 _ A6.out).mono ?_); rintro e w' ⟨rfl, ⟨nd, rfl⟩⟩))
          go_ret
          exact ⟨by first | rfl | (simp [errW_none, errW_some] <;> rfl) | (simp [*, errW_none, errW_some] <;> rfl), by repeat (first | (with_reducible first | exact HB.out | apply below_alloc | apply pw_below_drewN | apply below_drew1) | exact HB.out)⟩
        · rw [if_neg c7] at H
          have c7b0 : (t171 == 3) = false := beq_eq_false_iff_ne.mpr c7
          have c7b1 : (t171 != 3) = true := bne_iff_ne.mpr c7
          obtain rfl := Option.some.inj H
          go_enter Tryd.func21, Tryd.ntmps21
          go_wp2_with (first | ((with_reducible refine gate_dst (N := 4) rfl ?_); (try (refine gate_guard (by rfl) ?_; dsimp only)); refine Kd.R_lit (Kd.int .u8) _ 5 ?hg (N := 4) ?hd (xs := ([195, 169, 65] : List Int)) (inner := [.int .u8 195, .int .u8 169, .int .u8 65]) (ok := fun _ => True) (okp := fun _ => True) ?hr ?hp (fun _ hk => hk) trivial (Below.refl _ _) (Nat.le_refl _) (by simp) ?_; (case hd => rfl); (case hg => rfl); (case hr => first | (go_simp; done) | (go_simp; rfl)); (case hp => exact (Reps.one (show Kd.M (Kd.int .u8) _ _ _ 195 [.int .u8 195] from rfl) (Reps.one (show Kd.M (Kd.int .u8) _ _ _ 169 [.int .u8 169] from rfl) (Reps.one (show Kd.M (Kd.int .u8) _ _ _ 65 [.int .u8 65] from rfl) (Reps.none _ _))))); intro v163 w16 ho17 hb hg_ hnew_; clear hg_ hnew_; (first | rw [← Ny162.out] at ho17 | (simp only [Int.reduceToNat] at ho17; rw [← Ny162.out] at ho17)); have n0_ := Aside0.mk (Kd.R_lower ho17 (below_size (by repeat (first | (with_reducible first | exact HB.out | apply below_alloc | apply pw_below_drewN | apply below_drew1) | exact HB.out)))); have n1_ := Aside0.mk (below_step (by repeat (first | (with_reducible first | exact HB.out | apply below_alloc | apply pw_below_drewN | apply below_drew1) | exact HB.out)) hb); clear HB; have HO164 := n0_; have HB := n1_; clear n0_ n1_; clear hb ho17; obtain ⟨Ao18, co18, eo18⟩ := Kd.R_slice HO164.out; subst eo18) | ((with_reducible refine gate_callee (f := 23) rfl ?_); refine goesL_ (some 5) rfl rfl Tryd.func23 (by kernel_rfl) rfl #[.slice Ao18 y162.length co18] rfl (by (try simp only [List.map_toArray, List.map_cons, List.map_nil]); first | done | rfl | (simp only [List.length_drop, List.length_take]; rfl)) ?_; (with_reducible refine (code_One.calls _ _ y162 t165 t166 _ ?sideT ?side1 ?side2 A1.out).mono ?_); (case sideT => first | exact ⟨HTb_.out.below (by repeat (first | (with_reducible first | exact HB.out | apply below_alloc | apply pw_below_drewN | apply below_drew1) | exact HB.out))⟩ | exact ⟨HTb_.out.drawn (by repeat (first | exact Drawn0.refl _ | apply Drawn0.step))⟩ | exact ⟨HTb_.out.below (Drawn0.below (by repeat (first | exact Drawn0.refl _ | apply Drawn0.step)))⟩); (case side1 => repeat (first | exact (Kd.R_reads' HO164.out).2.2 | (with_reducible refine Kd.C_alloc ?_ _) | (with_reducible refine Kd.C_drewN ?_ _) | (with_reducible refine Kd.C_drew ?_))); (case side2 => exact (Kd.R_reads' HO164.out).2.1); rintro e w19 ⟨rfl, hb⟩; refine ⟨_, rfl, ?_⟩; have n0_ := Aside0.mk (Kd.R_below (by (with_reducible repeat (first | apply Kd.R_alloc | apply Kd.R_drewN | apply Kd.R_drew)); exact HO164.out) hb); have n1_ := Aside0.mk (below_step (by repeat (first | (with_reducible first | exact HB.out | apply below_alloc | apply pw_below_drewN | apply below_drew1) | exact HB.out)) hb); clear HO164; clear HB; have HO164 := n0_; have HB := n1_; clear n0_ n1_; (try clear hb); (try clear hb2); (try clear hk); (try clear hi)) | ((with_reducible refine gate_dst (N := 15) rfl ?_); (try (refine gate_guard (by rfl) ?_; dsimp only)); refine Kd.R_lit (Kd.int .u8) _ 5 ?hg (N := 15) ?hd (xs := ([65, 195] : List Int)) (inner := [.int .u8 65, .int .u8 195]) (ok := fun _ => True) (okp := fun _ => True) ?hr ?hp (fun _ hk => hk) trivial (Below.refl _ _) (Nat.le_refl _) (by simp) ?_; (case hd => rfl); (case hg => rfl); (case hr => first | (go_simp; done) | (go_simp; rfl)); (case hp => exact (Reps.one (show Kd.M (Kd.int .u8) _ _ _ 65 [.int .u8 65] from rfl) (Reps.one (show Kd.M (Kd.int .u8) _ _ _ 195 [.int .u8 195] from rfl) (Reps.none _ _)))); intro v168 w20 ho21 hb hg_ hnew_; clear hg_ hnew_; (first | rw [← Ny167.out] at ho21 | (simp only [Int.reduceToNat] at ho21; rw [← Ny167.out] at ho21)); have n0_ := Aside0.mk (Kd.R_elder' (by (with_reducible repeat (first | apply Kd.R_alloc | apply Kd.R_drewN | apply Kd.R_drew)); exact HO164.out) (Kd.R_base ho21) hb); have n1_ := Aside0.mk (Kd.R_lower (Kd.R_new' ho21 (Kd.R_lt (by (with_reducible repeat (first | apply Kd.R_alloc | apply Kd.R_drewN | apply Kd.R_drew)); exact HO164.out))) (below_size (by repeat (first | (with_reducible first | exact HB.out | apply below_alloc | apply pw_below_drewN | apply below_drew1) | exact HB.out)))); have n2_ := Aside0.mk (below_step (by repeat (first | (with_reducible first | exact HB.out | apply below_alloc | apply pw_below_drewN | apply below_drew1) | exact HB.out)) hb); clear HO164; clear HB; have HO164 := n0_; have HO169 := n1_; have HB := n2_; clear n0_ n1_ n2_; clear hb ho21; obtain ⟨Ao22, co22, eo22⟩ := Kd.R_slice HO169.out; subst eo22) | (go_at_call 20; (with_reducible refine (code_Fault.calls k _ _ y167 t170 _ ?sideT ?side1 ?side2 A4.out).mono ?_); (case sideT => first | exact ⟨HTb_.out.below (by repeat (first | (with_reducible first | exact HB.out | apply below_alloc | apply pw_below_drewN | apply below_drew1) | exact HB.out))⟩ | exact ⟨HTb_.out.drawn (by repeat (first | exact Drawn0.refl _ | apply Drawn0.step))⟩ | exact ⟨HTb_.out.below (Drawn0.below (by repeat (first | exact Drawn0.refl _ | apply Drawn0.step)))⟩); (case side1 => repeat (first | exact (Kd.R_reads' HO169.out).2.2 | (with_reducible refine Kd.C_alloc ?_ _) | (with_reducible refine Kd.C_drewN ?_ _) | (with_reducible refine Kd.C_drew ?_))); (case side2 => exact (Kd.R_reads' HO169.out).2.1); rintro e w23 ⟨rfl, hb⟩; have n0_ := Aside0.mk (Kd.R_below (by (with_reducible repeat (first | apply Kd.R_alloc | apply Kd.R_drewN | apply Kd.R_drew)); exact HO164.out) hb); have n1_ := Aside0.mk (Kd.R_below (by (with_reducible repeat (first | apply Kd.R_alloc | apply Kd.R_drewN | apply Kd.R_drew)); exact HO169.out) hb); have n2_ := Aside0.mk (below_step (by repeat (first | (with_reducible first | exact HB.out | apply below_alloc | apply pw_below_drewN | apply below_drew1) | exact HB.out)) hb); clear HO164; clear HO169; clear HB; have HO164 := n0_; have HO169 := n1_; have HB := n2_; clear n0_ n1_ n2_; (try clear hb); (try clear hb2); (try clear hk); (try clear hi)) | (go_at_call 22; (with_reducible refine (code_Width.calls k 8364 t171 _ A6.out).mono ?_); rintro e w' ⟨rfl, ⟨nd, rfl⟩⟩))
          go_ret
          exact ⟨by first | rfl | (simp [errW_none, errW_some] <;> rfl) | (simp [*, errW_none, errW_some] <;> rfl), by repeat (first | (with_reducible first | exact HB.out | apply below_alloc | apply pw_below_drewN | apply below_drew1) | exact HB.out)⟩
      · rw [if_neg c5] at H
        have c5b0 : (t170 == 1) = false := beq_eq_false_iff_ne.mpr c5
        have c5b1 : (t170 != 1) = true := bne_iff_ne.mpr c5
        obtain rfl := Option.some.inj H
        go_enter Tryd.func21, Tryd.ntmps21
        go_wp2_with (first | ((with_reducible refine gate_dst (N := 4) rfl ?_); (try (refine gate_guard (by rfl) ?_; dsimp only)); refine Kd.R_lit (Kd.int .u8) _ 5 ?hg (N := 4) ?hd (xs := ([195, 169, 65] : List Int)) (inner := [.int .u8 195, .int .u8 169, .int .u8 65]) (ok := fun _ => True) (okp := fun _ => True) ?hr ?hp (fun _ hk => hk) trivial (Below.refl _ _) (Nat.le_refl _) (by simp) ?_; (case hd => rfl); (case hg => rfl); (case hr => first | (go_simp; done) | (go_simp; rfl)); (case hp => exact (Reps.one (show Kd.M (Kd.int .u8) _ _ _ 195 [.int .u8 195] from rfl) (Reps.one (show Kd.M (Kd.int .u8) _ _ _ 169 [.int .u8 169] from rfl) (Reps.one (show Kd.M (Kd.int .u8) _ _ _ 65 [.int .u8 65] from rfl) (Reps.none _ _))))); intro v163 w24 ho25 hb hg_ hnew_; clear hg_ hnew_; (first | rw [← Ny162.out] at ho25 | (simp only [Int.reduceToNat] at ho25; rw [← Ny162.out] at ho25)); have n0_ := Aside0.mk (Kd.R_lower ho25 (below_size (by repeat (first | (with_reducible first | exact HB.out | apply below_alloc | apply pw_below_drewN | apply below_drew1) | exact HB.out)))); have n1_ := Aside0.mk (below_step (by repeat (first | (with_reducible first | exact HB.out | apply below_alloc | apply pw_below_drewN | apply below_drew1) | exact HB.out)) hb); clear HB; have HO164 := n0_; have HB := n1_; clear n0_ n1_; clear hb ho25; obtain ⟨Ao26, co26, eo26⟩ := Kd.R_slice HO164.out; subst eo26) | ((with_reducible refine gate_callee (f := 23) rfl ?_); refine goesL_ (some 5) rfl rfl Tryd.func23 (by kernel_rfl) rfl #[.slice Ao26 y162.length co26] rfl (by (try simp only [List.map_toArray, List.map_cons, List.map_nil]); first | done | rfl | (simp only [List.length_drop, List.length_take]; rfl)) ?_; (with_reducible refine (code_One.calls _ _ y162 t165 t166 _ ?sideT ?side1 ?side2 A1.out).mono ?_); (case sideT => first | exact ⟨HTb_.out.below (by repeat (first | (with_reducible first | exact HB.out | apply below_alloc | apply pw_below_drewN | apply below_drew1) | exact HB.out))⟩ | exact ⟨HTb_.out.drawn (by repeat (first | exact Drawn0.refl _ | apply Drawn0.step))⟩ | exact ⟨HTb_.out.below (Drawn0.below (by repeat (first | exact Drawn0.refl _ | apply Drawn0.step)))⟩); (case side1 => repeat (first | exact (Kd.R_reads' HO164.out).2.2 | (with_reducible refine Kd.C_alloc ?_ _) | (with_reducible refine Kd.C_drewN ?_ _) | (with_reducible refine Kd.C_drew ?_))); (case side2 => exact (Kd.R_reads' HO164.out).2.1); rintro e w27 ⟨rfl, hb⟩; refine ⟨_, rfl, ?_⟩; have n0_ := Aside0.mk (Kd.R_below (by (with_reducible repeat (first | apply Kd.R_alloc | apply Kd.R_drewN | apply Kd.R_drew)); exact HO164.out) hb); have n1_ := Aside0.mk (below_step (by repeat (first | (with_reducible first | exact HB.out | apply below_alloc | apply pw_below_drewN | apply below_drew1) | exact HB.out)) hb); clear HO164; clear HB; have HO164 := n0_; have HB := n1_; clear n0_ n1_; (try clear hb); (try clear hb2); (try clear hk); (try clear hi)) | ((with_reducible refine gate_dst (N := 15) rfl ?_); (try (refine gate_guard (by rfl) ?_; dsimp only)); refine Kd.R_lit (Kd.int .u8) _ 5 ?hg (N := 15) ?hd (xs := ([65, 195] : List Int)) (inner := [.int .u8 65, .int .u8 195]) (ok := fun _ => True) (okp := fun _ => True) ?hr ?hp (fun _ hk => hk) trivial (Below.refl _ _) (Nat.le_refl _) (by simp) ?_; (case hd => rfl); (case hg => rfl); (case hr => first | (go_simp; done) | (go_simp; rfl)); (case hp => exact (Reps.one (show Kd.M (Kd.int .u8) _ _ _ 65 [.int .u8 65] from rfl) (Reps.one (show Kd.M (Kd.int .u8) _ _ _ 195 [.int .u8 195] from rfl) (Reps.none _ _)))); intro v168 w28 ho29 hb hg_ hnew_; clear hg_ hnew_; (first | rw [← Ny167.out] at ho29 | (simp only [Int.reduceToNat] at ho29; rw [← Ny167.out] at ho29)); have n0_ := Aside0.mk (Kd.R_elder' (by (with_reducible repeat (first | apply Kd.R_alloc | apply Kd.R_drewN | apply Kd.R_drew)); exact HO164.out) (Kd.R_base ho29) hb); have n1_ := Aside0.mk (Kd.R_lower (Kd.R_new' ho29 (Kd.R_lt (by (with_reducible repeat (first | apply Kd.R_alloc | apply Kd.R_drewN | apply Kd.R_drew)); exact HO164.out))) (below_size (by repeat (first | (with_reducible first | exact HB.out | apply below_alloc | apply pw_below_drewN | apply below_drew1) | exact HB.out)))); have n2_ := Aside0.mk (below_step (by repeat (first | (with_reducible first | exact HB.out | apply below_alloc | apply pw_below_drewN | apply below_drew1) | exact HB.out)) hb); clear HO164; clear HB; have HO164 := n0_; have HO169 := n1_; have HB := n2_; clear n0_ n1_ n2_; clear hb ho29; obtain ⟨Ao30, co30, eo30⟩ := Kd.R_slice HO169.out; subst eo30) | (go_at_call 20; (with_reducible refine (code_Fault.calls k _ _ y167 t170 _ ?sideT ?side1 ?side2 A4.out).mono ?_); (case sideT => first | exact ⟨HTb_.out.below (by repeat (first | (with_reducible first | exact HB.out | apply below_alloc | apply pw_below_drewN | apply below_drew1) | exact HB.out))⟩ | exact ⟨HTb_.out.drawn (by repeat (first | exact Drawn0.refl _ | apply Drawn0.step))⟩ | exact ⟨HTb_.out.below (Drawn0.below (by repeat (first | exact Drawn0.refl _ | apply Drawn0.step)))⟩); (case side1 => repeat (first | exact (Kd.R_reads' HO169.out).2.2 | (with_reducible refine Kd.C_alloc ?_ _) | (with_reducible refine Kd.C_drewN ?_ _) | (with_reducible refine Kd.C_drew ?_))); (case side2 => exact (Kd.R_reads' HO169.out).2.1); rintro e w31 ⟨rfl, hb⟩; have n0_ := Aside0.mk (Kd.R_below (by (with_reducible repeat (first | apply Kd.R_alloc | apply Kd.R_drewN | apply Kd.R_drew)); exact HO164.out) hb); have n1_ := Aside0.mk (Kd.R_below (by (with_reducible repeat (first | apply Kd.R_alloc | apply Kd.R_drewN | apply Kd.R_drew)); exact HO169.out) hb); have n2_ := Aside0.mk (below_step (by repeat (first | (with_reducible first | exact HB.out | apply below_alloc | apply pw_below_drewN | apply below_drew1) | exact HB.out)) hb); clear HO164; clear HO169; clear HB; have HO164 := n0_; have HO169 := n1_; have HB := n2_; clear n0_ n1_ n2_; (try clear hb); (try clear hb2); (try clear hk); (try clear hi)))
        go_ret
        exact ⟨by first | rfl | (simp [errW_none, errW_some] <;> rfl) | (simp [*, errW_none, errW_some] <;> rfl), by repeat (first | (with_reducible first | exact HB.out | apply below_alloc | apply pw_below_drewN | apply below_drew1) | exact HB.out)⟩
    · rw [if_neg c3] at H
      have c3b0 : (t166 == 2) = false := beq_eq_false_iff_ne.mpr c3
      have c3b1 : (t166 != 2) = true := bne_iff_ne.mpr c3
      obtain rfl := Option.some.inj H
      go_enter Tryd.func21, Tryd.ntmps21
      go_wp2_with (first | ((with_reducible refine gate_dst (N := 4) rfl ?_); (try (refine gate_guard (by rfl) ?_; dsimp only)); refine Kd.R_lit (Kd.int .u8) _ 5 ?hg (N := 4) ?hd (xs := ([195, 169, 65] : List Int)) (inner := [.int .u8 195, .int .u8 169, .int .u8 65]) (ok := fun _ => True) (okp := fun _ => True) ?hr ?hp (fun _ hk => hk) trivial (Below.refl _ _) (Nat.le_refl _) (by simp) ?_; (case hd => rfl); (case hg => rfl); (case hr => first | (go_simp; done) | (go_simp; rfl)); (case hp => exact (Reps.one (show Kd.M (Kd.int .u8) _ _ _ 195 [.int .u8 195] from rfl) (Reps.one (show Kd.M (Kd.int .u8) _ _ _ 169 [.int .u8 169] from rfl) (Reps.one (show Kd.M (Kd.int .u8) _ _ _ 65 [.int .u8 65] from rfl) (Reps.none _ _))))); intro v163 w32 ho33 hb hg_ hnew_; clear hg_ hnew_; (first | rw [← Ny162.out] at ho33 | (simp only [Int.reduceToNat] at ho33; rw [← Ny162.out] at ho33)); have n0_ := Aside0.mk (Kd.R_lower ho33 (below_size (by repeat (first | (with_reducible first | exact HB.out | apply below_alloc | apply pw_below_drewN | apply below_drew1) | exact HB.out)))); have n1_ := Aside0.mk (below_step (by repeat (first | (with_reducible first | exact HB.out | apply below_alloc | apply pw_below_drewN | apply below_drew1) | exact HB.out)) hb); clear HB; have HO164 := n0_; have HB := n1_; clear n0_ n1_; clear hb ho33; obtain ⟨Ao34, co34, eo34⟩ := Kd.R_slice HO164.out; subst eo34) | ((with_reducible refine gate_callee (f := 23) rfl ?_); refine goesL_ (some 5) rfl rfl Tryd.func23 (by kernel_rfl) rfl #[.slice Ao34 y162.length co34] rfl (by (try simp only [List.map_toArray, List.map_cons, List.map_nil]); first | done | rfl | (simp only [List.length_drop, List.length_take]; rfl)) ?_; (with_reducible refine (code_One.calls _ _ y162 t165 t166 _ ?sideT ?side1 ?side2 A1.out).mono ?_); (case sideT => first | exact ⟨HTb_.out.below (by repeat (first | (with_reducible first | exact HB.out | apply below_alloc | apply pw_below_drewN | apply below_drew1) | exact HB.out))⟩ | exact ⟨HTb_.out.drawn (by repeat (first | exact Drawn0.refl _ | apply Drawn0.step))⟩ | exact ⟨HTb_.out.below (Drawn0.below (by repeat (first | exact Drawn0.refl _ | apply Drawn0.step)))⟩); (case side1 => repeat (first | exact (Kd.R_reads' HO164.out).2.2 | (with_reducible refine Kd.C_alloc ?_ _) | (with_reducible refine Kd.C_drewN ?_ _) | (with_reducible refine Kd.C_drew ?_))); (case side2 => exact (Kd.R_reads' HO164.out).2.1); rintro e w35 ⟨rfl, hb⟩; refine ⟨_, rfl, ?_⟩; have n0_ := Aside0.mk (Kd.R_below (by (with_reducible repeat (first | apply Kd.R_alloc | apply Kd.R_drewN | apply Kd.R_drew)); exact HO164.out) hb); have n1_ := Aside0.mk (below_step (by repeat (first | (with_reducible first | exact HB.out | apply below_alloc | apply pw_below_drewN | apply below_drew1) | exact HB.out)) hb); clear HO164; clear HB; have HO164 := n0_; have HB := n1_; clear n0_ n1_; (try clear hb); (try clear hb2); (try clear hk); (try clear hi)))
      go_ret
      exact ⟨by first | rfl | (simp [errW_none, errW_some] <;> rfl) | (simp [*, errW_none, errW_some] <;> rfl), by repeat (first | (with_reducible first | exact HB.out | apply below_alloc | apply pw_below_drewN | apply below_drew1) | exact HB.out)⟩
  · rw [if_neg c2] at H
    have c2b0 : (t165 == 233) = false := beq_eq_false_iff_ne.mpr c2
    have c2b1 : (t165 != 233) = true := bne_iff_ne.mpr c2
    obtain rfl := Option.some.inj H
    go_enter Tryd.func21, Tryd.ntmps21
    go_wp2_with (first | ((with_reducible refine gate_dst (N := 4) rfl ?_); (try (refine gate_guard (by rfl) ?_; dsimp only)); refine Kd.R_lit (Kd.int .u8) _ 5 ?hg (N := 4) ?hd (xs := ([195, 169, 65] : List Int)) (inner := [.int .u8 195, .int .u8 169, .int .u8 65]) (ok := fun _ => True) (okp := fun _ => True) ?hr ?hp (fun _ hk => hk) trivial (Below.refl _ _) (Nat.le_refl _) (by simp) ?_; (case hd => rfl); (case hg => rfl); (case hr => first | (go_simp; done) | (go_simp; rfl)); (case hp => exact (Reps.one (show Kd.M (Kd.int .u8) _ _ _ 195 [.int .u8 195] from rfl) (Reps.one (show Kd.M (Kd.int .u8) _ _ _ 169 [.int .u8 169] from rfl) (Reps.one (show Kd.M (Kd.int .u8) _ _ _ 65 [.int .u8 65] from rfl) (Reps.none _ _))))); intro v163 w36 ho37 hb hg_ hnew_; clear hg_ hnew_; (first | rw [← Ny162.out] at ho37 | (simp only [Int.reduceToNat] at ho37; rw [← Ny162.out] at ho37)); have n0_ := Aside0.mk (Kd.R_lower ho37 (below_size (by repeat (first | (with_reducible first | exact HB.out | apply below_alloc | apply pw_below_drewN | apply below_drew1) | exact HB.out)))); have n1_ := Aside0.mk (below_step (by repeat (first | (with_reducible first | exact HB.out | apply below_alloc | apply pw_below_drewN | apply below_drew1) | exact HB.out)) hb); clear HB; have HO164 := n0_; have HB := n1_; clear n0_ n1_; clear hb ho37; obtain ⟨Ao38, co38, eo38⟩ := Kd.R_slice HO164.out; subst eo38) | ((with_reducible refine gate_callee (f := 23) rfl ?_); refine goesL_ (some 5) rfl rfl Tryd.func23 (by kernel_rfl) rfl #[.slice Ao38 y162.length co38] rfl (by (try simp only [List.map_toArray, List.map_cons, List.map_nil]); first | done | rfl | (simp only [List.length_drop, List.length_take]; rfl)) ?_; (with_reducible refine (code_One.calls _ _ y162 t165 t166 _ ?sideT ?side1 ?side2 A1.out).mono ?_); (case sideT => first | exact ⟨HTb_.out.below (by repeat (first | (with_reducible first | exact HB.out | apply below_alloc | apply pw_below_drewN | apply below_drew1) | exact HB.out))⟩ | exact ⟨HTb_.out.drawn (by repeat (first | exact Drawn0.refl _ | apply Drawn0.step))⟩ | exact ⟨HTb_.out.below (Drawn0.below (by repeat (first | exact Drawn0.refl _ | apply Drawn0.step)))⟩); (case side1 => repeat (first | exact (Kd.R_reads' HO164.out).2.2 | (with_reducible refine Kd.C_alloc ?_ _) | (with_reducible refine Kd.C_drewN ?_ _) | (with_reducible refine Kd.C_drew ?_))); (case side2 => exact (Kd.R_reads' HO164.out).2.1); rintro e w39 ⟨rfl, hb⟩; refine ⟨_, rfl, ?_⟩; have n0_ := Aside0.mk (Kd.R_below (by (with_reducible repeat (first | apply Kd.R_alloc | apply Kd.R_drewN | apply Kd.R_drew)); exact HO164.out) hb); have n1_ := Aside0.mk (below_step (by repeat (first | (with_reducible first | exact HB.out | apply below_alloc | apply pw_below_drewN | apply below_drew1) | exact HB.out)) hb); clear HO164; clear HB; have HO164 := n0_; have HB := n1_; clear n0_ n1_; (try clear hb); (try clear hb2); (try clear hk); (try clear hi)))
    go_ret
    exact ⟨by first | rfl | (simp [errW_none, errW_some] <;> rfl) | (simp [*, errW_none, errW_some] <;> rfl), by repeat (first | (with_reducible first | exact HB.out | apply below_alloc | apply pw_below_drewN | apply below_drew1) | exact HB.out)⟩

end Go.Proofs.YtjlhehaagaaihaaDoor.P
