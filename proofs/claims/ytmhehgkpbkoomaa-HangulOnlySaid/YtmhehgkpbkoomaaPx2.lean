/- Functions of the translated program as plain Lean functions, and proofs that their calls come to these. Written by a program of the session. No condition. -/
import Derived.Test.YtmhehgkpbkoomaaPx0
namespace Go.Proofs.Ytmhehgkpbkoomaa.P
open Go.RowKit Go.Proofs.YtmhehgkpbkoomaaW.PrintWords Go.Proofs.YtmhehgkpbkoomaaW.PrintLast Go.Proofs.YtmhehgkpbkoomaaW.PrintMore
attribute [local go_sem] max2_int min2_int max_two min_two max_three min_three max_four min_four   -- for this text's walks alone
set_option linter.unusedVariables false
set_option linter.unusedSimpArgs false

/-! ### gessoref04_isL: function 22 -/
def gessoref04_isL.f (a0 : Int) : Option (Bool) := if a0 ≥ 4352 then (some (decide (a0 < 4371))) else (some false)
set_option maxHeartbeats 8000000 in
set_option maxRecDepth 100000 in
theorem gessoref04_isL.calls (a0 : Int) (r : Bool) (w : World) (h : gessoref04_isL.f a0 = some r) :
    Calls Try.prog 22 #[.int .u32 a0] w fun e w' => e = .returned (.bool r) ∧ Drawn0 w w' := by
  have H : (if a0 ≥ 4352 then (some (decide (a0 < 4371))) else (some false)) = some r := h
  clear h
  by_cases c2 : a0 ≥ 4352
  · rw [if_pos c2] at H
    have c2b0 : decide (4352 ≤ a0) = true := decide_eq_true c2
    clear c2
    obtain rfl := Option.some.inj H
    go_enter Try.func22, Try.ntmps22
    go_wp2
    go_ret
    exact ⟨by first | rfl | (simp; done) | (simp [*]; done), by repeat (first | exact Drawn0.refl _ | apply Drawn0.step)⟩
  · rw [if_neg c2] at H
    have c2b0 : decide (4352 ≤ a0) = false := decide_eq_false c2
    clear c2
    obtain rfl := Option.some.inj H
    go_enter Try.func22, Try.ntmps22
    go_wp2
    go_ret
    exact ⟨by first | rfl | (simp; done) | (simp [*]; done), by repeat (first | exact Drawn0.refl _ | apply Drawn0.step)⟩

/-! ### gessoref04_isV: function 23 -/
def gessoref04_isV.f (a0 : Int) : Option (Bool) := if a0 ≥ 4449 then (some (decide (a0 < 4470))) else (some false)
set_option maxHeartbeats 8000000 in
set_option maxRecDepth 100000 in
theorem gessoref04_isV.calls (a0 : Int) (r : Bool) (w : World) (h : gessoref04_isV.f a0 = some r) :
    Calls Try.prog 23 #[.int .u32 a0] w fun e w' => e = .returned (.bool r) ∧ Drawn0 w w' := by
  have H : (if a0 ≥ 4449 then (some (decide (a0 < 4470))) else (some false)) = some r := h
  clear h
  by_cases c2 : a0 ≥ 4449
  · rw [if_pos c2] at H
    have c2b0 : decide (4449 ≤ a0) = true := decide_eq_true c2
    clear c2
    obtain rfl := Option.some.inj H
    go_enter Try.func23, Try.ntmps23
    go_wp2
    go_ret
    exact ⟨by first | rfl | (simp; done) | (simp [*]; done), by repeat (first | exact Drawn0.refl _ | apply Drawn0.step)⟩
  · rw [if_neg c2] at H
    have c2b0 : decide (4449 ≤ a0) = false := decide_eq_false c2
    clear c2
    obtain rfl := Option.some.inj H
    go_enter Try.func23, Try.ntmps23
    go_wp2
    go_ret
    exact ⟨by first | rfl | (simp; done) | (simp [*]; done), by repeat (first | exact Drawn0.refl _ | apply Drawn0.step)⟩

/-! ### gessoref04_isT: function 24 -/
def gessoref04_isT.f (a0 : Int) : Option (Bool) := if a0 ≥ 4520 then (some (decide (a0 < 4547))) else (some false)
set_option maxHeartbeats 8000000 in
set_option maxRecDepth 100000 in
theorem gessoref04_isT.calls (a0 : Int) (r : Bool) (w : World) (h : gessoref04_isT.f a0 = some r) :
    Calls Try.prog 24 #[.int .u32 a0] w fun e w' => e = .returned (.bool r) ∧ Drawn0 w w' := by
  have H : (if a0 ≥ 4520 then (some (decide (a0 < 4547))) else (some false)) = some r := h
  clear h
  by_cases c2 : a0 ≥ 4520
  · rw [if_pos c2] at H
    have c2b0 : decide (4520 ≤ a0) = true := decide_eq_true c2
    clear c2
    obtain rfl := Option.some.inj H
    go_enter Try.func24, Try.ntmps24
    go_wp2
    go_ret
    exact ⟨by first | rfl | (simp; done) | (simp [*]; done), by repeat (first | exact Drawn0.refl _ | apply Drawn0.step)⟩
  · rw [if_neg c2] at H
    have c2b0 : decide (4520 ≤ a0) = false := decide_eq_false c2
    clear c2
    obtain rfl := Option.some.inj H
    go_enter Try.func24, Try.ntmps24
    go_wp2
    go_ret
    exact ⟨by first | rfl | (simp; done) | (simp [*]; done), by repeat (first | exact Drawn0.refl _ | apply Drawn0.step)⟩

/-! ### gessoref04_Put: function 15 -/
def gessoref04_Put.j0 : Nat → Int → Int → Int → Bool → Option (Int × Int)
  | 0, _, _, _, _ => none
  | k + 1, x0, x1, x2, x25 => if x25 = true then (some (0, 2)) else (if x2 = 0 then (some (((44032 + ((((((((21 * ((x0 - 4352) % 4294967296)) % 4294967296) + x1) % 4294967296) - 4449) % 4294967296) * 28) % 4294967296)) % 4294967296) + 0, 0)) else (some ((((44032 + ((((((((21 * ((x0 - 4352) % 4294967296)) % 4294967296) + x1) % 4294967296) - 4449) % 4294967296) * 28) % 4294967296)) % 4294967296) + ((x2 - 4519) % 4294967296)) % 4294967296, 0)))
def gessoref04_Put.f (k : Nat) (a0 : Int) (a1 : Int) (a2 : Int) : Option (Int × Int) := (gessoref04_isL.f a0).bind fun t118 => (if t118 = true then ((gessoref04_isV.f a1).bind fun t119 => (if t119 = true then (if a2 = 0 then (gessoref04_Put.j0 k a0 a1 a2 false) else ((gessoref04_isT.f a2).bind fun t120 => (gessoref04_Put.j0 k a0 a1 a2 (!t120)))) else (gessoref04_Put.j0 k a0 a1 a2 true))) else (gessoref04_Put.j0 k a0 a1 a2 true))
theorem gessoref04_Put.mono_l : ∀ k, (∀ y0 y1 y2 y3, LeO (gessoref04_Put.j0 k y0 y1 y2 y3) (gessoref04_Put.j0 (k + 1) y0 y1 y2 y3))
  | 0 => fun _ _ _ _ r h => by simp [gessoref04_Put.j0] at h
  | k + 1 => by
    have ih0 := gessoref04_Put.mono_l k
    · intro y0 y1 y2 y3
      unfold gessoref04_Put.j0
      repeat' first
      | (with_reducible exact ih0 _ _ _ _)
      | (with_reducible exact LeO.refl _)
      | (with_reducible exact LeO.none _)
      | (with_reducible refine LeO.ite ?_ ?_)
      | (with_reducible refine LeO.bind ?_ (fun _ => ?_))
      | exact ih0 _ _ _ _
      | exact LeO.none _
      | refine LeO.ite ?_ ?_
      | refine LeO.bind ?_ (fun _ => ?_)
theorem gessoref04_Put.mono : ∀ a0 a1 a2 k, LeO (gessoref04_Put.f k a0 a1 a2) (gessoref04_Put.f (k + 1) a0 a1 a2) := by
  intro a0 a1 a2 k
  have ih0 := gessoref04_Put.mono_l k
  unfold gessoref04_Put.f
  repeat' first
      | (with_reducible exact ih0 _ _ _ _)
      | (with_reducible exact LeO.refl _)
      | (with_reducible exact LeO.none _)
      | (with_reducible refine LeO.ite ?_ ?_)
      | (with_reducible refine LeO.bind ?_ (fun _ => ?_))
      | exact ih0 _ _ _ _
      | exact LeO.none _
      | refine LeO.ite ?_ ?_
      | refine LeO.bind ?_ (fun _ => ?_)
set_option maxHeartbeats 8000000 in
set_option maxRecDepth 100000 in
theorem gessoref04_Put.calls (k : Nat) (a0 : Int) (a1 : Int) (a2 : Int) (r1 : Int) (r2 : Int) (w : World) (h : gessoref04_Put.f k a0 a1 a2 = some (r1, r2)) :
    Calls Try.prog 15 #[.int .u32 a0, .int .u32 a1, .int .u32 a2] w fun e w' => e = .returned (.tuple #[.int .u32 r1, .int .i64 r2]) ∧ Drawn0 w w' := by
  have H : ((gessoref04_isL.f a0).bind fun t118 => (if t118 = true then ((gessoref04_isV.f a1).bind fun t119 => (if t119 = true then (if a2 = 0 then (gessoref04_Put.j0 k a0 a1 a2 false) else ((gessoref04_isT.f a2).bind fun t120 => (gessoref04_Put.j0 k a0 a1 a2 (!t120)))) else (gessoref04_Put.j0 k a0 a1 a2 true))) else (gessoref04_Put.j0 k a0 a1 a2 true))) = some (r1, r2) := h
  clear h
  have HC4 := Aside0.mk H
  clear H
  go_enter Try.func15, Try.ntmps15
  go_upto_region 1 with (fail)
  go_cut [25] (fun v25 wc => ∃ (kq : Nat) (x25_3 : Bool), v25 = .bool x25_3 ∧ Aside0 (gessoref04_Put.j0 kq a0 a1 a2 x25_3 = some (r1, r2)) ∧ Aside0 (kq ≤ k) ∧ Drawn0 w wc)
  case first =>
    have H := HC4.out
    clear HC4
    replace H := Option.bind_eq_some_iff.mp H
    obtain ⟨t118, A50, H⟩ := H
    replace H : (if t118 = true then ((gessoref04_isV.f a1).bind fun t119 => (if t119 = true then (if a2 = 0 then (gessoref04_Put.j0 k a0 a1 a2 false) else ((gessoref04_isT.f a2).bind fun t120 => (gessoref04_Put.j0 k a0 a1 a2 (!t120)))) else (gessoref04_Put.j0 k a0 a1 a2 true))) else (gessoref04_Put.j0 k a0 a1 a2 true)) = some (r1, r2) := H
    have A5 := Aside0.mk A50
    clear A50
    by_cases c6 : t118 = true
    · subst c6
      have H1 : ((gessoref04_isV.f a1).bind fun t119 => (if t119 = true then (if a2 = 0 then (gessoref04_Put.j0 k a0 a1 a2 false) else ((gessoref04_isT.f a2).bind fun t120 => (gessoref04_Put.j0 k a0 a1 a2 (!t120)))) else (gessoref04_Put.j0 k a0 a1 a2 true))) = some (r1, r2) := by rw [if_pos rfl] at H; exact H
      clear H
      have H := H1
      clear H1
      replace H := Option.bind_eq_some_iff.mp H
      obtain ⟨t119, A70, H⟩ := H
      replace H : (if t119 = true then (if a2 = 0 then (gessoref04_Put.j0 k a0 a1 a2 false) else ((gessoref04_isT.f a2).bind fun t120 => (gessoref04_Put.j0 k a0 a1 a2 (!t120)))) else (gessoref04_Put.j0 k a0 a1 a2 true)) = some (r1, r2) := H
      have A7 := Aside0.mk A70
      clear A70
      by_cases c8 : t119 = true
      · subst c8
        have H1 : (if a2 = 0 then (gessoref04_Put.j0 k a0 a1 a2 false) else ((gessoref04_isT.f a2).bind fun t120 => (gessoref04_Put.j0 k a0 a1 a2 (!t120)))) = some (r1, r2) := by rw [if_pos rfl] at H; exact H
        clear H
        have H := H1
        clear H1
        by_cases c9 : a2 = 0
        · rw [if_pos c9] at H
          have c9b0 : (a2 == 0) = true := beq_iff_eq.mpr c9
          have c9b1 : (a2 != 0) = false := bne_eq_false_iff_eq.mpr c9
          clear c9
          (first | rw [c9b0] | (simp only [i64_w, i32_w]; rw [c9b0]) | skip)
          have H' := Aside0.mk H
          clear H
          go_wp2_with (first | ((with_reducible refine gate_callee (f := 22) rfl ?_); refine goesL_ (some 10) rfl rfl Try.func22 (by kernel_rfl) rfl #[.int .u32 a0] rfl (by (try simp only [List.map_toArray, List.map_cons, List.map_nil]); first | done | rfl | (simp only [List.length_drop, List.length_take]; rfl)) ?_; (with_reducible refine (gessoref04_isL.calls a0 true _ A5.out).mono ?_); rintro e w' ⟨rfl, ⟨nd, rfl⟩⟩; refine ⟨_, rfl, ?_⟩) | (go_at_call 23; (with_reducible refine (gessoref04_isV.calls a1 true _ A7.out).mono ?_); rintro e w' ⟨rfl, ⟨nd, rfl⟩⟩))
          go_meet
          case rel => exact ⟨_, (false), (by first | rfl | (simp; done) | (simp [*]; done)), H', ⟨by first | omega | exact Nat.le_refl _⟩, by repeat (first | exact Drawn0.refl _ | apply Drawn0.step)⟩
        · rw [if_neg c9] at H
          have c9b0 : (a2 == 0) = false := beq_eq_false_iff_ne.mpr c9
          have c9b1 : (a2 != 0) = true := bne_iff_ne.mpr c9
          (first | rw [c9b0] | (simp only [i64_w, i32_w]; rw [c9b0]) | skip)
          replace H := Option.bind_eq_some_iff.mp H
          obtain ⟨t120, A100, H⟩ := H
          replace H : (gessoref04_Put.j0 k a0 a1 a2 (!t120)) = some (r1, r2) := H
          have A10 := Aside0.mk A100
          clear A100
          have H' := Aside0.mk H
          clear H
          go_wp2_with (first | ((with_reducible refine gate_callee (f := 22) rfl ?_); refine goesL_ (some 10) rfl rfl Try.func22 (by kernel_rfl) rfl #[.int .u32 a0] rfl (by (try simp only [List.map_toArray, List.map_cons, List.map_nil]); first | done | rfl | (simp only [List.length_drop, List.length_take]; rfl)) ?_; (with_reducible refine (gessoref04_isL.calls a0 true _ A5.out).mono ?_); rintro e w' ⟨rfl, ⟨nd, rfl⟩⟩; refine ⟨_, rfl, ?_⟩) | (go_at_call 23; (with_reducible refine (gessoref04_isV.calls a1 true _ A7.out).mono ?_); rintro e w' ⟨rfl, ⟨nd, rfl⟩⟩) | (go_at_call 24; (with_reducible refine (gessoref04_isT.calls a2 t120 _ A10.out).mono ?_); rintro e w' ⟨rfl, ⟨nd, rfl⟩⟩))
          go_meet
          case rel => exact ⟨_, (!t120), (by first | rfl | (simp; done) | (simp [*]; done)), H', ⟨by first | omega | exact Nat.le_refl _⟩, by repeat (first | exact Drawn0.refl _ | apply Drawn0.step)⟩
      · replace c8 := Bool.eq_false_iff.mpr c8
        subst c8
        have H1 : (gessoref04_Put.j0 k a0 a1 a2 true) = some (r1, r2) := by rw [if_neg (show ¬ (false = true) by decide)] at H; exact H
        clear H
        have H := H1
        clear H1
        have H' := Aside0.mk H
        clear H
        go_wp2_with (first | ((with_reducible refine gate_callee (f := 22) rfl ?_); refine goesL_ (some 10) rfl rfl Try.func22 (by kernel_rfl) rfl #[.int .u32 a0] rfl (by (try simp only [List.map_toArray, List.map_cons, List.map_nil]); first | done | rfl | (simp only [List.length_drop, List.length_take]; rfl)) ?_; (with_reducible refine (gessoref04_isL.calls a0 true _ A5.out).mono ?_); rintro e w' ⟨rfl, ⟨nd, rfl⟩⟩; refine ⟨_, rfl, ?_⟩) | (go_at_call 23; (with_reducible refine (gessoref04_isV.calls a1 false _ A7.out).mono ?_); rintro e w' ⟨rfl, ⟨nd, rfl⟩⟩))
        go_meet
        case rel => exact ⟨_, (true), (by first | rfl | (simp; done) | (simp [*]; done)), H', ⟨by first | omega | exact Nat.le_refl _⟩, by repeat (first | exact Drawn0.refl _ | apply Drawn0.step)⟩
    · replace c6 := Bool.eq_false_iff.mpr c6
      subst c6
      have H1 : (gessoref04_Put.j0 k a0 a1 a2 true) = some (r1, r2) := by rw [if_neg (show ¬ (false = true) by decide)] at H; exact H
      clear H
      have H := H1
      clear H1
      have H' := Aside0.mk H
      clear H
      go_wp2_with (first | ((with_reducible refine gate_callee (f := 22) rfl ?_); refine goesL_ (some 10) rfl rfl Try.func22 (by kernel_rfl) rfl #[.int .u32 a0] rfl (by (try simp only [List.map_toArray, List.map_cons, List.map_nil]); first | done | rfl | (simp only [List.length_drop, List.length_take]; rfl)) ?_; (with_reducible refine (gessoref04_isL.calls a0 false _ A5.out).mono ?_); rintro e w' ⟨rfl, ⟨nd, rfl⟩⟩; refine ⟨_, rfl, ?_⟩))
      go_meet
      case rel => exact ⟨_, (true), (by first | rfl | (simp; done) | (simp [*]; done)), H', ⟨by first | omega | exact Nat.le_refl _⟩, by repeat (first | exact Drawn0.refl _ | apply Drawn0.step)⟩
  case rest =>
    clear HC4
    try clear c1
    try clear c2
    try clear p2
    try clear c6
    try clear c8
    try clear c9
    try clear c9b0
    try clear c9b1
    obtain ⟨kq, x25_3, rfl, HA, HJ3, ⟨mc3, rfl⟩⟩ := hcut
    cases kq with
    | zero => exact absurd HA.out (by simp [gessoref04_Put.j0])
    | succ kj3 =>
      have H := HA.out
      clear HA
      simp only [gessoref04_Put.j0] at H
      by_cases c11 : x25_3 = true
      · subst c11
        have H1 : (some (0, 2)) = some (r1, r2) := by rw [if_pos rfl] at H; exact H
        clear H
        have H := H1
        clear H1
        simp only [Option.some.injEq, Prod.mk.injEq] at H
        obtain ⟨rfl, rfl⟩ := H
        go_wp2
        go_ret2
        exact ⟨by first | rfl | (simp; done) | (simp [*]; done), by repeat (first | exact Drawn0.refl _ | apply Drawn0.step)⟩
      · replace c11 := Bool.eq_false_iff.mpr c11
        subst c11
        have H1 : (if a2 = 0 then (some (((44032 + ((((((((21 * ((a0 - 4352) % 4294967296)) % 4294967296) + a1) % 4294967296) - 4449) % 4294967296) * 28) % 4294967296)) % 4294967296) + 0, 0)) else (some ((((44032 + ((((((((21 * ((a0 - 4352) % 4294967296)) % 4294967296) + a1) % 4294967296) - 4449) % 4294967296) * 28) % 4294967296)) % 4294967296) + ((a2 - 4519) % 4294967296)) % 4294967296, 0))) = some (r1, r2) := by rw [if_neg (show ¬ (false = true) by decide)] at H; exact H
        clear H
        have H := H1
        clear H1
        by_cases c12 : a2 = 0
        · rw [if_pos c12] at H
          have c12b0 : (a2 == 0) = true := beq_iff_eq.mpr c12
          have c12b1 : (a2 != 0) = false := bne_eq_false_iff_eq.mpr c12
          clear c12
          simp only [Option.some.injEq, Prod.mk.injEq] at H
          obtain ⟨rfl, rfl⟩ := H
          go_wp2
          go_ret2
          exact ⟨by first | rfl | (simp; done) | (simp [*]; done), by repeat (first | exact Drawn0.refl _ | apply Drawn0.step)⟩
        · rw [if_neg c12] at H
          have c12b0 : (a2 == 0) = false := beq_eq_false_iff_ne.mpr c12
          have c12b1 : (a2 != 0) = true := bne_iff_ne.mpr c12
          simp only [Option.some.injEq, Prod.mk.injEq] at H
          obtain ⟨rfl, rfl⟩ := H
          go_wp2
          go_ret2
          exact ⟨by first | rfl | (simp; done) | (simp [*]; done), by repeat (first | exact Drawn0.refl _ | apply Drawn0.step)⟩

end Go.Proofs.Ytmhehgkpbkoomaa.P
