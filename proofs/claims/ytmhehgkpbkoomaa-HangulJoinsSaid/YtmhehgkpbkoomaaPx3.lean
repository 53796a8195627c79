/- Functions of the translated program as plain Lean functions, and proofs that their calls come to these. Written by a program of the session. No condition. -/
import Derived.Test.YtmhehgkpbkoomaaPx0
import Derived.Test.YtmhehgkpbkoomaaPx1
import Derived.Test.YtmhehgkpbkoomaaPx2
import Derived.Test.YtmhehgkpbkoomaaEa
namespace Go.Proofs.Ytmhehgkpbkoomaa.P
open Go.RowKit Go.Proofs.YtmhehgkpbkoomaaW.PrintWords Go.Proofs.YtmhehgkpbkoomaaW.PrintLast Go.Proofs.YtmhehgkpbkoomaaW.PrintMore
attribute [local go_sem] max2_int min2_int max_two min_two max_three min_three max_four min_four   -- for this text's walks alone
set_option linter.unusedVariables false
set_option linter.unusedSimpArgs false

/-! ### gessolaw04_HangulPuts: function 4 -/
def gessolaw04_HangulPuts.f (k : Nat) (a0 : Int) (a1 : Int) (a2 : Int) : Option (Bool) := (hangul_Put.f a0 a1 a2).bind fun bt121 => ((gessoref04_Put.f k a0 a1 a2).bind fun bt123 => (if bt121.1 = bt123.1 then (if bt121.2 = bt123.2 then ((gessolaw04_awake.f).bind fun t125 => (some t125)) else (some false)) else (some false)))
theorem gessolaw04_HangulPuts.mono : ∀ a0 a1 a2 k, LeO (gessolaw04_HangulPuts.f k a0 a1 a2) (gessolaw04_HangulPuts.f (k + 1) a0 a1 a2) := by
  intro a0 a1 a2 k
  unfold gessolaw04_HangulPuts.f
  repeat' first
      | (with_reducible exact gessoref04_Put.mono _ _ _ _)
      | (with_reducible exact LeO.refl _)
      | (with_reducible exact LeO.none _)
      | (with_reducible refine LeO.ite ?_ ?_)
      | (with_reducible refine LeO.bind ?_ (fun _ => ?_))
      | exact gessoref04_Put.mono _ _ _ _
      | exact LeO.none _
      | refine LeO.ite ?_ ?_
      | refine LeO.bind ?_ (fun _ => ?_)
set_option maxHeartbeats 8000000 in
set_option maxRecDepth 100000 in
theorem gessolaw04_HangulPuts.calls (k : Nat) (a0 : Int) (a1 : Int) (a2 : Int) (r : Bool) (w : World) (h : gessolaw04_HangulPuts.f k a0 a1 a2 = some r) :
    Calls Try.prog 4 #[.int .u32 a0, .int .u32 a1, .int .u32 a2] w fun e w' => e = .returned (.bool r) ∧ Below w.heap.size w w' := by
  have HB := Aside0.mk (Below.refl w.heap.size w)
  have H : ((hangul_Put.f a0 a1 a2).bind fun bt121 => ((gessoref04_Put.f k a0 a1 a2).bind fun bt123 => (if bt121.1 = bt123.1 then (if bt121.2 = bt123.2 then ((gessolaw04_awake.f).bind fun t125 => (some t125)) else (some false)) else (some false)))) = some r := h
  clear h
  replace H := Option.bind_eq_some_iff.mp H
  obtain ⟨⟨t121, t122⟩, A40, H⟩ := H
  replace H : ((gessoref04_Put.f k a0 a1 a2).bind fun bt123 => (if t121 = bt123.1 then (if t122 = bt123.2 then ((gessolaw04_awake.f).bind fun t125 => (some t125)) else (some false)) else (some false))) = some r := H
  have A4 := Aside0.mk A40
  clear A40
  replace H := Option.bind_eq_some_iff.mp H
  obtain ⟨⟨t123, t124⟩, A50, H⟩ := H
  replace H : (if t121 = t123 then (if t122 = t124 then ((gessolaw04_awake.f).bind fun t125 => (some t125)) else (some false)) else (some false)) = some r := H
  have A5 := Aside0.mk A50
  clear A50
  by_cases c6 : t121 = t123
  · rw [if_pos c6] at H
    have c6b0 : (t121 == t123) = true := beq_iff_eq.mpr c6
    have c6b1 : (t121 != t123) = false := bne_eq_false_iff_eq.mpr c6
    clear c6
    by_cases c7 : t122 = t124
    · rw [if_pos c7] at H
      have c7b0 : (t122 == t124) = true := beq_iff_eq.mpr c7
      have c7b1 : (t122 != t124) = false := bne_eq_false_iff_eq.mpr c7
      clear c7
      replace H := Option.bind_eq_some_iff.mp H
      obtain ⟨t125, A80, H⟩ := H
      replace H : (some t125) = some r := H
      have A8 := Aside0.mk A80
      clear A80
      obtain rfl := Option.some.inj H
      go_enter Try.func4, Try.ntmps4
      go_wp2_with (first | ((with_reducible refine gate_callee (f := 14) rfl ?_); refine goesL_ (some 15) rfl rfl Try.func14 (by kernel_rfl) rfl #[.int .u32 a0, .int .u32 a1, .int .u32 a2] rfl (by (try simp only [List.map_toArray, List.map_cons, List.map_nil]); first | done | rfl | (simp only [List.length_drop, List.length_take]; rfl)) ?_; (with_reducible refine (hangul_Put.calls a0 a1 a2 t121 t122 _ A4.out).mono ?_); rintro e w9 ⟨rfl, hb⟩; refine ⟨_, rfl, ?_⟩; have n0_ := Aside0.mk (below_step (by repeat (first | (with_reducible first | exact HB.out | apply below_alloc | apply pw_below_drewN | apply below_drew1) | exact HB.out)) hb); clear HB; have HB := n0_; clear n0_; (try clear hb); (try clear hb2); (try clear hk); (try clear hi)) | ((with_reducible refine gate_callee (f := 15) rfl ?_); refine goesL_ (some 22) rfl rfl Try.func15 (by kernel_rfl) rfl #[.int .u32 a0, .int .u32 a1, .int .u32 a2] rfl (by (try simp only [List.map_toArray, List.map_cons, List.map_nil]); first | done | rfl | (simp only [List.length_drop, List.length_take]; rfl)) ?_; (with_reducible refine (gessoref04_Put.calls k a0 a1 a2 t123 t124 _ A5.out).mono ?_); rintro e w' ⟨rfl, ⟨nd, rfl⟩⟩; refine ⟨_, rfl, ?_⟩) | (go_at_call 13; (with_reducible refine (gessolaw04_awake.calls  t125 _ A8.out).mono ?_); rintro e w10 ⟨rfl, hb⟩; have n0_ := Aside0.mk (below_step (by repeat (first | (with_reducible first | exact HB.out | apply below_alloc | apply pw_below_drewN | apply below_drew1) | exact HB.out)) hb); clear HB; have HB := n0_; clear n0_; (try clear hb); (try clear hb2); (try clear hk); (try clear hi)))
      go_ret
      exact ⟨by first | rfl | (simp [errW_none, errW_some] <;> rfl) | (simp [*, errW_none, errW_some] <;> rfl), by repeat (first | (with_reducible first | exact HB.out | apply below_alloc | apply pw_below_drewN | apply below_drew1) | exact HB.out)⟩
    · rw [if_neg c7] at H
      have c7b0 : (t122 == t124) = false := beq_eq_false_iff_ne.mpr c7
      have c7b1 : (t122 != t124) = true := bne_iff_ne.mpr c7
      obtain rfl := Option.some.inj H
      go_enter Try.func4, Try.ntmps4
      go_wp2_with (first | ((with_reducible refine gate_callee (f := 14) rfl ?_); refine goesL_ (some 15) rfl rfl Try.func14 (by kernel_rfl) rfl #[.int .u32 a0, .int .u32 a1, .int .u32 a2] rfl (by (try simp only [List.map_toArray, List.map_cons, List.map_nil]); first | done | rfl | (simp only [List.length_drop, List.length_take]; rfl)) ?_; (with_reducible refine (hangul_Put.calls a0 a1 a2 t121 t122 _ A4.out).mono ?_); rintro e w11 ⟨rfl, hb⟩; refine ⟨_, rfl, ?_⟩; have n0_ := Aside0.mk (below_step (by repeat (first | (with_reducible first | exact HB.out | apply below_alloc | apply pw_below_drewN | apply below_drew1) | exact HB.out)) hb); clear HB; have HB := n0_; clear n0_; (try clear hb); (try clear hb2); (try clear hk); (try clear hi)) | ((with_reducible refine gate_callee (f := 15) rfl ?_); refine goesL_ (some 22) rfl rfl Try.func15 (by kernel_rfl) rfl #[.int .u32 a0, .int .u32 a1, .int .u32 a2] rfl (by (try simp only [List.map_toArray, List.map_cons, List.map_nil]); first | done | rfl | (simp only [List.length_drop, List.length_take]; rfl)) ?_; (with_reducible refine (gessoref04_Put.calls k a0 a1 a2 t123 t124 _ A5.out).mono ?_); rintro e w' ⟨rfl, ⟨nd, rfl⟩⟩; refine ⟨_, rfl, ?_⟩))
      go_ret
      exact ⟨by first | rfl | (simp [errW_none, errW_some] <;> rfl) | (simp [*, errW_none, errW_some] <;> rfl), by repeat (first | (with_reducible first | exact HB.out | apply below_alloc | apply pw_below_drewN | apply below_drew1) | exact HB.out)⟩
  · rw [if_neg c6] at H
    have c6b0 : (t121 == t123) = false := beq_eq_false_iff_ne.mpr c6
    have c6b1 : (t121 != t123) = true := bne_iff_ne.mpr c6
    obtain rfl := Option.some.inj H
    go_enter Try.func4, Try.ntmps4
    go_wp2_with (first | ((with_reducible refine gate_callee (f := 14) rfl ?_); refine goesL_ (some 15) rfl rfl Try.func14 (by kernel_rfl) rfl #[.int .u32 a0, .int .u32 a1, .int .u32 a2] rfl (by (try simp only [List.map_toArray, List.map_cons, List.map_nil]); first | done | rfl | (simp only [List.length_drop, List.length_take]; rfl)) ?_; (with_reducible refine (hangul_Put.calls a0 a1 a2 t121 t122 _ A4.out).mono ?_); rintro e w12 ⟨rfl, hb⟩; refine ⟨_, rfl, ?_⟩; have n0_ := Aside0.mk (below_step (by repeat (first | (with_reducible first | exact HB.out | apply below_alloc | apply pw_below_drewN | apply below_drew1) | exact HB.out)) hb); clear HB; have HB := n0_; clear n0_; (try clear hb); (try clear hb2); (try clear hk); (try clear hi)) | ((with_reducible refine gate_callee (f := 15) rfl ?_); refine goesL_ (some 22) rfl rfl Try.func15 (by kernel_rfl) rfl #[.int .u32 a0, .int .u32 a1, .int .u32 a2] rfl (by (try simp only [List.map_toArray, List.map_cons, List.map_nil]); first | done | rfl | (simp only [List.length_drop, List.length_take]; rfl)) ?_; (with_reducible refine (gessoref04_Put.calls k a0 a1 a2 t123 t124 _ A5.out).mono ?_); rintro e w' ⟨rfl, ⟨nd, rfl⟩⟩; refine ⟨_, rfl, ?_⟩))
    go_ret
    exact ⟨by first | rfl | (simp [errW_none, errW_some] <;> rfl) | (simp [*, errW_none, errW_some] <;> rfl), by repeat (first | (with_reducible first | exact HB.out | apply below_alloc | apply pw_below_drewN | apply below_drew1) | exact HB.out)⟩

/-- THE ONE PURE STATEMENT of gessolaw04_HangulPuts: yours. -/
def gessolaw04_HangulPuts.Pure : Prop := ∀ (a0 : Int) (a1 : Int) (a2 : Int), (Lit.int .u32 a0).wf = true → (Lit.int .u32 a1).wf = true → (Lit.int .u32 a2).wf = true → ∃ k, gessolaw04_HangulPuts.f k a0 a1 a2 = some true
theorem gessolaw04_HangulPuts.walk (P : gessolaw04_HangulPuts.Pure) (a0 : Int) (a1 : Int) (a2 : Int) (w : World) (w0 : (Lit.int .u32 a0).wf = true) (w1 : (Lit.int .u32 a1).wf = true) (w2 : (Lit.int .u32 a2).wf = true) :
    Calls Try.prog 4 #[.int .u32 a0, .int .u32 a1, .int .u32 a2] w fun e w' => e = .returned (.bool true) ∧ Below w.heap.size w w' := by
  obtain ⟨k, h⟩ := P a0 a1 a2 w0 w1 w2
  refine (gessolaw04_HangulPuts.calls k a0 a1 a2 true w h).mono ?_
  rintro e w' ⟨rfl, hd⟩
  exact ⟨rfl, hd⟩

/-! ### gessoref04_Join: function 17 -/
def gessoref04_Join.j0 : Nat → Int → Int → Bool → Option (Int × Bool)
  | 0, _, _, _ => none
  | k + 1, x0, x1, x19 => if x19 = true then ((gessoref04_Put.f k x0 x1 0).bind fun bt128 => (some (bt128.1, true))) else ((gessoref04_Split.f x0).bind fun bt130 => (if bt130.2.2.2 = true then (if bt130.2.2.1 = 0 then ((gessoref04_isT.f x1).bind fun t134 => (if t134 = true then ((gessoref04_Put.f k bt130.1 bt130.2.1 x1).bind fun bt135 => (some (bt135.1, true))) else (some (0, false)))) else (some (0, false))) else (some (0, false))))
def gessoref04_Join.f (k : Nat) (a0 : Int) (a1 : Int) : Option (Int × Bool) := (gessoref04_isL.f a0).bind fun t126 => (if t126 = true then ((gessoref04_isV.f a1).bind fun t127 => (gessoref04_Join.j0 k a0 a1 t127)) else (gessoref04_Join.j0 k a0 a1 false))
theorem gessoref04_Join.mono_l : ∀ k, (∀ y0 y1 y2, LeO (gessoref04_Join.j0 k y0 y1 y2) (gessoref04_Join.j0 (k + 1) y0 y1 y2))
  | 0 => fun _ _ _ r h => by simp [gessoref04_Join.j0] at h
  | k + 1 => by
    have ih0 := gessoref04_Join.mono_l k
    · intro y0 y1 y2
      unfold gessoref04_Join.j0
      repeat' first
      | (with_reducible exact ih0 _ _ _)
      | (with_reducible exact gessoref04_Put.mono _ _ _ _)
      | (with_reducible exact LeO.refl _)
      | (with_reducible exact LeO.none _)
      | (with_reducible refine LeO.ite ?_ ?_)
      | (with_reducible refine LeO.bind ?_ (fun _ => ?_))
      | exact ih0 _ _ _
      | exact gessoref04_Put.mono _ _ _ _
      | exact LeO.none _
      | refine LeO.ite ?_ ?_
      | refine LeO.bind ?_ (fun _ => ?_)
theorem gessoref04_Join.mono : ∀ a0 a1 k, LeO (gessoref04_Join.f k a0 a1) (gessoref04_Join.f (k + 1) a0 a1) := by
  intro a0 a1 k
  have ih0 := gessoref04_Join.mono_l k
  unfold gessoref04_Join.f
  repeat' first
      | (with_reducible exact ih0 _ _ _)
      | (with_reducible exact gessoref04_Put.mono _ _ _ _)
      | (with_reducible exact LeO.refl _)
      | (with_reducible exact LeO.none _)
      | (with_reducible refine LeO.ite ?_ ?_)
      | (with_reducible refine LeO.bind ?_ (fun _ => ?_))
      | exact ih0 _ _ _
      | exact gessoref04_Put.mono _ _ _ _
      | exact LeO.none _
      | refine LeO.ite ?_ ?_
      | refine LeO.bind ?_ (fun _ => ?_)
set_option maxHeartbeats 8000000 in
set_option maxRecDepth 100000 in
theorem gessoref04_Join.calls (k : Nat) (a0 : Int) (a1 : Int) (r1 : Int) (r2 : Bool) (w : World) (h : gessoref04_Join.f k a0 a1 = some (r1, r2)) :
    Calls Try.prog 17 #[.int .u32 a0, .int .u32 a1] w fun e w' => e = .returned (.tuple #[.int .u32 r1, .bool r2]) ∧ Drawn0 w w' := by
  have H : ((gessoref04_isL.f a0).bind fun t126 => (if t126 = true then ((gessoref04_isV.f a1).bind fun t127 => (gessoref04_Join.j0 k a0 a1 t127)) else (gessoref04_Join.j0 k a0 a1 false))) = some (r1, r2) := h
  clear h
  have HC3 := Aside0.mk H
  clear H
  go_enter Try.func17, Try.ntmps17
  go_upto_region 1 with (fail)
  go_cut [19] (fun v19 wc => ∃ (kq : Nat) (x19_2 : Bool), v19 = .bool x19_2 ∧ Aside0 (gessoref04_Join.j0 kq a0 a1 x19_2 = some (r1, r2)) ∧ Aside0 (kq ≤ k) ∧ Drawn0 w wc)
  case first =>
    have H := HC3.out
    clear HC3
    replace H := Option.bind_eq_some_iff.mp H
    obtain ⟨t126, A40, H⟩ := H
    replace H : (if t126 = true then ((gessoref04_isV.f a1).bind fun t127 => (gessoref04_Join.j0 k a0 a1 t127)) else (gessoref04_Join.j0 k a0 a1 false)) = some (r1, r2) := H
    have A4 := Aside0.mk A40
    clear A40
    by_cases c5 : t126 = true
    · subst c5
      have H1 : ((gessoref04_isV.f a1).bind fun t127 => (gessoref04_Join.j0 k a0 a1 t127)) = some (r1, r2) := by rw [if_pos rfl] at H; exact H
      clear H
      have H := H1
      clear H1
      replace H := Option.bind_eq_some_iff.mp H
      obtain ⟨t127, A60, H⟩ := H
      replace H : (gessoref04_Join.j0 k a0 a1 t127) = some (r1, r2) := H
      have A6 := Aside0.mk A60
      clear A60
      have H' := Aside0.mk H
      clear H
      go_wp2_with (first | ((with_reducible refine gate_callee (f := 22) rfl ?_); refine goesL_ (some 15) rfl rfl Try.func22 (by kernel_rfl) rfl #[.int .u32 a0] rfl (by (try simp only [List.map_toArray, List.map_cons, List.map_nil]); first | done | rfl | (simp only [List.length_drop, List.length_take]; rfl)) ?_; (with_reducible refine (gessoref04_isL.calls a0 true _ A4.out).mono ?_); rintro e w' ⟨rfl, ⟨nd, rfl⟩⟩; refine ⟨_, rfl, ?_⟩) | (go_at_call 23; (with_reducible refine (gessoref04_isV.calls a1 t127 _ A6.out).mono ?_); rintro e w' ⟨rfl, ⟨nd, rfl⟩⟩))
      go_meet
      case rel => exact ⟨_, (t127), (by first | rfl | (simp; done) | (simp [*]; done)), H', ⟨by first | omega | exact Nat.le_refl _⟩, by repeat (first | exact Drawn0.refl _ | apply Drawn0.step)⟩
    · replace c5 := Bool.eq_false_iff.mpr c5
      subst c5
      have H1 : (gessoref04_Join.j0 k a0 a1 false) = some (r1, r2) := by rw [if_neg (show ¬ (false = true) by decide)] at H; exact H
      clear H
      have H := H1
      clear H1
      have H' := Aside0.mk H
      clear H
      go_wp2_with (first | ((with_reducible refine gate_callee (f := 22) rfl ?_); refine goesL_ (some 15) rfl rfl Try.func22 (by kernel_rfl) rfl #[.int .u32 a0] rfl (by (try simp only [List.map_toArray, List.map_cons, List.map_nil]); first | done | rfl | (simp only [List.length_drop, List.length_take]; rfl)) ?_; (with_reducible refine (gessoref04_isL.calls a0 false _ A4.out).mono ?_); rintro e w' ⟨rfl, ⟨nd, rfl⟩⟩; refine ⟨_, rfl, ?_⟩))
      go_meet
      case rel => exact ⟨_, (false), (by first | rfl | (simp; done) | (simp [*]; done)), H', ⟨by first | omega | exact Nat.le_refl _⟩, by repeat (first | exact Drawn0.refl _ | apply Drawn0.step)⟩
  case rest =>
    clear HC3
    try clear c1
    try clear c2
    try clear p2
    try clear c5
    obtain ⟨kq, x19_2, rfl, HA, HJ2, ⟨mc2, rfl⟩⟩ := hcut
    cases kq with
    | zero => exact absurd HA.out (by simp [gessoref04_Join.j0])
    | succ kj2 =>
      have H := HA.out
      clear HA
      simp only [gessoref04_Join.j0] at H
      by_cases c7 : x19_2 = true
      · subst c7
        have H1 : ((gessoref04_Put.f kj2 a0 a1 0).bind fun bt128 => (some (bt128.1, true))) = some (r1, r2) := by rw [if_pos rfl] at H; exact H
        clear H
        have H := H1
        clear H1
        replace H := Option.bind_eq_some_iff.mp H
        obtain ⟨⟨t128, t129⟩, A80, H⟩ := H
        replace H : (some (t128, true)) = some (r1, r2) := H
        have A8 := Aside0.mk A80
        clear A80
        simp only [Option.some.injEq, Prod.mk.injEq] at H
        obtain ⟨rfl, rfl⟩ := H
        go_wp2_with (first | ((with_reducible refine gate_callee (f := 15) rfl ?_); refine goesL_ (some 23) rfl rfl Try.func15 (by kernel_rfl) rfl #[.int .u32 a0, .int .u32 a1, .int .u32 0] rfl (by (try simp only [List.map_toArray, List.map_cons, List.map_nil]); first | done | rfl | (simp only [List.length_drop, List.length_take]; rfl)) ?_; (with_reducible refine (gessoref04_Put.calls kj2 a0 a1 0 t128 t129 _ A8.out).mono ?_); rintro e w' ⟨rfl, ⟨nd, rfl⟩⟩; refine ⟨_, rfl, ?_⟩))
        go_ret2
        exact ⟨by first | rfl | (simp; done) | (simp [*]; done), by repeat (first | exact Drawn0.refl _ | apply Drawn0.step)⟩
      · replace c7 := Bool.eq_false_iff.mpr c7
        subst c7
        have H1 : ((gessoref04_Split.f a0).bind fun bt130 => (if bt130.2.2.2 = true then (if bt130.2.2.1 = 0 then ((gessoref04_isT.f a1).bind fun t134 => (if t134 = true then ((gessoref04_Put.f kj2 bt130.1 bt130.2.1 a1).bind fun bt135 => (some (bt135.1, true))) else (some (0, false)))) else (some (0, false))) else (some (0, false)))) = some (r1, r2) := by rw [if_neg (show ¬ (false = true) by decide)] at H; exact H
        clear H
        have H := H1
        clear H1
        replace H := Option.bind_eq_some_iff.mp H
        obtain ⟨⟨t130, t131, t132, t133⟩, A90, H⟩ := H
        replace H : (if t133 = true then (if t132 = 0 then ((gessoref04_isT.f a1).bind fun t134 => (if t134 = true then ((gessoref04_Put.f kj2 t130 t131 a1).bind fun bt135 => (some (bt135.1, true))) else (some (0, false)))) else (some (0, false))) else (some (0, false))) = some (r1, r2) := H
        have A9 := Aside0.mk A90
        clear A90
        by_cases c10 : t133 = true
        · subst c10
          have H1 : (if t132 = 0 then ((gessoref04_isT.f a1).bind fun t134 => (if t134 = true then ((gessoref04_Put.f kj2 t130 t131 a1).bind fun bt135 => (some (bt135.1, true))) else (some (0, false)))) else (some (0, false))) = some (r1, r2) := by rw [if_pos rfl] at H; exact H
          clear H
          have H := H1
          clear H1
          by_cases c11 : t132 = 0
          · rw [if_pos c11] at H
            have c11b0 : (t132 == 0) = true := beq_iff_eq.mpr c11
            have c11b1 : (t132 != 0) = false := bne_eq_false_iff_eq.mpr c11
            clear c11
            replace H := Option.bind_eq_some_iff.mp H
            obtain ⟨t134, A120, H⟩ := H
            replace H : (if t134 = true then ((gessoref04_Put.f kj2 t130 t131 a1).bind fun bt135 => (some (bt135.1, true))) else (some (0, false))) = some (r1, r2) := H
            have A12 := Aside0.mk A120
            clear A120
            by_cases c13 : t134 = true
            · subst c13
              have H1 : ((gessoref04_Put.f kj2 t130 t131 a1).bind fun bt135 => (some (bt135.1, true))) = some (r1, r2) := by rw [if_pos rfl] at H; exact H
              clear H
              have H := H1
              clear H1
              replace H := Option.bind_eq_some_iff.mp H
              obtain ⟨⟨t135, t136⟩, A140, H⟩ := H
              replace H : (some (t135, true)) = some (r1, r2) := H
              have A14 := Aside0.mk A140
              clear A140
              simp only [Option.some.injEq, Prod.mk.injEq] at H
              obtain ⟨rfl, rfl⟩ := H
              go_wp2_with (first | ((with_reducible refine gate_callee (f := 10) rfl ?_); refine goesL_ (some 29) rfl rfl Try.func10 (by kernel_rfl) rfl #[.int .u32 a0] rfl (by (try simp only [List.map_toArray, List.map_cons, List.map_nil]); first | done | rfl | (simp only [List.length_drop, List.length_take]; rfl)) ?_; (with_reducible refine (gessoref04_Split.calls a0 t130 t131 t132 true _ A9.out).mono ?_); rintro e w' ⟨rfl, ⟨nd, rfl⟩⟩; refine ⟨_, rfl, ?_⟩) | (go_at_call 24; (with_reducible refine (gessoref04_isT.calls a1 true _ A12.out).mono ?_); rintro e w' ⟨rfl, ⟨nd, rfl⟩⟩) | ((with_reducible refine gate_callee (f := 15) rfl ?_); refine goesL_ (some 47) rfl rfl Try.func15 (by kernel_rfl) rfl #[.int .u32 t130, .int .u32 t131, .int .u32 a1] rfl (by (try simp only [List.map_toArray, List.map_cons, List.map_nil]); first | done | rfl | (simp only [List.length_drop, List.length_take]; rfl)) ?_; (with_reducible refine (gessoref04_Put.calls kj2 t130 t131 a1 t135 t136 _ A14.out).mono ?_); rintro e w' ⟨rfl, ⟨nd, rfl⟩⟩; refine ⟨_, rfl, ?_⟩))
              go_ret2
              exact ⟨by first | rfl | (simp; done) | (simp [*]; done), by repeat (first | exact Drawn0.refl _ | apply Drawn0.step)⟩
            · replace c13 := Bool.eq_false_iff.mpr c13
              subst c13
              have H1 : (some (0, false)) = some (r1, r2) := by rw [if_neg (show ¬ (false = true) by decide)] at H; exact H
              clear H
              have H := H1
              clear H1
              simp only [Option.some.injEq, Prod.mk.injEq] at H
              obtain ⟨rfl, rfl⟩ := H
              go_wp2_with (first | ((with_reducible refine gate_callee (f := 10) rfl ?_); refine goesL_ (some 29) rfl rfl Try.func10 (by kernel_rfl) rfl #[.int .u32 a0] rfl (by (try simp only [List.map_toArray, List.map_cons, List.map_nil]); first | done | rfl | (simp only [List.length_drop, List.length_take]; rfl)) ?_; (with_reducible refine (gessoref04_Split.calls a0 t130 t131 t132 true _ A9.out).mono ?_); rintro e w' ⟨rfl, ⟨nd, rfl⟩⟩; refine ⟨_, rfl, ?_⟩) | (go_at_call 24; (with_reducible refine (gessoref04_isT.calls a1 false _ A12.out).mono ?_); rintro e w' ⟨rfl, ⟨nd, rfl⟩⟩))
              go_ret2
              exact ⟨by first | rfl | (simp; done) | (simp [*]; done), by repeat (first | exact Drawn0.refl _ | apply Drawn0.step)⟩
          · rw [if_neg c11] at H
            have c11b0 : (t132 == 0) = false := beq_eq_false_iff_ne.mpr c11
            have c11b1 : (t132 != 0) = true := bne_iff_ne.mpr c11
            simp only [Option.some.injEq, Prod.mk.injEq] at H
            obtain ⟨rfl, rfl⟩ := H
            go_wp2_with (first | ((with_reducible refine gate_callee (f := 10) rfl ?_); refine goesL_ (some 29) rfl rfl Try.func10 (by kernel_rfl) rfl #[.int .u32 a0] rfl (by (try simp only [List.map_toArray, List.map_cons, List.map_nil]); first | done | rfl | (simp only [List.length_drop, List.length_take]; rfl)) ?_; (with_reducible refine (gessoref04_Split.calls a0 t130 t131 t132 true _ A9.out).mono ?_); rintro e w' ⟨rfl, ⟨nd, rfl⟩⟩; refine ⟨_, rfl, ?_⟩))
            go_ret2
            exact ⟨by first | rfl | (simp; done) | (simp [*]; done), by repeat (first | exact Drawn0.refl _ | apply Drawn0.step)⟩
        · replace c10 := Bool.eq_false_iff.mpr c10
          subst c10
          have H1 : (some (0, false)) = some (r1, r2) := by rw [if_neg (show ¬ (false = true) by decide)] at H; exact H
          clear H
          have H := H1
          clear H1
          simp only [Option.some.injEq, Prod.mk.injEq] at H
          obtain ⟨rfl, rfl⟩ := H
          go_wp2_with (first | ((with_reducible refine gate_callee (f := 10) rfl ?_); refine goesL_ (some 29) rfl rfl Try.func10 (by kernel_rfl) rfl #[.int .u32 a0] rfl (by (try simp only [List.map_toArray, List.map_cons, List.map_nil]); first | done | rfl | (simp only [List.length_drop, List.length_take]; rfl)) ?_; (with_reducible refine (gessoref04_Split.calls a0 t130 t131 t132 false _ A9.out).mono ?_); rintro e w' ⟨rfl, ⟨nd, rfl⟩⟩; refine ⟨_, rfl, ?_⟩))
          go_ret2
          exact ⟨by first | rfl | (simp; done) | (simp [*]; done), by repeat (first | exact Drawn0.refl _ | apply Drawn0.step)⟩

end Go.Proofs.Ytmhehgkpbkoomaa.P
