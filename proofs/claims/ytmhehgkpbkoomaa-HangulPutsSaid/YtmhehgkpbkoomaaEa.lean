/- The contracts of the functions of package hangul that the print program does not take: Split, Put, Join (and what they call: has, lead, vowel, trail). No condition. -/
import Derived.Test.YtmhehgkpbkoomaaPx0
namespace Go.Proofs.Ytmhehgkpbkoomaa.P
open Go.RowKit Go.Proofs.YtmhehgkpbkoomaaW.PrintWords Go.Proofs.YtmhehgkpbkoomaaW.PrintLast Go.Proofs.YtmhehgkpbkoomaaW.PrintMore
set_option linter.unusedVariables false
set_option linter.unusedSimpArgs false

theorem trail_calls (w : World) : Calls Try.prog 18 #[] w fun e w' => e = .returned (.agg #[.int .u32 4520, .int .u32 27]) ∧ Below w.heap.size w w' := by
  go_enter Try.func18, Try.ntmps18
  go_wp2
  exact bodyPost_ret (v := .agg #[.int .u32 4520, .int .u32 27]) (by simp [results, Try.results18, go_sem]) rfl ⟨rfl, (Below.refl _ _).alloc (Nat.le_refl _) _⟩

theorem lead_calls (w : World) : Calls Try.prog 19 #[] w fun e w' => e = .returned (.agg #[.int .u32 4352, .int .u32 19]) ∧ Below w.heap.size w w' := by
  go_enter Try.func19, Try.ntmps19
  go_wp2
  exact bodyPost_ret (v := .agg #[.int .u32 4352, .int .u32 19]) (by simp [results, Try.results19, go_sem]) rfl ⟨rfl, (Below.refl _ _).alloc (Nat.le_refl _) _⟩

theorem vowel_calls (w : World) : Calls Try.prog 20 #[] w fun e w' => e = .returned (.agg #[.int .u32 4449, .int .u32 21]) ∧ Below w.heap.size w w' := by
  go_enter Try.func20, Try.ntmps20
  go_wp2
  exact bodyPost_ret (v := .agg #[.int .u32 4449, .int .u32 21]) (by simp [results, Try.results20, go_sem]) rfl ⟨rfl, (Below.refl _ _).alloc (Nat.le_refl _) _⟩

def hasB (a b c : Int) : Bool := decide ((c - a) % 4294967296 < b)

theorem has_calls (a b c : Int) (w : World) : Calls Try.prog 21 #[.agg #[.int .u32 a, .int .u32 b], .int .u32 c] w fun e w' => e = .returned (.bool (hasB a b c)) ∧ Below w.heap.size w w' := by
  go_enter Try.func21, Try.ntmps21
  go_wp2
  go_ret
  exact ⟨rfl, (Below.refl _ _).alloc (Nat.le_refl _) _⟩

theorem has_case (a b c : Int) (t : Bool) (h : hasB a b c = t) (w : World) : Calls Try.prog 21 #[.agg #[.int .u32 a, .int .u32 b], .int .u32 c] w fun e w' => e = .returned (.bool t) ∧ Below w.heap.size w w' := by
  subst h; exact has_calls a b c w

theorem ixL (w : World) : (Instr.index 41 (.agg #[.int .u32 4352, .int .u32 19]) (.int .i64 0)).run Try.prog w = .ok (.int .u32 4352) w := by kernel_rfl
theorem ixV (w : World) : (Instr.index 41 (.agg #[.int .u32 4449, .int .u32 21]) (.int .i64 0)).run Try.prog w = .ok (.int .u32 4449) w := by kernel_rfl
theorem ixT (w : World) : (Instr.index 41 (.agg #[.int .u32 4520, .int .u32 27]) (.int .i64 0)).run Try.prog w = .ok (.int .u32 4520) w := by kernel_rfl

theorem ret_ui {a a' b b' : Int} (h : a = a') (h' : b = b') : Ending.returned (.tuple #[.int .u32 a, .int .i64 b]) = .returned (.tuple #[.int .u32 a', .int .i64 b']) := by rw [h, h']

def hangul_Put.f (a0 : Int) (a1 : Int) (a2 : Int) : Option (Int × Int) :=
  if hasB 4352 19 a0 = true then
    if hasB 4449 21 a1 = true then
      if a2 = 0 then some ((44032 + ((((((a0 - 4352) % 4294967296 * 21) % 4294967296 + a1) % 4294967296 - 4449) % 4294967296 * 28) % 4294967296)) % 4294967296, 0)
      else if hasB 4520 27 a2 = true then some (((44032 + ((((((a0 - 4352) % 4294967296 * 21) % 4294967296 + a1) % 4294967296 - 4449) % 4294967296 * 28) % 4294967296)) % 4294967296 + ((a2 - 4520) % 4294967296 + 1) % 4294967296) % 4294967296, 0)
      else some (0, 2)
    else some (0, 2)
  else some (0, 2)

theorem hangul_Put.calls (a0 : Int) (a1 : Int) (a2 : Int) (r1 : Int) (r2 : Int) (w : World) (h : hangul_Put.f a0 a1 a2 = some (r1, r2)) :
    Calls Try.prog 14 #[.int .u32 a0, .int .u32 a1, .int .u32 a2] w fun e w' => e = .returned (.tuple #[.int .u32 r1, .int .i64 r2]) ∧ Below w.heap.size w w' := by
  unfold hangul_Put.f at h
  have iL := ixL
  have iV := ixV
  have iT := ixT
  by_cases h0 : hasB 4352 19 a0 = true
  · rw [if_pos h0] at h
    by_cases h1 : hasB 4449 21 a1 = true
    · rw [if_pos h1] at h
      by_cases h2 : a2 = 0
      · rw [if_pos h2] at h
        simp only [Option.some.injEq, Prod.mk.injEq] at h
        obtain ⟨rfl, rfl⟩ := h
        subst h2
        go_enter Try.func14, Try.ntmps14
        go_wp2_with (first | (go_at_call 18; (with_reducible refine (trail_calls _).mono ?_); rintro e w1 ⟨rfl, hb⟩) | (go_at_call 19; (with_reducible refine (lead_calls _).mono ?_); rintro e w1 ⟨rfl, hb⟩) | (go_at_call 20; (with_reducible refine (vowel_calls _).mono ?_); rintro e w1 ⟨rfl, hb⟩) | (go_at_call 21; (with_reducible refine (has_calls _ _ _ _).mono ?_); rintro e w1 ⟨rfl, hb⟩))
        go_ret2
        exact ⟨ret_ui (by first | rfl | omega) rfl, by repeat (first | exact Below.refl _ _ | assumption | refine below_step ?_ (by assumption))⟩
      · rw [if_neg h2] at h
        have h2a : (a2 != 0) = true := bne_iff_ne.mpr h2
        have h2b : (a2 == 0) = false := beq_eq_false_iff_ne.mpr h2
        clear h2
        by_cases h3 : hasB 4520 27 a2 = true
        · rw [if_pos h3] at h
          simp only [Option.some.injEq, Prod.mk.injEq] at h
          obtain ⟨rfl, rfl⟩ := h
          go_enter Try.func14, Try.ntmps14
          go_wp2_with (first | (go_at_call 18; (with_reducible refine (trail_calls _).mono ?_); rintro e w1 ⟨rfl, hb⟩) | (go_at_call 19; (with_reducible refine (lead_calls _).mono ?_); rintro e w1 ⟨rfl, hb⟩) | (go_at_call 20; (with_reducible refine (vowel_calls _).mono ?_); rintro e w1 ⟨rfl, hb⟩) | (go_at_call 21; (with_reducible refine (has_calls _ _ _ _).mono ?_); rintro e w1 ⟨rfl, hb⟩))
          go_ret2
          exact ⟨ret_ui (by first | rfl | omega) rfl, by repeat (first | exact Below.refl _ _ | assumption | refine below_step ?_ (by assumption))⟩
        · rw [if_neg h3] at h
          replace h3 := Bool.eq_false_iff.mpr h3
          simp only [Option.some.injEq, Prod.mk.injEq] at h
          obtain ⟨rfl, rfl⟩ := h
          go_enter Try.func14, Try.ntmps14
          go_wp2_with (first | (go_at_call 18; (with_reducible refine (trail_calls _).mono ?_); rintro e w1 ⟨rfl, hb⟩) | (go_at_call 19; (with_reducible refine (lead_calls _).mono ?_); rintro e w1 ⟨rfl, hb⟩) | (go_at_call 20; (with_reducible refine (vowel_calls _).mono ?_); rintro e w1 ⟨rfl, hb⟩) | (go_at_call 21; (with_reducible refine (has_calls _ _ _ _).mono ?_); rintro e w1 ⟨rfl, hb⟩))
          go_ret2
          exact ⟨ret_ui (by first | rfl | omega) rfl, by repeat (first | exact Below.refl _ _ | assumption | refine below_step ?_ (by assumption))⟩
    · rw [if_neg h1] at h
      replace h1 := Bool.eq_false_iff.mpr h1
      simp only [Option.some.injEq, Prod.mk.injEq] at h
      obtain ⟨rfl, rfl⟩ := h
      go_enter Try.func14, Try.ntmps14
      go_wp2_with (first | (go_at_call 18; (with_reducible refine (trail_calls _).mono ?_); rintro e w1 ⟨rfl, hb⟩) | (go_at_call 19; (with_reducible refine (lead_calls _).mono ?_); rintro e w1 ⟨rfl, hb⟩) | (go_at_call 20; (with_reducible refine (vowel_calls _).mono ?_); rintro e w1 ⟨rfl, hb⟩) | (go_at_call 21; (with_reducible refine (has_calls _ _ _ _).mono ?_); rintro e w1 ⟨rfl, hb⟩))
      go_ret2
      exact ⟨ret_ui (by first | rfl | omega) rfl, by repeat (first | exact Below.refl _ _ | assumption | refine below_step ?_ (by assumption))⟩
  · rw [if_neg h0] at h
    replace h0 := Bool.eq_false_iff.mpr h0
    simp only [Option.some.injEq, Prod.mk.injEq] at h
    obtain ⟨rfl, rfl⟩ := h
    go_enter Try.func14, Try.ntmps14
    go_wp2_with (first | (go_at_call 18; (with_reducible refine (trail_calls _).mono ?_); rintro e w1 ⟨rfl, hb⟩) | (go_at_call 19; (with_reducible refine (lead_calls _).mono ?_); rintro e w1 ⟨rfl, hb⟩) | (go_at_call 20; (with_reducible refine (vowel_calls _).mono ?_); rintro e w1 ⟨rfl, hb⟩) | (go_at_call 21; (with_reducible refine (has_calls _ _ _ _).mono ?_); rintro e w1 ⟨rfl, hb⟩))
    go_ret2
    exact ⟨ret_ui (by first | rfl | omega) rfl, by repeat (first | exact Below.refl _ _ | assumption | refine below_step ?_ (by assumption))⟩

def isB (a : Int) : Bool := decide (44032 ≤ a) && decide (a ≤ 55203)
theorem is_calls (a : Int) (w : World) : Calls Try.prog 11 #[.int .u32 a] w fun e w' => e = .returned (.bool (isB a)) ∧ w = w' := by
  by_cases h0 : 44032 ≤ a
  · have e : isB a = decide (a ≤ 55203) := by simp [isB, h0]
    rw [e]
    have h0b : decide (44032 ≤ a) = true := decide_eq_true h0
    go_enter Try.func11, Try.ntmps11
    go_wp2
    go_ret
    exact ⟨rfl, rfl⟩
  · have e : isB a = false := by simp [isB, h0]
    rw [e]
    have h0b : decide (44032 ≤ a) = false := decide_eq_false h0
    go_enter Try.func11, Try.ntmps11
    go_wp2
    go_ret
    exact ⟨rfl, rfl⟩

theorem results_tmp4 {fn : Func} {t u v x : Tmp} (h : fn.results = #[.tmp t, .tmp u, .tmp v, .tmp x]) (tmps : Array Value) (P : Program) (w : World) :
    (results fn tmps).run P w = .ok (.tuple #[tmps.getD t undef, tmps.getD u undef, tmps.getD v undef, tmps.getD x undef]) w := by
  simp [results, h]

def hangul_Split.f (a0 : Int) : Option (Int × Int × Int × Bool) :=
  if isB a0 = true then
    if (a0 - 44032) % 28 = 0 then some (4352 + (a0 - 44032) / 28 / 21, 4449 + (a0 - 44032) / 28 % 21, 0, true)
    else some (4352 + (a0 - 44032) / 28 / 21, 4449 + (a0 - 44032) / 28 % 21, 4519 + (a0 - 44032) % 28, true)
  else some (0, 0, 0, false)

theorem ret_uuub {a a' b b' c c' : Int} {d d' : Bool} (h : a = a') (h1 : b = b') (h2 : c = c') (h3 : d = d') : Ending.returned (.tuple #[.int .u32 a, .int .u32 b, .int .u32 c, .bool d]) = .returned (.tuple #[.int .u32 a', .int .u32 b', .int .u32 c', .bool d']) := by rw [h, h1, h2, h3]

theorem hangul_Split.calls (a0 : Int) (r1 : Int) (r2 : Int) (r3 : Int) (r4 : Bool) (w : World) (h : hangul_Split.f a0 = some (r1, r2, r3, r4)) :
    Calls Try.prog 9 #[.int .u32 a0] w fun e w' => e = .returned (.tuple #[.int .u32 r1, .int .u32 r2, .int .u32 r3, .bool r4]) ∧ Below w.heap.size w w' := by
  unfold hangul_Split.f at h
  have iL := ixL
  have iV := ixV
  have iT := ixT
  by_cases h0 : isB a0 = true
  · rw [if_pos h0] at h
    have hlo : 44032 ≤ a0 := by simp [isB] at h0; omega
    have hhi : a0 ≤ 55203 := by simp [isB] at h0; omega
    by_cases h1 : (a0 - 44032) % 28 = 0
    · rw [if_pos h1] at h
      simp only [Option.some.injEq, Prod.mk.injEq] at h
      obtain ⟨rfl, rfl, rfl, rfl⟩ := h
      have h1b : decide (0 < (a0 - 44032) % 28) = false := decide_eq_false (by omega)
      clear h1
      go_enter Try.func9, Try.ntmps9
      go_wp2_with (first | (go_at_call 18; (with_reducible refine (trail_calls _).mono ?_); rintro e w1 ⟨rfl, hb⟩) | (go_at_call 19; (with_reducible refine (lead_calls _).mono ?_); rintro e w1 ⟨rfl, hb⟩) | (go_at_call 20; (with_reducible refine (vowel_calls _).mono ?_); rintro e w1 ⟨rfl, hb⟩) | (go_at_call 21; (with_reducible refine (has_calls _ _ _ _).mono ?_); rintro e w1 ⟨rfl, hb⟩) | (go_at_call 11; (with_reducible refine (is_calls _ _).mono ?_); rintro e w1 ⟨rfl, rfl⟩))
      refine bodyPost_ret (results_tmp4 rfl _ _ _) rfl ?_; refine ⟨ret_uuub (by first | rfl | omega) (by first | rfl | omega) (by first | rfl | omega) rfl, ?_⟩
      repeat (first | exact Below.refl _ _ | assumption | refine below_step ?_ (by assumption))
    · rw [if_neg h1] at h
      simp only [Option.some.injEq, Prod.mk.injEq] at h
      obtain ⟨rfl, rfl, rfl, rfl⟩ := h
      have h1b : decide (0 < (a0 - 44032) % 28) = true := decide_eq_true (by omega)
      clear h1
      go_enter Try.func9, Try.ntmps9
      go_wp2_with (first | (go_at_call 18; (with_reducible refine (trail_calls _).mono ?_); rintro e w1 ⟨rfl, hb⟩) | (go_at_call 19; (with_reducible refine (lead_calls _).mono ?_); rintro e w1 ⟨rfl, hb⟩) | (go_at_call 20; (with_reducible refine (vowel_calls _).mono ?_); rintro e w1 ⟨rfl, hb⟩) | (go_at_call 21; (with_reducible refine (has_calls _ _ _ _).mono ?_); rintro e w1 ⟨rfl, hb⟩) | (go_at_call 11; (with_reducible refine (is_calls _ _).mono ?_); rintro e w1 ⟨rfl, rfl⟩))
      refine bodyPost_ret (results_tmp4 rfl _ _ _) rfl ?_; refine ⟨ret_uuub (by first | rfl | omega) (by first | rfl | omega) (by first | rfl | omega) rfl, ?_⟩
      repeat (first | exact Below.refl _ _ | assumption | refine below_step ?_ (by assumption))
  · rw [if_neg h0] at h
    replace h0 := Bool.eq_false_iff.mpr h0
    simp only [Option.some.injEq, Prod.mk.injEq] at h
    obtain ⟨rfl, rfl, rfl, rfl⟩ := h
    go_enter Try.func9, Try.ntmps9
    go_wp2_with (first | (go_at_call 18; (with_reducible refine (trail_calls _).mono ?_); rintro e w1 ⟨rfl, hb⟩) | (go_at_call 19; (with_reducible refine (lead_calls _).mono ?_); rintro e w1 ⟨rfl, hb⟩) | (go_at_call 20; (with_reducible refine (vowel_calls _).mono ?_); rintro e w1 ⟨rfl, hb⟩) | (go_at_call 21; (with_reducible refine (has_calls _ _ _ _).mono ?_); rintro e w1 ⟨rfl, hb⟩) | (go_at_call 11; (with_reducible refine (is_calls _ _).mono ?_); rintro e w1 ⟨rfl, rfl⟩))
    refine bodyPost_ret (results_tmp4 rfl _ _ _) rfl ?_; refine ⟨ret_uuub (by first | rfl | omega) (by first | rfl | omega) (by first | rfl | omega) rfl, ?_⟩
    repeat (first | exact Below.refl _ _ | assumption | refine below_step ?_ (by assumption))

def hangul_Join.f (a0 a1 : Int) : Option (Int × Bool) :=
  (hangul_Put.f a0 a1 0).bind fun p =>
    if p.2 = 0 then some (p.1, true)
    else if isB a0 = true then
      if (a0 - 44032) % 28 = 0 then
        if hasB 4520 27 a1 = true then some ((((a0 + a1) % 4294967296 - 4520) % 4294967296 + 1) % 4294967296, true)
        else some (0, false)
      else some (0, false)
    else some (0, false)

theorem ret_ub {a a' : Int} {d d' : Bool} (h : a = a') (h3 : d = d') : Ending.returned (.tuple #[.int .u32 a, .bool d]) = .returned (.tuple #[.int .u32 a', .bool d']) := by rw [h, h3]

theorem hangul_Join.calls (a0 : Int) (a1 : Int) (r1 : Int) (r2 : Bool) (w : World) (h : hangul_Join.f a0 a1 = some (r1, r2)) :
    Calls Try.prog 16 #[.int .u32 a0, .int .u32 a1] w fun e w' => e = .returned (.tuple #[.int .u32 r1, .bool r2]) ∧ Below w.heap.size w w' := by
  unfold hangul_Join.f at h
  have iT := ixT
  obtain ⟨⟨c, e⟩, hp, h⟩ := Option.bind_eq_some_iff.mp h
  have HP := fun w => hangul_Put.calls a0 a1 0 c e w hp
  clear hp
  simp only at h
  by_cases h0 : e = 0
  · rw [if_pos h0] at h
    have h0b : (e == 0) = true := beq_iff_eq.mpr h0
    clear h0
    simp only [Option.some.injEq, Prod.mk.injEq] at h
    obtain ⟨rfl, rfl⟩ := h
    go_enter Try.func16, Try.ntmps16
    go_wp2_with (first | (go_at_call 18; (with_reducible refine (trail_calls _).mono ?_); rintro e w1 ⟨rfl, hb⟩) | (go_at_call 19; (with_reducible refine (lead_calls _).mono ?_); rintro e w1 ⟨rfl, hb⟩) | (go_at_call 20; (with_reducible refine (vowel_calls _).mono ?_); rintro e w1 ⟨rfl, hb⟩) | (go_at_call 21; (with_reducible refine (has_calls _ _ _ _).mono ?_); rintro e w1 ⟨rfl, hb⟩) | (go_at_call 11; (with_reducible refine (is_calls _ _).mono ?_); rintro e w1 ⟨rfl, rfl⟩) | (go_at_call 14; (with_reducible refine (HP _).mono ?_); rintro e w1 ⟨rfl, hb⟩))
    go_ret2
    exact ⟨ret_ub (by first | rfl | omega) rfl, by repeat (first | exact Below.refl _ _ | assumption | refine below_step ?_ (by assumption))⟩
  · rw [if_neg h0] at h
    have h0b : (e == 0) = false := beq_eq_false_iff_ne.mpr h0
    clear h0
    by_cases h1 : isB a0 = true
    · rw [if_pos h1] at h
      have hlo : 44032 ≤ a0 := by simp [isB] at h1; omega
      have hhi : a0 ≤ 55203 := by simp [isB] at h1; omega
      by_cases h2 : (a0 - 44032) % 28 = 0
      · rw [if_pos h2] at h
        have h2b : ((a0 - 44032) % 28 == 0) = true := beq_iff_eq.mpr h2
        clear h2
        by_cases h3 : hasB 4520 27 a1 = true
        · rw [if_pos h3] at h
          simp only [Option.some.injEq, Prod.mk.injEq] at h
          obtain ⟨rfl, rfl⟩ := h
          go_enter Try.func16, Try.ntmps16
          go_wp2_with (first | (go_at_call 18; (with_reducible refine (trail_calls _).mono ?_); rintro e w1 ⟨rfl, hb⟩) | (go_at_call 19; (with_reducible refine (lead_calls _).mono ?_); rintro e w1 ⟨rfl, hb⟩) | (go_at_call 20; (with_reducible refine (vowel_calls _).mono ?_); rintro e w1 ⟨rfl, hb⟩) | (go_at_call 21; (with_reducible refine (has_calls _ _ _ _).mono ?_); rintro e w1 ⟨rfl, hb⟩) | (go_at_call 11; (with_reducible refine (is_calls _ _).mono ?_); rintro e w1 ⟨rfl, rfl⟩) | (go_at_call 14; (with_reducible refine (HP _).mono ?_); rintro e w1 ⟨rfl, hb⟩))
          go_ret2
          exact ⟨ret_ub (by first | rfl | omega) rfl, by repeat (first | exact Below.refl _ _ | assumption | refine below_step ?_ (by assumption))⟩
        · rw [if_neg h3] at h
          replace h3 := Bool.eq_false_iff.mpr h3
          simp only [Option.some.injEq, Prod.mk.injEq] at h
          obtain ⟨rfl, rfl⟩ := h
          go_enter Try.func16, Try.ntmps16
          go_wp2_with (first | (go_at_call 18; (with_reducible refine (trail_calls _).mono ?_); rintro e w1 ⟨rfl, hb⟩) | (go_at_call 19; (with_reducible refine (lead_calls _).mono ?_); rintro e w1 ⟨rfl, hb⟩) | (go_at_call 20; (with_reducible refine (vowel_calls _).mono ?_); rintro e w1 ⟨rfl, hb⟩) | (go_at_call 21; (with_reducible refine (has_calls _ _ _ _).mono ?_); rintro e w1 ⟨rfl, hb⟩) | (go_at_call 11; (with_reducible refine (is_calls _ _).mono ?_); rintro e w1 ⟨rfl, rfl⟩) | (go_at_call 14; (with_reducible refine (HP _).mono ?_); rintro e w1 ⟨rfl, hb⟩))
          go_ret2
          exact ⟨ret_ub (by first | rfl | omega) rfl, by repeat (first | exact Below.refl _ _ | assumption | refine below_step ?_ (by assumption))⟩
      · rw [if_neg h2] at h
        have h2b : ((a0 - 44032) % 28 == 0) = false := beq_eq_false_iff_ne.mpr h2
        clear h2
        simp only [Option.some.injEq, Prod.mk.injEq] at h
        obtain ⟨rfl, rfl⟩ := h
        go_enter Try.func16, Try.ntmps16
        go_wp2_with (first | (go_at_call 18; (with_reducible refine (trail_calls _).mono ?_); rintro e w1 ⟨rfl, hb⟩) | (go_at_call 19; (with_reducible refine (lead_calls _).mono ?_); rintro e w1 ⟨rfl, hb⟩) | (go_at_call 20; (with_reducible refine (vowel_calls _).mono ?_); rintro e w1 ⟨rfl, hb⟩) | (go_at_call 21; (with_reducible refine (has_calls _ _ _ _).mono ?_); rintro e w1 ⟨rfl, hb⟩) | (go_at_call 11; (with_reducible refine (is_calls _ _).mono ?_); rintro e w1 ⟨rfl, rfl⟩) | (go_at_call 14; (with_reducible refine (HP _).mono ?_); rintro e w1 ⟨rfl, hb⟩))
        go_ret2
        exact ⟨ret_ub (by first | rfl | omega) rfl, by repeat (first | exact Below.refl _ _ | assumption | refine below_step ?_ (by assumption))⟩
    · rw [if_neg h1] at h
      replace h1 := Bool.eq_false_iff.mpr h1
      simp only [Option.some.injEq, Prod.mk.injEq] at h
      obtain ⟨rfl, rfl⟩ := h
      go_enter Try.func16, Try.ntmps16
      go_wp2_with (first | (go_at_call 18; (with_reducible refine (trail_calls _).mono ?_); rintro e w1 ⟨rfl, hb⟩) | (go_at_call 19; (with_reducible refine (lead_calls _).mono ?_); rintro e w1 ⟨rfl, hb⟩) | (go_at_call 20; (with_reducible refine (vowel_calls _).mono ?_); rintro e w1 ⟨rfl, hb⟩) | (go_at_call 21; (with_reducible refine (has_calls _ _ _ _).mono ?_); rintro e w1 ⟨rfl, hb⟩) | (go_at_call 11; (with_reducible refine (is_calls _ _).mono ?_); rintro e w1 ⟨rfl, rfl⟩) | (go_at_call 14; (with_reducible refine (HP _).mono ?_); rintro e w1 ⟨rfl, hb⟩))
      go_ret2
      exact ⟨ret_ub (by first | rfl | omega) rfl, by repeat (first | exact Below.refl _ _ | assumption | refine below_step ?_ (by assumption))⟩

def gessoref04_Split.f (a0 : Int) : Option (Int × Int × Int × Bool) :=
  if 44032 ≤ a0 then
    if a0 ≤ 55203 then
      if (a0 - 44032) % 28 = 0 then some (4352 + (a0 - 44032) / 28 / 21, 4449 + (a0 - 44032) / 28 % 21, 0, true)
      else some (4352 + (a0 - 44032) / 28 / 21, 4449 + (a0 - 44032) / 28 % 21, 4519 + (a0 - 44032) % 28, true)
    else some (0, 0, 0, false)
  else some (0, 0, 0, false)

theorem gessoref04_Split.calls (a0 : Int) (r1 : Int) (r2 : Int) (r3 : Int) (r4 : Bool) (w : World) (h : gessoref04_Split.f a0 = some (r1, r2, r3, r4)) :
    Calls Try.prog 10 #[.int .u32 a0] w fun e w' => e = .returned (.tuple #[.int .u32 r1, .int .u32 r2, .int .u32 r3, .bool r4]) ∧ Drawn0 w w' := by
  unfold gessoref04_Split.f at h
  by_cases h0 : 44032 ≤ a0
  · rw [if_pos h0] at h
    have h0b : decide (44032 ≤ a0) = true := decide_eq_true h0
    by_cases h1 : a0 ≤ 55203
    · rw [if_pos h1] at h
      have h1b : decide (a0 ≤ 55203) = true := decide_eq_true h1
      by_cases h2 : (a0 - 44032) % 28 = 0
      · rw [if_pos h2] at h
        have h2b : ((a0 - 44032) % 28 != 0) = false := bne_eq_false_iff_eq.mpr h2
        simp only [Option.some.injEq, Prod.mk.injEq] at h
        obtain ⟨rfl, rfl, rfl, rfl⟩ := h
        have H2 := Aside0.mk h2
        clear h2
        go_enter Try.func10, Try.ntmps10
        go_wp2
        have h2 := H2.out
        refine bodyPost_ret (results_tmp4 rfl _ _ _) rfl ?_; exact ⟨ret_uuub (by first | rfl | omega) (by first | rfl | omega) (by first | rfl | omega) rfl, Drawn0.refl _⟩
      · rw [if_neg h2] at h
        have h2b : ((a0 - 44032) % 28 != 0) = true := bne_iff_ne.mpr h2
        clear h2
        simp only [Option.some.injEq, Prod.mk.injEq] at h
        obtain ⟨rfl, rfl, rfl, rfl⟩ := h
        go_enter Try.func10, Try.ntmps10
        go_wp2
        refine bodyPost_ret (results_tmp4 rfl _ _ _) rfl ?_; exact ⟨ret_uuub (by first | rfl | omega) (by first | rfl | omega) (by first | rfl | omega) rfl, Drawn0.refl _⟩
    · rw [if_neg h1] at h
      have h1b : decide (a0 ≤ 55203) = false := decide_eq_false h1
      clear h1
      simp only [Option.some.injEq, Prod.mk.injEq] at h
      obtain ⟨rfl, rfl, rfl, rfl⟩ := h
      go_enter Try.func10, Try.ntmps10
      go_wp2
      refine bodyPost_ret (results_tmp4 rfl _ _ _) rfl ?_; exact ⟨ret_uuub (by first | rfl | omega) (by first | rfl | omega) (by first | rfl | omega) rfl, Drawn0.refl _⟩
  · rw [if_neg h0] at h
    have h0b : decide (44032 ≤ a0) = false := decide_eq_false h0
    clear h0
    simp only [Option.some.injEq, Prod.mk.injEq] at h
    obtain ⟨rfl, rfl, rfl, rfl⟩ := h
    go_enter Try.func10, Try.ntmps10
    go_wp2
    refine bodyPost_ret (results_tmp4 rfl _ _ _) rfl ?_; exact ⟨ret_uuub (by first | rfl | omega) (by first | rfl | omega) (by first | rfl | omega) rfl, Drawn0.refl _⟩

end Go.Proofs.Ytmhehgkpbkoomaa.P
