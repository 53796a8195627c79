/- The walk of HangulBack: whatever the numbers, the call returns true and leaves all memory as it was. No condition. -/
import Derived.Test.YtmhehgkpbkoomaaM
import Derived.BigQuiet
import Derived.Deep.QuietTactic
namespace Go.Proofs.Ytmhehgkpbkoomaa.P
open Go.RowKit Go.Proofs.Ytmhehgkpbkoomaa.Pure Go.Proofs.YtmhehgkpbkoomaaW.PrintWords Go.Proofs.YtmhehgkpbkoomaaW.PrintLast Go.Proofs.YtmhehgkpbkoomaaW.PrintMore
set_option linter.unusedVariables false
set_option linter.unusedSimpArgs false

/-- The two calls with the three numbers: put and split again. -/
def BackD (l v t d e : Int) (s : Bool) : Prop := hangul_Put.f l v t = some (d, e) ∧ ((e = 0 ∧ s = true ∧ hangul_Split.f d = some (l, v, t, true)) ∨ (e = 2 ∧ s = false ∧ d = 0 ∧ hangul_Split.f d = some (0, 0, 0, false)))

theorem backD (l v t : Int) (hl : 0 ≤ l ∧ l ≤ 4294967295) (hv : 0 ≤ v ∧ v ≤ 4294967295) (ht : 0 ≤ t ∧ t ≤ 4294967295) : ∃ d e s, BackD l v t d e s := by
  by_cases h : (4352 ≤ l ∧ l < 4371) ∧ (4449 ≤ v ∧ v < 4470) ∧ (t = 0 ∨ (4520 ≤ t ∧ t < 4547))
  · refine ⟨44032 + ((l - 4352) * 21 + (v - 4449)) * 28 + (if t = 0 then 0 else t - 4519), 0, true, ?_, .inl ⟨rfl, rfl, ?_⟩⟩
    · rw [put_eq l v t hl hv ht, if_pos h]
    · rw [split_yes _ (by omega)]
      simp only [Option.some.injEq, Prod.mk.injEq, and_true]
      refine ⟨by omega, by omega, by omega⟩
  · refine ⟨0, 2, false, ?_, .inr ⟨rfl, rfl, rfl, split_no 0 (by omega)⟩⟩
    rw [put_eq l v t hl hv ht, if_neg h]

/-- The calls with the syllable's parts. -/
theorem backC (c : Int) (h : 44032 ≤ c ∧ c ≤ 55203) : ∃ x y z f, hangul_Split.f c = some (x, y, z, true) ∧ hangul_Put.f x y z = some (c, 0) ∧ hangul_Join.f x y = some (f, true) ∧ ((z = 0 ∧ f = c) ∨ (z ≠ 0 ∧ hangul_Join.f f z = some (c, true))) := by
  refine ⟨4352 + (c - 44032) / 28 / 21, 4449 + (c - 44032) / 28 % 21, if (c - 44032) % 28 = 0 then 0 else 4519 + (c - 44032) % 28, 44032 + (c - 44032) / 28 * 28, split_yes c h, ?_, ?_, ?_⟩
  · rw [put_eq _ _ _ (by omega) (by omega) (by omega), if_pos ⟨by omega, by omega, by omega⟩]
    simp only [Option.some.injEq, Prod.mk.injEq, and_true]
    omega
  · rw [join_eq _ _ (by omega) (by omega), if_pos ⟨by omega, by omega⟩]
    simp only [Option.some.injEq, Prod.mk.injEq, and_true]
    omega
  · by_cases h0 : (c - 44032) % 28 = 0
    · rw [if_pos h0]; exact .inl ⟨rfl, by omega⟩
    · rw [if_neg h0]
      refine .inr ⟨by omega, ?_⟩
      rw [join_eq _ _ (by omega) (by omega), if_neg (by omega), if_pos ⟨by omega, by omega, by omega⟩]
      simp only [Option.some.injEq, Prod.mk.injEq, and_true]
      omega

set_option maxHeartbeats 2000000 in
theorem back_no_yes (c l v t d e : Int) (w : World)
    (HA : ∀ w, Calls Try.prog 13 #[] w fun e w' => e = .returned (.bool true) ∧ Below w.heap.size w w')
    (HI : ∀ w, Calls Try.prog 11 #[.int .u32 c] w fun e w' => e = .returned (.bool false) ∧ w = w')
    (HSc : ∀ w, Calls Try.prog 9 #[.int .u32 c] w fun e w' => e = .returned (.tuple #[.int .u32 0, .int .u32 0, .int .u32 0, .bool false]) ∧ Below w.heap.size w w')
    (HPd : ∀ w, Calls Try.prog 14 #[.int .u32 l, .int .u32 v, .int .u32 t] w fun e w' => e = .returned (.tuple #[.int .u32 d, .int .i64 0]) ∧ Below w.heap.size w w')
    (HSd : ∀ w, Calls Try.prog 9 #[.int .u32 d] w fun e w' => e = .returned (.tuple #[.int .u32 l, .int .u32 v, .int .u32 t, .bool true]) ∧ Below w.heap.size w w') :
    Calls Try.prog 6 #[.int .u32 c, .agg #[.int .u32 l, .int .u32 v, .int .u32 t]] w fun e w' => e = .returned (.bool true) ∧ Below w.heap.size w w' := by
  go_enter Try.func6, Try.ntmps6
  go_wp2_with (fail)
  go_quiet (fail)
  go_wp2_with (first | (go_at_call 9; (with_reducible refine (HSc _).mono ?_); rintro e w1 ⟨rfl, hb⟩) | (go_at_call 9; (with_reducible refine (HSd _).mono ?_); rintro e w1 ⟨rfl, hb⟩) | (go_at_call 14; (with_reducible refine (HPc _).mono ?_); rintro e w1 ⟨rfl, hb⟩) | (go_at_call 14; (with_reducible refine (HPd _).mono ?_); rintro e w1 ⟨rfl, hb⟩) | (go_at_call 16; (with_reducible refine (HJ1 _).mono ?_); rintro e w1 ⟨rfl, hb⟩) | (go_at_call 16; (with_reducible refine (HJ2 _).mono ?_); rintro e w1 ⟨rfl, hb⟩) | (go_at_call 11; (with_reducible refine (HI _).mono ?_); rintro e w1 ⟨rfl, rfl⟩) | (go_at_call 13; (with_reducible refine (HA _).mono ?_); rintro e w1 ⟨rfl, hb⟩))
  go_ret
  exact ⟨rfl, by repeat (first | exact Below.refl _ _ | assumption | apply below_alloc | apply pw_below_drewN | refine below_step ?_ (by assumption))⟩

set_option maxHeartbeats 2000000 in
theorem back_z_yes (c l v t d e : Int) (x y : Int) (w : World)
    (HA : ∀ w, Calls Try.prog 13 #[] w fun e w' => e = .returned (.bool true) ∧ Below w.heap.size w w')
    (HI : ∀ w, Calls Try.prog 11 #[.int .u32 c] w fun e w' => e = .returned (.bool true) ∧ w = w')
    (HSc : ∀ w, Calls Try.prog 9 #[.int .u32 c] w fun e w' => e = .returned (.tuple #[.int .u32 x, .int .u32 y, .int .u32 0, .bool true]) ∧ Below w.heap.size w w')
    (HPc : ∀ w, Calls Try.prog 14 #[.int .u32 x, .int .u32 y, .int .u32 0] w fun e w' => e = .returned (.tuple #[.int .u32 c, .int .i64 0]) ∧ Below w.heap.size w w')
    (HJ1 : ∀ w, Calls Try.prog 16 #[.int .u32 x, .int .u32 y] w fun e w' => e = .returned (.tuple #[.int .u32 c, .bool true]) ∧ Below w.heap.size w w')
    (HPd : ∀ w, Calls Try.prog 14 #[.int .u32 l, .int .u32 v, .int .u32 t] w fun e w' => e = .returned (.tuple #[.int .u32 d, .int .i64 0]) ∧ Below w.heap.size w w')
    (HSd : ∀ w, Calls Try.prog 9 #[.int .u32 d] w fun e w' => e = .returned (.tuple #[.int .u32 l, .int .u32 v, .int .u32 t, .bool true]) ∧ Below w.heap.size w w') :
    Calls Try.prog 6 #[.int .u32 c, .agg #[.int .u32 l, .int .u32 v, .int .u32 t]] w fun e w' => e = .returned (.bool true) ∧ Below w.heap.size w w' := by
  go_enter Try.func6, Try.ntmps6
  go_wp2_with (fail)
  go_quiet (fail)
  go_wp2_with (first | (go_at_call 9; (with_reducible refine (HSc _).mono ?_); rintro e w1 ⟨rfl, hb⟩) | (go_at_call 9; (with_reducible refine (HSd _).mono ?_); rintro e w1 ⟨rfl, hb⟩) | (go_at_call 14; (with_reducible refine (HPc _).mono ?_); rintro e w1 ⟨rfl, hb⟩) | (go_at_call 14; (with_reducible refine (HPd _).mono ?_); rintro e w1 ⟨rfl, hb⟩) | (go_at_call 16; (with_reducible refine (HJ1 _).mono ?_); rintro e w1 ⟨rfl, hb⟩) | (go_at_call 16; (with_reducible refine (HJ2 _).mono ?_); rintro e w1 ⟨rfl, hb⟩) | (go_at_call 11; (with_reducible refine (HI _).mono ?_); rintro e w1 ⟨rfl, rfl⟩) | (go_at_call 13; (with_reducible refine (HA _).mono ?_); rintro e w1 ⟨rfl, hb⟩))
  go_ret
  exact ⟨rfl, by repeat (first | exact Below.refl _ _ | assumption | apply below_alloc | apply pw_below_drewN | refine below_step ?_ (by assumption))⟩

set_option maxHeartbeats 2000000 in
theorem back_t_yes (c l v t d e : Int) (x y z f : Int) (hz : (z != 0) = true) (w : World)
    (HA : ∀ w, Calls Try.prog 13 #[] w fun e w' => e = .returned (.bool true) ∧ Below w.heap.size w w')
    (HI : ∀ w, Calls Try.prog 11 #[.int .u32 c] w fun e w' => e = .returned (.bool true) ∧ w = w')
    (HSc : ∀ w, Calls Try.prog 9 #[.int .u32 c] w fun e w' => e = .returned (.tuple #[.int .u32 x, .int .u32 y, .int .u32 z, .bool true]) ∧ Below w.heap.size w w')
    (HPc : ∀ w, Calls Try.prog 14 #[.int .u32 x, .int .u32 y, .int .u32 z] w fun e w' => e = .returned (.tuple #[.int .u32 c, .int .i64 0]) ∧ Below w.heap.size w w')
    (HJ1 : ∀ w, Calls Try.prog 16 #[.int .u32 x, .int .u32 y] w fun e w' => e = .returned (.tuple #[.int .u32 f, .bool true]) ∧ Below w.heap.size w w')
    (HJ2 : ∀ w, Calls Try.prog 16 #[.int .u32 f, .int .u32 z] w fun e w' => e = .returned (.tuple #[.int .u32 c, .bool true]) ∧ Below w.heap.size w w')
    (HPd : ∀ w, Calls Try.prog 14 #[.int .u32 l, .int .u32 v, .int .u32 t] w fun e w' => e = .returned (.tuple #[.int .u32 d, .int .i64 0]) ∧ Below w.heap.size w w')
    (HSd : ∀ w, Calls Try.prog 9 #[.int .u32 d] w fun e w' => e = .returned (.tuple #[.int .u32 l, .int .u32 v, .int .u32 t, .bool true]) ∧ Below w.heap.size w w') :
    Calls Try.prog 6 #[.int .u32 c, .agg #[.int .u32 l, .int .u32 v, .int .u32 t]] w fun e w' => e = .returned (.bool true) ∧ Below w.heap.size w w' := by
  go_enter Try.func6, Try.ntmps6
  go_wp2_with (fail)
  go_quiet (fail)
  go_wp2_with (first | (go_at_call 9; (with_reducible refine (HSc _).mono ?_); rintro e w1 ⟨rfl, hb⟩) | (go_at_call 9; (with_reducible refine (HSd _).mono ?_); rintro e w1 ⟨rfl, hb⟩) | (go_at_call 14; (with_reducible refine (HPc _).mono ?_); rintro e w1 ⟨rfl, hb⟩) | (go_at_call 14; (with_reducible refine (HPd _).mono ?_); rintro e w1 ⟨rfl, hb⟩) | (go_at_call 16; (with_reducible refine (HJ1 _).mono ?_); rintro e w1 ⟨rfl, hb⟩) | (go_at_call 16; (with_reducible refine (HJ2 _).mono ?_); rintro e w1 ⟨rfl, hb⟩) | (go_at_call 11; (with_reducible refine (HI _).mono ?_); rintro e w1 ⟨rfl, rfl⟩) | (go_at_call 13; (with_reducible refine (HA _).mono ?_); rintro e w1 ⟨rfl, hb⟩))
  go_ret
  exact ⟨rfl, by repeat (first | exact Below.refl _ _ | assumption | apply below_alloc | apply pw_below_drewN | refine below_step ?_ (by assumption))⟩

set_option maxHeartbeats 2000000 in
theorem back_no_no (c l v t d e : Int) (w : World)
    (HA : ∀ w, Calls Try.prog 13 #[] w fun e w' => e = .returned (.bool true) ∧ Below w.heap.size w w')
    (HI : ∀ w, Calls Try.prog 11 #[.int .u32 c] w fun e w' => e = .returned (.bool false) ∧ w = w')
    (HSc : ∀ w, Calls Try.prog 9 #[.int .u32 c] w fun e w' => e = .returned (.tuple #[.int .u32 0, .int .u32 0, .int .u32 0, .bool false]) ∧ Below w.heap.size w w')
    (HPd : ∀ w, Calls Try.prog 14 #[.int .u32 l, .int .u32 v, .int .u32 t] w fun e w' => e = .returned (.tuple #[.int .u32 0, .int .i64 2]) ∧ Below w.heap.size w w')
    (HSd : ∀ w, Calls Try.prog 9 #[.int .u32 0] w fun e w' => e = .returned (.tuple #[.int .u32 0, .int .u32 0, .int .u32 0, .bool false]) ∧ Below w.heap.size w w') :
    Calls Try.prog 6 #[.int .u32 c, .agg #[.int .u32 l, .int .u32 v, .int .u32 t]] w fun e w' => e = .returned (.bool true) ∧ Below w.heap.size w w' := by
  go_enter Try.func6, Try.ntmps6
  go_wp2_with (fail)
  go_quiet (fail)
  go_wp2_with (first | (go_at_call 9; (with_reducible refine (HSc _).mono ?_); rintro e w1 ⟨rfl, hb⟩) | (go_at_call 9; (with_reducible refine (HSd _).mono ?_); rintro e w1 ⟨rfl, hb⟩) | (go_at_call 14; (with_reducible refine (HPc _).mono ?_); rintro e w1 ⟨rfl, hb⟩) | (go_at_call 14; (with_reducible refine (HPd _).mono ?_); rintro e w1 ⟨rfl, hb⟩) | (go_at_call 16; (with_reducible refine (HJ1 _).mono ?_); rintro e w1 ⟨rfl, hb⟩) | (go_at_call 16; (with_reducible refine (HJ2 _).mono ?_); rintro e w1 ⟨rfl, hb⟩) | (go_at_call 11; (with_reducible refine (HI _).mono ?_); rintro e w1 ⟨rfl, rfl⟩) | (go_at_call 13; (with_reducible refine (HA _).mono ?_); rintro e w1 ⟨rfl, hb⟩))
  go_ret
  exact ⟨rfl, by repeat (first | exact Below.refl _ _ | assumption | apply below_alloc | apply pw_below_drewN | refine below_step ?_ (by assumption))⟩

set_option maxHeartbeats 2000000 in
theorem back_z_no (c l v t d e : Int) (x y : Int) (w : World)
    (HA : ∀ w, Calls Try.prog 13 #[] w fun e w' => e = .returned (.bool true) ∧ Below w.heap.size w w')
    (HI : ∀ w, Calls Try.prog 11 #[.int .u32 c] w fun e w' => e = .returned (.bool true) ∧ w = w')
    (HSc : ∀ w, Calls Try.prog 9 #[.int .u32 c] w fun e w' => e = .returned (.tuple #[.int .u32 x, .int .u32 y, .int .u32 0, .bool true]) ∧ Below w.heap.size w w')
    (HPc : ∀ w, Calls Try.prog 14 #[.int .u32 x, .int .u32 y, .int .u32 0] w fun e w' => e = .returned (.tuple #[.int .u32 c, .int .i64 0]) ∧ Below w.heap.size w w')
    (HJ1 : ∀ w, Calls Try.prog 16 #[.int .u32 x, .int .u32 y] w fun e w' => e = .returned (.tuple #[.int .u32 c, .bool true]) ∧ Below w.heap.size w w')
    (HPd : ∀ w, Calls Try.prog 14 #[.int .u32 l, .int .u32 v, .int .u32 t] w fun e w' => e = .returned (.tuple #[.int .u32 0, .int .i64 2]) ∧ Below w.heap.size w w')
    (HSd : ∀ w, Calls Try.prog 9 #[.int .u32 0] w fun e w' => e = .returned (.tuple #[.int .u32 0, .int .u32 0, .int .u32 0, .bool false]) ∧ Below w.heap.size w w') :
    Calls Try.prog 6 #[.int .u32 c, .agg #[.int .u32 l, .int .u32 v, .int .u32 t]] w fun e w' => e = .returned (.bool true) ∧ Below w.heap.size w w' := by
  go_enter Try.func6, Try.ntmps6
  go_wp2_with (fail)
  go_quiet (fail)
  go_wp2_with (first | (go_at_call 9; (with_reducible refine (HSc _).mono ?_); rintro e w1 ⟨rfl, hb⟩) | (go_at_call 9; (with_reducible refine (HSd _).mono ?_); rintro e w1 ⟨rfl, hb⟩) | (go_at_call 14; (with_reducible refine (HPc _).mono ?_); rintro e w1 ⟨rfl, hb⟩) | (go_at_call 14; (with_reducible refine (HPd _).mono ?_); rintro e w1 ⟨rfl, hb⟩) | (go_at_call 16; (with_reducible refine (HJ1 _).mono ?_); rintro e w1 ⟨rfl, hb⟩) | (go_at_call 16; (with_reducible refine (HJ2 _).mono ?_); rintro e w1 ⟨rfl, hb⟩) | (go_at_call 11; (with_reducible refine (HI _).mono ?_); rintro e w1 ⟨rfl, rfl⟩) | (go_at_call 13; (with_reducible refine (HA _).mono ?_); rintro e w1 ⟨rfl, hb⟩))
  go_ret
  exact ⟨rfl, by repeat (first | exact Below.refl _ _ | assumption | apply below_alloc | apply pw_below_drewN | refine below_step ?_ (by assumption))⟩

set_option maxHeartbeats 2000000 in
theorem back_t_no (c l v t d e : Int) (x y z f : Int) (hz : (z != 0) = true) (w : World)
    (HA : ∀ w, Calls Try.prog 13 #[] w fun e w' => e = .returned (.bool true) ∧ Below w.heap.size w w')
    (HI : ∀ w, Calls Try.prog 11 #[.int .u32 c] w fun e w' => e = .returned (.bool true) ∧ w = w')
    (HSc : ∀ w, Calls Try.prog 9 #[.int .u32 c] w fun e w' => e = .returned (.tuple #[.int .u32 x, .int .u32 y, .int .u32 z, .bool true]) ∧ Below w.heap.size w w')
    (HPc : ∀ w, Calls Try.prog 14 #[.int .u32 x, .int .u32 y, .int .u32 z] w fun e w' => e = .returned (.tuple #[.int .u32 c, .int .i64 0]) ∧ Below w.heap.size w w')
    (HJ1 : ∀ w, Calls Try.prog 16 #[.int .u32 x, .int .u32 y] w fun e w' => e = .returned (.tuple #[.int .u32 f, .bool true]) ∧ Below w.heap.size w w')
    (HJ2 : ∀ w, Calls Try.prog 16 #[.int .u32 f, .int .u32 z] w fun e w' => e = .returned (.tuple #[.int .u32 c, .bool true]) ∧ Below w.heap.size w w')
    (HPd : ∀ w, Calls Try.prog 14 #[.int .u32 l, .int .u32 v, .int .u32 t] w fun e w' => e = .returned (.tuple #[.int .u32 0, .int .i64 2]) ∧ Below w.heap.size w w')
    (HSd : ∀ w, Calls Try.prog 9 #[.int .u32 0] w fun e w' => e = .returned (.tuple #[.int .u32 0, .int .u32 0, .int .u32 0, .bool false]) ∧ Below w.heap.size w w') :
    Calls Try.prog 6 #[.int .u32 c, .agg #[.int .u32 l, .int .u32 v, .int .u32 t]] w fun e w' => e = .returned (.bool true) ∧ Below w.heap.size w w' := by
  go_enter Try.func6, Try.ntmps6
  go_wp2_with (fail)
  go_quiet (fail)
  go_wp2_with (first | (go_at_call 9; (with_reducible refine (HSc _).mono ?_); rintro e w1 ⟨rfl, hb⟩) | (go_at_call 9; (with_reducible refine (HSd _).mono ?_); rintro e w1 ⟨rfl, hb⟩) | (go_at_call 14; (with_reducible refine (HPc _).mono ?_); rintro e w1 ⟨rfl, hb⟩) | (go_at_call 14; (with_reducible refine (HPd _).mono ?_); rintro e w1 ⟨rfl, hb⟩) | (go_at_call 16; (with_reducible refine (HJ1 _).mono ?_); rintro e w1 ⟨rfl, hb⟩) | (go_at_call 16; (with_reducible refine (HJ2 _).mono ?_); rintro e w1 ⟨rfl, hb⟩) | (go_at_call 11; (with_reducible refine (HI _).mono ?_); rintro e w1 ⟨rfl, rfl⟩) | (go_at_call 13; (with_reducible refine (HA _).mono ?_); rintro e w1 ⟨rfl, hb⟩))
  go_ret
  exact ⟨rfl, by repeat (first | exact Below.refl _ _ | assumption | apply below_alloc | apply pw_below_drewN | refine below_step ?_ (by assumption))⟩

theorem gessolaw04_HangulBack.walk (c l v t : Int) (w : World) (wc : (Lit.int .u32 c).wf = true) (wl : (Lit.int .u32 l).wf = true) (wv : (Lit.int .u32 v).wf = true) (wt : (Lit.int .u32 t).wf = true) :
    Calls Try.prog 6 #[.int .u32 c, .agg #[.int .u32 l, .int .u32 v, .int .u32 t]] w fun e w' => e = .returned (.bool true) ∧ Below w.heap.size w w' := by
  have HA : ∀ w, Calls Try.prog 13 #[] w fun e w' => e = .returned (.bool true) ∧ Below w.heap.size w w' := fun w => gessolaw04_awake.calls true w awake_ok
  have HI := fun w => is_calls c w
  obtain ⟨d, e, s, hp, hs⟩ := backD l v t (bounds_u32 wl) (bounds_u32 wv) (bounds_u32 wt)
  have HPd := fun w => hangul_Put.calls l v t d e w hp
  by_cases hc : 44032 ≤ c ∧ c ≤ 55203
  · rw [(isB_iff c).2 hc] at HI
    obtain ⟨x, y, z, f, h0, h1, h2, h3⟩ := backC c hc
    have HSc := fun w => hangul_Split.calls c x y z true w h0
    have HPc := fun w => hangul_Put.calls x y z c 0 w h1
    have HJ1 := fun w => hangul_Join.calls x y f true w h2
    rcases h3 with ⟨rfl, rfl⟩ | ⟨hz, h3⟩
    · rcases hs with ⟨rfl, rfl, hs⟩ | ⟨rfl, rfl, rfl, hs⟩
      · exact back_z_yes _ l v t d 0 x y w HA HI HSc HPc HJ1 HPd (fun w => hangul_Split.calls _ _ _ _ _ w hs)
      · exact back_z_no _ l v t 0 2 x y w HA HI HSc HPc HJ1 HPd (fun w => hangul_Split.calls _ _ _ _ _ w hs)
    · have HJ2 := fun w => hangul_Join.calls f z c true w h3
      rcases hs with ⟨rfl, rfl, hs⟩ | ⟨rfl, rfl, rfl, hs⟩
      · exact back_t_yes c l v t d 0 x y z f (bne_iff_ne.mpr hz) w HA HI HSc HPc HJ1 HJ2 HPd (fun w => hangul_Split.calls _ _ _ _ _ w hs)
      · exact back_t_no c l v t 0 2 x y z f (bne_iff_ne.mpr hz) w HA HI HSc HPc HJ1 HJ2 HPd (fun w => hangul_Split.calls _ _ _ _ _ w hs)
  · rw [show isB c = false from Bool.eq_false_iff.mpr (fun h => hc ((isB_iff c).1 h))] at HI
    have HSc := fun w => hangul_Split.calls c 0 0 0 false w (split_no c hc)
    rcases hs with ⟨rfl, rfl, hs⟩ | ⟨rfl, rfl, rfl, hs⟩
    · exact back_no_yes c l v t d 0 w HA HI HSc HPd (fun w => hangul_Split.calls _ _ _ _ _ w hs)
    · exact back_no_no c l v t 0 2 w HA HI HSc HPd (fun w => hangul_Split.calls _ _ _ _ _ w hs)

end Go.Proofs.Ytmhehgkpbkoomaa.P
