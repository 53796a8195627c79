/- Functions of the translated program as plain Lean functions, and proofs that their calls come to these. Written by a program of the session. No condition. -/
import Derived.Test.YtjlhehaagaaihaaDoorPx0
namespace Go.Proofs.YtjlhehaagaaihaaDoor.P
open Go.RowKit Go.Proofs.YtjlhehaagaaihaaDoorW.PrintWords Go.Proofs.YtjlhehaagaaihaaDoorW.PrintLast Go.Proofs.YtjlhehaagaaihaaDoorW.PrintMore
attribute [local go_sem] max2_int min2_int max_two min_two max_three min_three max_four min_four   -- for this text's walks alone
set_option linter.unusedVariables false
set_option linter.unusedSimpArgs false

/-! ### gessoref01_Is: function 28 -/
def gessoref01_Is.f (a0 : Int) : Option (Bool) := if a0 ≤ 1114111 then (if a0 < 55296 then (some true) else (some (decide (a0 > 57343)))) else (some false)
set_option maxHeartbeats 8000000 in
set_option maxRecDepth 100000 in
theorem gessoref01_Is.calls (a0 : Int) (r : Bool) (w : World) (h : gessoref01_Is.f a0 = some r) :
    Calls Tryd.prog 28 #[.int .u32 a0] w fun e w' => e = .returned (.bool r) ∧ Drawn0 w w' := by
  have H : (if a0 ≤ 1114111 then (if a0 < 55296 then (some true) else (some (decide (a0 > 57343)))) else (some false)) = some r := h
  clear h
  by_cases c2 : a0 ≤ 1114111
  · rw [if_pos c2] at H
    have c2b0 : decide (a0 ≤ 1114111) = true := decide_eq_true c2
    clear c2
    by_cases c3 : a0 < 55296
    · rw [if_pos c3] at H
      have c3b0 : decide (a0 < 55296) = true := decide_eq_true c3
      clear c3
      obtain rfl := Option.some.inj H
      go_enter Tryd.func28, Tryd.ntmps28
      go_wp2
      go_ret
      exact ⟨by first | rfl | (simp; done) | (simp [*]; done), by repeat (first | exact Drawn0.refl _ | apply Drawn0.step)⟩
    · rw [if_neg c3] at H
      have c3b0 : decide (a0 < 55296) = false := decide_eq_false c3
      clear c3
      obtain rfl := Option.some.inj H
      go_enter Tryd.func28, Tryd.ntmps28
      go_wp2
      go_ret
      exact ⟨by first | rfl | (simp; done) | (simp [*]; done), by repeat (first | exact Drawn0.refl _ | apply Drawn0.step)⟩
  · rw [if_neg c2] at H
    have c2b0 : decide (a0 ≤ 1114111) = false := decide_eq_false c2
    clear c2
    obtain rfl := Option.some.inj H
    go_enter Tryd.func28, Tryd.ntmps28
    go_wp2
    go_ret
    exact ⟨by first | rfl | (simp; done) | (simp [*]; done), by repeat (first | exact Drawn0.refl _ | apply Drawn0.step)⟩

/-! ### gessoref01_Width: function 29 -/
def gessoref01_Width.f (a0 : Int) : Option (Int) := (gessoref01_Is.f a0).bind fun t232 => (if t232 = true then (if a0 < 128 then (some 1) else (if a0 < 2048 then (some 2) else (if a0 < 65536 then (some 3) else (some 4)))) else (some 0))
set_option maxHeartbeats 8000000 in
set_option maxRecDepth 100000 in
theorem gessoref01_Width.calls (a0 : Int) (r : Int) (w : World) (h : gessoref01_Width.f a0 = some r) :
    Calls Tryd.prog 29 #[.int .u32 a0] w fun e w' => e = .returned (.int .i64 r) ∧ Drawn0 w w' := by
  have H : ((gessoref01_Is.f a0).bind fun t232 => (if t232 = true then (if a0 < 128 then (some 1) else (if a0 < 2048 then (some 2) else (if a0 < 65536 then (some 3) else (some 4)))) else (some 0))) = some r := h
  clear h
  replace H := Option.bind_eq_some_iff.mp H
  obtain ⟨t232, A20, H⟩ := H
  replace H : (if t232 = true then (if a0 < 128 then (some 1) else (if a0 < 2048 then (some 2) else (if a0 < 65536 then (some 3) else (some 4)))) else (some 0)) = some r := H
  have A2 := Aside0.mk A20
  clear A20
  by_cases c3 : t232 = true
  · subst c3
    have H1 : (if a0 < 128 then (some 1) else (if a0 < 2048 then (some 2) else (if a0 < 65536 then (some 3) else (some 4)))) = some r := by rw [if_pos rfl] at H; exact H
    clear H
    have H := H1
    clear H1
    by_cases c4 : a0 < 128
    · rw [if_pos c4] at H
      have c4b0 : decide (a0 < 128) = true := decide_eq_true c4
      clear c4
      obtain rfl := Option.some.inj H
      go_enter Tryd.func29, Tryd.ntmps29
      go_wp2_with (first | ((with_reducible refine gate_callee (f := 28) rfl ?_); refine goesL_ (some 5) rfl rfl Tryd.func28 (by kernel_rfl) rfl #[.int .u32 a0] rfl (by (try simp only [List.map_toArray, List.map_cons, List.map_nil]); first | done | rfl | (simp only [List.length_drop, List.length_take]; rfl)) ?_; (with_reducible refine (gessoref01_Is.calls a0 true _ A2.out).mono ?_); rintro e w' ⟨rfl, ⟨nd, rfl⟩⟩; refine ⟨_, rfl, ?_⟩))
      go_ret
      exact ⟨by first | rfl | (simp; done) | (simp [*]; done), by repeat (first | exact Drawn0.refl _ | apply Drawn0.step)⟩
    · rw [if_neg c4] at H
      have c4b0 : decide (a0 < 128) = false := decide_eq_false c4
      clear c4
      by_cases c5 : a0 < 2048
      · rw [if_pos c5] at H
        have c5b0 : decide (a0 < 2048) = true := decide_eq_true c5
        clear c5
        obtain rfl := Option.some.inj H
        go_enter Tryd.func29, Tryd.ntmps29
        go_wp2_with (first | ((with_reducible refine gate_callee (f := 28) rfl ?_); refine goesL_ (some 5) rfl rfl Tryd.func28 (by kernel_rfl) rfl #[.int .u32 a0] rfl (by (try simp only [List.map_toArray, List.map_cons, List.map_nil]); first | done | rfl | (simp only [List.length_drop, List.length_take]; rfl)) ?_; (with_reducible refine (gessoref01_Is.calls a0 true _ A2.out).mono ?_); rintro e w' ⟨rfl, ⟨nd, rfl⟩⟩; refine ⟨_, rfl, ?_⟩))
        go_ret
        exact ⟨by first | rfl | (simp; done) | (simp [*]; done), by repeat (first | exact Drawn0.refl _ | apply Drawn0.step)⟩
      · rw [if_neg c5] at H
        have c5b0 : decide (a0 < 2048) = false := decide_eq_false c5
        clear c5
        by_cases c6 : a0 < 65536
        · rw [if_pos c6] at H
          have c6b0 : decide (a0 < 65536) = true := decide_eq_true c6
          clear c6
          obtain rfl := Option.some.inj H
          go_enter Tryd.func29, Tryd.ntmps29
          go_wp2_with (first | ((with_reducible refine gate_callee (f := 28) rfl ?_); refine goesL_ (some 5) rfl rfl Tryd.func28 (by kernel_rfl) rfl #[.int .u32 a0] rfl (by (try simp only [List.map_toArray, List.map_cons, List.map_nil]); first | done | rfl | (simp only [List.length_drop, List.length_take]; rfl)) ?_; (with_reducible refine (gessoref01_Is.calls a0 true _ A2.out).mono ?_); rintro e w' ⟨rfl, ⟨nd, rfl⟩⟩; refine ⟨_, rfl, ?_⟩))
          go_ret
          exact ⟨by first | rfl | (simp; done) | (simp [*]; done), by repeat (first | exact Drawn0.refl _ | apply Drawn0.step)⟩
        · rw [if_neg c6] at H
          have c6b0 : decide (a0 < 65536) = false := decide_eq_false c6
          clear c6
          obtain rfl := Option.some.inj H
          go_enter Tryd.func29, Tryd.ntmps29
          go_wp2_with (first | ((with_reducible refine gate_callee (f := 28) rfl ?_); refine goesL_ (some 5) rfl rfl Tryd.func28 (by kernel_rfl) rfl #[.int .u32 a0] rfl (by (try simp only [List.map_toArray, List.map_cons, List.map_nil]); first | done | rfl | (simp only [List.length_drop, List.length_take]; rfl)) ?_; (with_reducible refine (gessoref01_Is.calls a0 true _ A2.out).mono ?_); rintro e w' ⟨rfl, ⟨nd, rfl⟩⟩; refine ⟨_, rfl, ?_⟩))
          go_ret
          exact ⟨by first | rfl | (simp; done) | (simp [*]; done), by repeat (first | exact Drawn0.refl _ | apply Drawn0.step)⟩
  · replace c3 := Bool.eq_false_iff.mpr c3
    subst c3
    have H1 : (some 0) = some r := by rw [if_neg (show ¬ (false = true) by decide)] at H; exact H
    clear H
    have H := H1
    clear H1
    obtain rfl := Option.some.inj H
    go_enter Tryd.func29, Tryd.ntmps29
    go_wp2_with (first | ((with_reducible refine gate_callee (f := 28) rfl ?_); refine goesL_ (some 5) rfl rfl Tryd.func28 (by kernel_rfl) rfl #[.int .u32 a0] rfl (by (try simp only [List.map_toArray, List.map_cons, List.map_nil]); first | done | rfl | (simp only [List.length_drop, List.length_take]; rfl)) ?_; (with_reducible refine (gessoref01_Is.calls a0 false _ A2.out).mono ?_); rintro e w' ⟨rfl, ⟨nd, rfl⟩⟩; refine ⟨_, rfl, ?_⟩))
    go_ret
    exact ⟨by first | rfl | (simp; done) | (simp [*]; done), by repeat (first | exact Drawn0.refl _ | apply Drawn0.step)⟩

/-! ### gessoref01_Put: function 27 -/
def gessoref01_Put.f (a0 : Int) : Option (List Int) := (gessoref01_Width.f a0).bind fun t233 => (if t233 = 1 then (some (([(a0) % 256] : List Int))) else (if t233 = 2 then (some (([((192 + ((Int.tdiv a0 64) % 4294967296)) % 4294967296) % 256, ((128 + (Int.tmod a0 64)) % 4294967296) % 256] : List Int))) else (if t233 = 3 then (some (([((224 + ((Int.tdiv a0 4096) % 4294967296)) % 4294967296) % 256, 128 + (((Int.tdiv a0 64) % 4294967296) % 64), ((128 + (Int.tmod a0 64)) % 4294967296) % 256] : List Int))) else (if t233 = 4 then (some (([((240 + ((Int.tdiv a0 262144) % 4294967296)) % 4294967296) % 256, 128 + (((Int.tdiv a0 4096) % 4294967296) % 64), 128 + (((Int.tdiv a0 64) % 4294967296) % 64), ((128 + (Int.tmod a0 64)) % 4294967296) % 256] : List Int))) else (some ([] : List Int))))))
set_option maxHeartbeats 8000000 in
set_option maxRecDepth 100000 in
theorem gessoref01_Put.calls (a0 : Int) (r : List Int) (w : World) (h : gessoref01_Put.f a0 = some r) :
    Calls Tryd.prog 27 #[.int .u32 a0] w fun e w' => ∃ v0_ : Value, e = .returned (v0_) ∧ Kd.R (Kd.int .u8) 5 w' w.heap.size (fun _ => True) v0_ r ∧ Below w.heap.size w w' := by
  have HB := Aside0.mk (Below.refl w.heap.size w)
  have H : ((gessoref01_Width.f a0).bind fun t233 => (if t233 = 1 then (some (([(a0) % 256] : List Int))) else (if t233 = 2 then (some (([((192 + ((Int.tdiv a0 64) % 4294967296)) % 4294967296) % 256, ((128 + (Int.tmod a0 64)) % 4294967296) % 256] : List Int))) else (if t233 = 3 then (some (([((224 + ((Int.tdiv a0 4096) % 4294967296)) % 4294967296) % 256, 128 + (((Int.tdiv a0 64) % 4294967296) % 64), ((128 + (Int.tmod a0 64)) % 4294967296) % 256] : List Int))) else (if t233 = 4 then (some (([((240 + ((Int.tdiv a0 262144) % 4294967296)) % 4294967296) % 256, 128 + (((Int.tdiv a0 4096) % 4294967296) % 64), 128 + (((Int.tdiv a0 64) % 4294967296) % 64), ((128 + (Int.tmod a0 64)) % 4294967296) % 256] : List Int))) else (some ([] : List Int))))))) = some r := h
  clear h
  replace H := Option.bind_eq_some_iff.mp H
  obtain ⟨t233, A20, H⟩ := H
  replace H : (if t233 = 1 then (some (([(a0) % 256] : List Int))) else (if t233 = 2 then (some (([((192 + ((Int.tdiv a0 64) % 4294967296)) % 4294967296) % 256, ((128 + (Int.tmod a0 64)) % 4294967296) % 256] : List Int))) else (if t233 = 3 then (some (([((224 + ((Int.tdiv a0 4096) % 4294967296)) % 4294967296) % 256, 128 + (((Int.tdiv a0 64) % 4294967296) % 64), ((128 + (Int.tmod a0 64)) % 4294967296) % 256] : List Int))) else (if t233 = 4 then (some (([((240 + ((Int.tdiv a0 262144) % 4294967296)) % 4294967296) % 256, 128 + (((Int.tdiv a0 4096) % 4294967296) % 64), 128 + (((Int.tdiv a0 64) % 4294967296) % 64), ((128 + (Int.tmod a0 64)) % 4294967296) % 256] : List Int))) else (some ([] : List Int)))))) = some r := H
  have A2 := Aside0.mk A20
  clear A20
  by_cases c3 : t233 = 1
  · rw [if_pos c3] at H
    have c3b0 : (t233 == 1) = true := beq_iff_eq.mpr c3
    have c3b1 : (t233 != 1) = false := bne_eq_false_iff_eq.mpr c3
    clear c3
    obtain ⟨y234, hy234⟩ : ∃ y_ : List Int, y_ = (([(a0) % 256] : List Int)) := ⟨_, rfl⟩
    replace H : (some y234) = some r := by first | (rw [hy234]; with_reducible exact H) | (have H2_ := (Option.bind_some _ _).symm.trans H; rw [hy234]; with_reducible exact H2_) | (have H2_ := (Option.bind_some _ _).symm.trans H; with_reducible exact H2_) | with_reducible exact H | (rw [hy234]; exact H) | exact H
    have Ny234 := Aside0.mk hy234
    clear hy234
    obtain rfl := Option.some.inj H
    go_enter Tryd.func27, Tryd.ntmps27
    go_wp2_with (first | ((with_reducible refine gate_callee (f := 29) rfl ?_); refine goesL_ (some 4) rfl rfl Tryd.func29 (by kernel_rfl) rfl #[.int .u32 a0] rfl (by (try simp only [List.map_toArray, List.map_cons, List.map_nil]); first | done | rfl | (simp only [List.length_drop, List.length_take]; rfl)) ?_; (with_reducible refine (gessoref01_Width.calls a0 t233 _ A2.out).mono ?_); rintro e w' ⟨rfl, ⟨nd, rfl⟩⟩; refine ⟨_, rfl, ?_⟩) | ((with_reducible refine gate_dst (N := 9) rfl ?_); refine Kd.R_lit (Kd.int .u8) _ 5 ?hg (N := 9) ?hd (xs := ([(a0) % 256] : List Int)) (inner := [.int .u8 ((a0) % 256)]) (ok := fun _ => True) (okp := fun _ => True) ?hr ?hp (fun _ hk => hk) trivial (Below.refl _ _) (Nat.le_refl _) (by simp) ?_; (case hd => rfl); (case hg => rfl); (case hr => first | (go_simp; done) | (go_simp; rfl)); (case hp => exact (Reps.one (show Kd.M (Kd.int .u8) _ _ _ ((a0) % 256) [.int .u8 ((a0) % 256)] from rfl) (Reps.none _ _))); intro v235 w4 ho5 hb hg_ hnew_; clear hg_ hnew_; (first | rw [← Ny234.out] at ho5 | (simp only [Int.reduceToNat] at ho5; rw [← Ny234.out] at ho5)); have n0_ := Aside0.mk (Kd.R_lower ho5 (below_size (by repeat (first | (with_reducible first | exact HB.out | apply below_alloc | apply pw_below_drewN | apply below_drew1) | exact HB.out)))); have n1_ := Aside0.mk (below_step (by repeat (first | (with_reducible first | exact HB.out | apply below_alloc | apply pw_below_drewN | apply below_drew1) | exact HB.out)) hb); clear HB; have HO236 := n0_; have HB := n1_; clear n0_ n1_; clear hb ho5))
    go_ret
    exact ⟨_, by first | rfl | (simp [errW_none, errW_some] <;> rfl) | (simp [*, errW_none, errW_some] <;> rfl), by (with_reducible repeat (first | apply Kd.R_alloc | apply Kd.R_drewN | apply Kd.R_drew)); exact HO236.out, by repeat (first | (with_reducible first | exact HB.out | apply below_alloc | apply pw_below_drewN | apply below_drew1) | exact HB.out)⟩
  · rw [if_neg c3] at H
    have c3b0 : (t233 == 1) = false := beq_eq_false_iff_ne.mpr c3
    have c3b1 : (t233 != 1) = true := bne_iff_ne.mpr c3
    by_cases c6 : t233 = 2
    · rw [if_pos c6] at H
      have c6b0 : (t233 == 2) = true := beq_iff_eq.mpr c6
      have c6b1 : (t233 != 2) = false := bne_eq_false_iff_eq.mpr c6
      clear c6
      obtain ⟨y237, hy237⟩ : ∃ y_ : List Int, y_ = (([((192 + ((Int.tdiv a0 64) % 4294967296)) % 4294967296) % 256, ((128 + (Int.tmod a0 64)) % 4294967296) % 256] : List Int)) := ⟨_, rfl⟩
      replace H : (some y237) = some r := by first | (rw [hy237]; with_reducible exact H) | (have H2_ := (Option.bind_some _ _).symm.trans H; rw [hy237]; with_reducible exact H2_) | (have H2_ := (Option.bind_some _ _).symm.trans H; with_reducible exact H2_) | with_reducible exact H | (rw [hy237]; exact H) | exact H
      have Ny237 := Aside0.mk hy237
      clear hy237
      obtain rfl := Option.some.inj H
      go_enter Tryd.func27, Tryd.ntmps27
      go_wp2_with (first | ((with_reducible refine gate_callee (f := 29) rfl ?_); refine goesL_ (some 4) rfl rfl Tryd.func29 (by kernel_rfl) rfl #[.int .u32 a0] rfl (by (try simp only [List.map_toArray, List.map_cons, List.map_nil]); first | done | rfl | (simp only [List.length_drop, List.length_take]; rfl)) ?_; (with_reducible refine (gessoref01_Width.calls a0 t233 _ A2.out).mono ?_); rintro e w' ⟨rfl, ⟨nd, rfl⟩⟩; refine ⟨_, rfl, ?_⟩) | ((with_reducible refine gate_dst (N := 20) rfl ?_); refine Kd.R_lit (Kd.int .u8) _ 5 ?hg (N := 20) ?hd (xs := ([((192 + ((Int.tdiv a0 64) % 4294967296)) % 4294967296) % 256, ((128 + (Int.tmod a0 64)) % 4294967296) % 256] : List Int)) (inner := [.int .u8 (((192 + ((Int.tdiv a0 64) % 4294967296)) % 4294967296) % 256), .int .u8 (((128 + (Int.tmod a0 64)) % 4294967296) % 256)]) (ok := fun _ => True) (okp := fun _ => True) ?hr ?hp (fun _ hk => hk) trivial (Below.refl _ _) (Nat.le_refl _) (by simp) ?_; (case hd => rfl); (case hg => rfl); (case hr => first | (go_simp; done) | (go_simp; rfl)); (case hp => exact (Reps.one (show Kd.M (Kd.int .u8) _ _ _ (((192 + ((Int.tdiv a0 64) % 4294967296)) % 4294967296) % 256) [.int .u8 (((192 + ((Int.tdiv a0 64) % 4294967296)) % 4294967296) % 256)] from rfl) (Reps.one (show Kd.M (Kd.int .u8) _ _ _ (((128 + (Int.tmod a0 64)) % 4294967296) % 256) [.int .u8 (((128 + (Int.tmod a0 64)) % 4294967296) % 256)] from rfl) (Reps.none _ _)))); intro v238 w7 ho8 hb hg_ hnew_; clear hg_ hnew_; (first | rw [← Ny237.out] at ho8 | (simp only [Int.reduceToNat] at ho8; rw [← Ny237.out] at ho8)); have n0_ := Aside0.mk (Kd.R_lower ho8 (below_size (by repeat (first | (with_reducible first | exact HB.out | apply below_alloc | apply pw_below_drewN | apply below_drew1) | exact HB.out)))); have n1_ := Aside0.mk (below_step (by repeat (first | (with_reducible first | exact HB.out | apply below_alloc | apply pw_below_drewN | apply below_drew1) | exact HB.out)) hb); clear HB; have HO239 := n0_; have HB := n1_; clear n0_ n1_; clear hb ho8))
      go_ret
      exact ⟨_, by first | rfl | (simp [errW_none, errW_some] <;> rfl) | (simp [*, errW_none, errW_some] <;> rfl), by (with_reducible repeat (first | apply Kd.R_alloc | apply Kd.R_drewN | apply Kd.R_drew)); exact HO239.out, by repeat (first | (with_reducible first | exact HB.out | apply below_alloc | apply pw_below_drewN | apply below_drew1) | exact HB.out)⟩
    · rw [if_neg c6] at H
      have c6b0 : (t233 == 2) = false := beq_eq_false_iff_ne.mpr c6
      have c6b1 : (t233 != 2) = true := bne_iff_ne.mpr c6
      by_cases c9 : t233 = 3
      · rw [if_pos c9] at H
        have c9b0 : (t233 == 3) = true := beq_iff_eq.mpr c9
        have c9b1 : (t233 != 3) = false := bne_eq_false_iff_eq.mpr c9
        clear c9
        obtain ⟨y240, hy240⟩ : ∃ y_ : List Int, y_ = (([((224 + ((Int.tdiv a0 4096) % 4294967296)) % 4294967296) % 256, 128 + (((Int.tdiv a0 64) % 4294967296) % 64), ((128 + (Int.tmod a0 64)) % 4294967296) % 256] : List Int)) := ⟨_, rfl⟩
        replace H : (some y240) = some r := by first | (rw [hy240]; with_reducible exact H) | (have H2_ := (Option.bind_some _ _).symm.trans H; rw [hy240]; with_reducible exact H2_) | (have H2_ := (Option.bind_some _ _).symm.trans H; with_reducible exact H2_) | with_reducible exact H | (rw [hy240]; exact H) | exact H
        have Ny240 := Aside0.mk hy240
        clear hy240
        obtain rfl := Option.some.inj H
        go_enter Tryd.func27, Tryd.ntmps27
        go_wp2_with (first | ((with_reducible refine gate_callee (f := 29) rfl ?_); refine goesL_ (some 4) rfl rfl Tryd.func29 (by kernel_rfl) rfl #[.int .u32 a0] rfl (by (try simp only [List.map_toArray, List.map_cons, List.map_nil]); first | done | rfl | (simp only [List.length_drop, List.length_take]; rfl)) ?_; (with_reducible refine (gessoref01_Width.calls a0 t233 _ A2.out).mono ?_); rintro e w' ⟨rfl, ⟨nd, rfl⟩⟩; refine ⟨_, rfl, ?_⟩) | ((with_reducible refine gate_dst (N := 36) rfl ?_); refine Kd.R_lit (Kd.int .u8) _ 5 ?hg (N := 36) ?hd (xs := ([((224 + ((Int.tdiv a0 4096) % 4294967296)) % 4294967296) % 256, 128 + (((Int.tdiv a0 64) % 4294967296) % 64), ((128 + (Int.tmod a0 64)) % 4294967296) % 256] : List Int)) (inner := [.int .u8 (((224 + ((Int.tdiv a0 4096) % 4294967296)) % 4294967296) % 256), .int .u8 (128 + (((Int.tdiv a0 64) % 4294967296) % 64)), .int .u8 (((128 + (Int.tmod a0 64)) % 4294967296) % 256)]) (ok := fun _ => True) (okp := fun _ => True) ?hr ?hp (fun _ hk => hk) trivial (Below.refl _ _) (Nat.le_refl _) (by simp) ?_; (case hd => rfl); (case hg => rfl); (case hr => first | (go_simp; done) | (go_simp; rfl)); (case hp => exact (Reps.one (show Kd.M (Kd.int .u8) _ _ _ (((224 + ((Int.tdiv a0 4096) % 4294967296)) % 4294967296) % 256) [.int .u8 (((224 + ((Int.tdiv a0 4096) % 4294967296)) % 4294967296) % 256)] from rfl) (Reps.one (show Kd.M (Kd.int .u8) _ _ _ (128 + (((Int.tdiv a0 64) % 4294967296) % 64)) [.int .u8 (128 + (((Int.tdiv a0 64) % 4294967296) % 64))] from rfl) (Reps.one (show Kd.M (Kd.int .u8) _ _ _ (((128 + (Int.tmod a0 64)) % 4294967296) % 256) [.int .u8 (((128 + (Int.tmod a0 64)) % 4294967296) % 256)] from rfl) (Reps.none _ _))))); intro v241 w10 ho11 hb hg_ hnew_; clear hg_ hnew_; (first | rw [← Ny240.out] at ho11 | (simp only [Int.reduceToNat] at ho11; rw [← Ny240.out] at ho11)); have n0_ := Aside0.mk (Kd.R_lower ho11 (below_size (by repeat (first | (with_reducible first | exact HB.out | apply below_alloc | apply pw_below_drewN | apply below_drew1) | exact HB.out)))); have n1_ := Aside0.mk (below_step (by repeat (first | (with_reducible first | exact HB.out | apply below_alloc | apply pw_below_drewN | apply below_drew1) | exact HB.out)) hb); clear HB; have HO242 := n0_; have HB := n1_; clear n0_ n1_; clear hb ho11))
        go_ret
        exact ⟨_, by first | rfl | (simp [errW_none, errW_some] <;> rfl) | (simp [*, errW_none, errW_some] <;> rfl), by (with_reducible repeat (first | apply Kd.R_alloc | apply Kd.R_drewN | apply Kd.R_drew)); exact HO242.out, by repeat (first | (with_reducible first | exact HB.out | apply below_alloc | apply pw_below_drewN | apply below_drew1) | exact HB.out)⟩
      · rw [if_neg c9] at H
        have c9b0 : (t233 == 3) = false := beq_eq_false_iff_ne.mpr c9
        have c9b1 : (t233 != 3) = true := bne_iff_ne.mpr c9
        by_cases c12 : t233 = 4
        · rw [if_pos c12] at H
          have c12b0 : (t233 == 4) = true := beq_iff_eq.mpr c12
          have c12b1 : (t233 != 4) = false := bne_eq_false_iff_eq.mpr c12
          clear c12
          obtain ⟨y243, hy243⟩ : ∃ y_ : List Int, y_ = (([((240 + ((Int.tdiv a0 262144) % 4294967296)) % 4294967296) % 256, 128 + (((Int.tdiv a0 4096) % 4294967296) % 64), 128 + (((Int.tdiv a0 64) % 4294967296) % 64), ((128 + (Int.tmod a0 64)) % 4294967296) % 256] : List Int)) := ⟨_, rfl⟩
          replace H : (some y243) = some r := by first | (rw [hy243]; with_reducible exact H) | (have H2_ := (Option.bind_some _ _).symm.trans H; rw [hy243]; with_reducible exact H2_) | (have H2_ := (Option.bind_some _ _).symm.trans H; with_reducible exact H2_) | with_reducible exact H | (rw [hy243]; exact H) | exact H
          have Ny243 := Aside0.mk hy243
          clear hy243
          obtain rfl := Option.some.inj H
          go_enter Tryd.func27, Tryd.ntmps27
          go_wp2_with (first | ((with_reducible refine gate_callee (f := 29) rfl ?_); refine goesL_ (some 4) rfl rfl Tryd.func29 (by kernel_rfl) rfl #[.int .u32 a0] rfl (by (try simp only [List.map_toArray, List.map_cons, List.map_nil]); first | done | rfl | (simp only [List.length_drop, List.length_take]; rfl)) ?_; (with_reducible refine (gessoref01_Width.calls a0 t233 _ A2.out).mono ?_); rintro e w' ⟨rfl, ⟨nd, rfl⟩⟩; refine ⟨_, rfl, ?_⟩) | ((with_reducible refine gate_dst (N := 57) rfl ?_); refine Kd.R_lit (Kd.int .u8) _ 5 ?hg (N := 57) ?hd (xs := ([((240 + ((Int.tdiv a0 262144) % 4294967296)) % 4294967296) % 256, 128 + (((Int.tdiv a0 4096) % 4294967296) % 64), 128 + (((Int.tdiv a0 64) % 4294967296) % 64), ((128 + (Int.tmod a0 64)) % 4294967296) % 256] : List Int)) (inner := [.int .u8 (((240 + ((Int.tdiv a0 262144) % 4294967296)) % 4294967296) % 256), .int .u8 (128 + (((Int.tdiv a0 4096) % 4294967296) % 64)), .int .u8 (128 + (((Int.tdiv a0 64) % 4294967296) % 64)), .int .u8 (((128 + (Int.tmod a0 64)) % 4294967296) % 256)]) (ok := fun _ => True) (okp := fun _ => True) ?hr ?hp (fun _ hk => hk) trivial (Below.refl _ _) (Nat.le_refl _) (by simp) ?_; (case hd => rfl); (case hg => rfl); (case hr => first | (go_simp; done) | (go_simp; rfl)); (case hp => exact (Reps.one (show Kd.M (Kd.int .u8) _ _ _ (((240 + ((Int.tdiv a0 262144) % 4294967296)) % 4294967296) % 256) [.int .u8 (((240 + ((Int.tdiv a0 262144) % 4294967296)) % 4294967296) % 256)] from rfl) (Reps.one (show Kd.M (Kd.int .u8) _ _ _ (128 + (((Int.tdiv a0 4096) % 4294967296) % 64)) [.int .u8 (128 + (((Int.tdiv a0 4096) % 4294967296) % 64))] from rfl) (Reps.one (show Kd.M (Kd.int .u8) _ _ _ (128 + (((Int.tdiv a0 64) % 4294967296) % 64)) [.int .u8 (128 + (((Int.tdiv a0 64) % 4294967296) % 64))] from rfl) (Reps.one (show Kd.M (Kd.int .u8) _ _ _ (((128 + (Int.tmod a0 64)) % 4294967296) % 256) [.int .u8 (((128 + (Int.tmod a0 64)) % 4294967296) % 256)] from rfl) (Reps.none _ _)))))); intro v244 w13 ho14 hb hg_ hnew_; clear hg_ hnew_; (first | rw [← Ny243.out] at ho14 | (simp only [Int.reduceToNat] at ho14; rw [← Ny243.out] at ho14)); have n0_ := Aside0.mk (Kd.R_lower ho14 (below_size (by repeat (first | (with_reducible first | exact HB.out | apply below_alloc | apply pw_below_drewN | apply below_drew1) | exact HB.out)))); have n1_ := Aside0.mk (below_step (by repeat (first | (with_reducible first | exact HB.out | apply below_alloc | apply pw_below_drewN | apply below_drew1) | exact HB.out)) hb); clear HB; have HO245 := n0_; have HB := n1_; clear n0_ n1_; clear hb ho14))
          go_ret
          exact ⟨_, by first | rfl | (simp [errW_none, errW_some] <;> rfl) | (simp [*, errW_none, errW_some] <;> rfl), by (with_reducible repeat (first | apply Kd.R_alloc | apply Kd.R_drewN | apply Kd.R_drew)); exact HO245.out, by repeat (first | (with_reducible first | exact HB.out | apply below_alloc | apply pw_below_drewN | apply below_drew1) | exact HB.out)⟩
        · rw [if_neg c12] at H
          have c12b0 : (t233 == 4) = false := beq_eq_false_iff_ne.mpr c12
          have c12b1 : (t233 != 4) = true := bne_iff_ne.mpr c12
          obtain rfl := Option.some.inj H
          go_enter Tryd.func27, Tryd.ntmps27
          go_wp2_with (first | ((with_reducible refine gate_callee (f := 29) rfl ?_); refine goesL_ (some 4) rfl rfl Tryd.func29 (by kernel_rfl) rfl #[.int .u32 a0] rfl (by (try simp only [List.map_toArray, List.map_cons, List.map_nil]); first | done | rfl | (simp only [List.length_drop, List.length_take]; rfl)) ?_; (with_reducible refine (gessoref01_Width.calls a0 t233 _ A2.out).mono ?_); rintro e w' ⟨rfl, ⟨nd, rfl⟩⟩; refine ⟨_, rfl, ?_⟩))
          go_ret
          exact ⟨_, by first | rfl | (simp [errW_none, errW_some] <;> rfl) | (simp [*, errW_none, errW_some] <;> rfl), by first | exact Kd.R_nil _ _ _ _ _ | exact Kd.N_nil _ _ _ _ _ | exact Kd.V_nil _ _ _ _ _ | exact Kd.Q_nil _ _ _ _ _ | exact Kd.S_nil _ _ _ _ _, by repeat (first | (with_reducible first | exact HB.out | apply below_alloc | apply pw_below_drewN | apply below_drew1) | exact HB.out)⟩

/-! ### gessoref01_number: function 49 -/
mutual
def gessoref01_number.j0 : Nat → List Int → Int → Int → Option (Int × Bool)
  | 0, _, _, _ => none
  | k + 1, x0, x1, x6 => gessoref01_number.l0 k x0 x1 x6 1
def gessoref01_number.l0 : Nat → List Int → Int → Int → Int → Option (Int × Bool)
  | 0, _, _, _, _ => none
  | k + 1, x0, x1, x6, x7 => if x7 < x1 then (if 0 ≤ x7 then (if x7 < (x0.length : Int) then (if (rd x0 x7) < 128 then (some (0, false)) else (if (rd x0 x7) > 191 then (some (0, false)) else (gessoref01_number.l0 k x0 x1 ((((64 * x6) % 4294967296) + (((rd x0 x7) - 128) % 256)) % 4294967296) (wrap64 (x7 + 1))))) else (none)) else (none)) else (some (x6, true))
end
def gessoref01_number.f (k : Nat) (l0 : List Int) (a1 : Int) : Option (Int × Bool) := if 0 < (l0.length : Int) then (if a1 = 2 then (gessoref01_number.j0 k l0 a1 ((((rd l0 0) % 4294967296) - 192) % 4294967296)) else (if a1 = 3 then (gessoref01_number.j0 k l0 a1 ((((rd l0 0) % 4294967296) - 224) % 4294967296)) else (if a1 = 4 then (gessoref01_number.j0 k l0 a1 ((((rd l0 0) % 4294967296) - 240) % 4294967296)) else (gessoref01_number.j0 k l0 a1 ((rd l0 0) % 4294967296))))) else (none)
theorem gessoref01_number.mono_l : ∀ k, (∀ y0 y1 y2, LeO (gessoref01_number.j0 k y0 y1 y2) (gessoref01_number.j0 (k + 1) y0 y1 y2)) ∧ (∀ y0 y1 y2 y3, LeO (gessoref01_number.l0 k y0 y1 y2 y3) (gessoref01_number.l0 (k + 1) y0 y1 y2 y3))
  | 0 => ⟨fun _ _ _ r h => by simp [gessoref01_number.j0] at h, fun _ _ _ _ r h => by simp [gessoref01_number.l0] at h⟩
  | k + 1 => by
    obtain ⟨ih0, ih1⟩ := gessoref01_number.mono_l k
    refine ⟨?_, ?_⟩
    · intro y0 y1 y2
      unfold gessoref01_number.j0
      repeat' first
      | (with_reducible exact ih0 _ _ _)
      | (with_reducible exact ih1 _ _ _ _)
      | (with_reducible exact LeO.refl _)
      | (with_reducible exact LeO.none _)
      | (with_reducible refine LeO.ite ?_ ?_)
      | (with_reducible refine LeO.bind ?_ (fun _ => ?_))
      | exact ih0 _ _ _
      | exact ih1 _ _ _ _
      | exact LeO.none _
      | refine LeO.ite ?_ ?_
      | refine LeO.bind ?_ (fun _ => ?_)
    · intro y0 y1 y2 y3
      unfold gessoref01_number.l0
      repeat' first
      | (with_reducible exact ih0 _ _ _)
      | (with_reducible exact ih1 _ _ _ _)
      | (with_reducible exact LeO.refl _)
      | (with_reducible exact LeO.none _)
      | (with_reducible refine LeO.ite ?_ ?_)
      | (with_reducible refine LeO.bind ?_ (fun _ => ?_))
      | exact ih0 _ _ _
      | exact ih1 _ _ _ _
      | exact LeO.none _
      | refine LeO.ite ?_ ?_
      | refine LeO.bind ?_ (fun _ => ?_)
theorem gessoref01_number.mono : ∀ a0 a1 k, LeO (gessoref01_number.f k a0 a1) (gessoref01_number.f (k + 1) a0 a1) := by
  intro a0 a1 k
  obtain ⟨ih0, ih1⟩ := gessoref01_number.mono_l k
  unfold gessoref01_number.f
  repeat' first
      | (with_reducible exact ih0 _ _ _)
      | (with_reducible exact ih1 _ _ _ _)
      | (with_reducible exact LeO.refl _)
      | (with_reducible exact LeO.none _)
      | (with_reducible refine LeO.ite ?_ ?_)
      | (with_reducible refine LeO.bind ?_ (fun _ => ?_))
      | exact ih0 _ _ _
      | exact ih1 _ _ _ _
      | exact LeO.none _
      | refine LeO.ite ?_ ?_
      | refine LeO.bind ?_ (fun _ => ?_)
set_option maxHeartbeats 8000000 in
set_option maxRecDepth 100000 in
theorem gessoref01_number.calls (k : Nat) (A0 : Option Addr) (c0 : Nat) (l0 : List Int) (a1 : Int) (r1 : Int) (r2 : Bool) (w : World) (hr0 : Kd.C (Kd.int .u8) w A0 l0.length l0) (hc0 : l0.length ≤ c0) (h : gessoref01_number.f k l0 a1 = some (r1, r2)) :
    Calls Tryd.prog 49 #[.slice A0 l0.length c0, .int .i64 a1] w fun e w' => e = .returned (.tuple #[.int .u32 r1, .bool r2]) ∧ Drawn0 w w' := by
  have HR0 := Aside0.mk hr0
  have HC0 := Aside0.mk hc0
  clear hr0 hc0
  have H : (if 0 < (l0.length : Int) then (if a1 = 2 then (gessoref01_number.j0 k l0 a1 ((((rd l0 0) % 4294967296) - 192) % 4294967296)) else (if a1 = 3 then (gessoref01_number.j0 k l0 a1 ((((rd l0 0) % 4294967296) - 224) % 4294967296)) else (if a1 = 4 then (gessoref01_number.j0 k l0 a1 ((((rd l0 0) % 4294967296) - 240) % 4294967296)) else (gessoref01_number.j0 k l0 a1 ((rd l0 0) % 4294967296))))) else (none)) = some (r1, r2) := h
  clear h
  by_cases c3 : 0 < (l0.length : Int)
  · rw [if_pos c3] at H
    have c3b0 : decide (0 < (l0.length : Int)) = true := decide_eq_true c3
    have c3b1 : decide (0 < l0.length) = true := decide_eq_true (by omega)
    clear c3
    have HC4 := Aside0.mk H
    clear H
    have p246 : 0 ≤ (0 : Int) := (by omega)
    have q246 : 0 < (l0.length : Int) := of_decide_eq_true (by first | (with_reducible assumption) | assumption)
    obtain ⟨ad246, e246, hx246_0⟩ := Kd.at_int HR0.out 0 p246 q246
    cases e246
    have qi246 : (0 < l0.length) = True := eq_true (by omega)
    (try rw [show ((0 : Int)).toNat = 0 from rfl] at hx246_0)
    (try rw [Addr.add_zero'] at hx246_0)
    replace p246 := eq_true p246
    replace q246 := eq_true q246
    go_enter Tryd.func49, Tryd.ntmps49
    go_upto_block 0 with (fail)
    go_cut [6] (fun v6 wc => ∃ (kq : Nat) (x6_3 : Int), v6 = .int .u32 x6_3 ∧ Aside0 (gessoref01_number.j0 kq l0 a1 x6_3 = some (r1, r2)) ∧ Aside0 (kq ≤ k) ∧ Drawn0 w wc)
    case first =>
      have H := HC4.out
      clear HC4
      by_cases c5 : a1 = 2
      · rw [if_pos c5] at H
        have c5b0 : (a1 == 2) = true := beq_iff_eq.mpr c5
        have c5b1 : (a1 != 2) = false := bne_eq_false_iff_eq.mpr c5
        clear c5
        (first | rw [c5b0] | (simp only [i64_w, i32_w]; rw [c5b0]) | skip)
        have H' := Aside0.mk H
        clear H
        go_wp2
        go_meet
        case rel => exact ⟨_, ((((rd l0 0) % 4294967296) - 192) % 4294967296), (by first | rfl | (simp; done) | (simp [*]; done)), H', ⟨by first | omega | exact Nat.le_refl _⟩, by repeat (first | exact Drawn0.refl _ | apply Drawn0.step)⟩
      · rw [if_neg c5] at H
        have c5b0 : (a1 == 2) = false := beq_eq_false_iff_ne.mpr c5
        have c5b1 : (a1 != 2) = true := bne_iff_ne.mpr c5
        (first | rw [c5b0] | (simp only [i64_w, i32_w]; rw [c5b0]) | skip)
        by_cases c6 : a1 = 3
        · rw [if_pos c6] at H
          have c6b0 : (a1 == 3) = true := beq_iff_eq.mpr c6
          have c6b1 : (a1 != 3) = false := bne_eq_false_iff_eq.mpr c6
          clear c6
          have H' := Aside0.mk H
          clear H
          go_wp2
          go_meet
          case rel => exact ⟨_, ((((rd l0 0) % 4294967296) - 224) % 4294967296), (by first | rfl | (simp; done) | (simp [*]; done)), H', ⟨by first | omega | exact Nat.le_refl _⟩, by repeat (first | exact Drawn0.refl _ | apply Drawn0.step)⟩
        · rw [if_neg c6] at H
          have c6b0 : (a1 == 3) = false := beq_eq_false_iff_ne.mpr c6
          have c6b1 : (a1 != 3) = true := bne_iff_ne.mpr c6
          by_cases c7 : a1 = 4
          · rw [if_pos c7] at H
            have c7b0 : (a1 == 4) = true := beq_iff_eq.mpr c7
            have c7b1 : (a1 != 4) = false := bne_eq_false_iff_eq.mpr c7
            clear c7
            have H' := Aside0.mk H
            clear H
            go_wp2
            go_meet
            case rel => exact ⟨_, ((((rd l0 0) % 4294967296) - 240) % 4294967296), (by first | rfl | (simp; done) | (simp [*]; done)), H', ⟨by first | omega | exact Nat.le_refl _⟩, by repeat (first | exact Drawn0.refl _ | apply Drawn0.step)⟩
          · rw [if_neg c7] at H
            have c7b0 : (a1 == 4) = false := beq_eq_false_iff_ne.mpr c7
            have c7b1 : (a1 != 4) = true := bne_iff_ne.mpr c7
            have H' := Aside0.mk H
            clear H
            go_wp2
            go_meet
            case rel => exact ⟨_, ((rd l0 0) % 4294967296), (by first | rfl | (simp; done) | (simp [*]; done)), H', ⟨by first | omega | exact Nat.le_refl _⟩, by repeat (first | exact Drawn0.refl _ | apply Drawn0.step)⟩
    case rest =>
      clear HC4
      try clear p2
      try clear q2
      try clear hx2
      try clear qi2
      try clear c3
      try clear c3b0
      try clear c3b1
      try clear c4
      try clear c5
      try clear c5b0
      try clear c5b1
      try clear c6
      try clear c6b0
      try clear c6b1
      try clear c7
      try clear c7b0
      try clear c7b1
      try clear hx246_0
      try clear p246
      try clear q246
      obtain ⟨kq, x6_3, rfl, HA, HJ3, ⟨mc3, rfl⟩⟩ := hcut
      cases kq with
      | zero => exact absurd HA.out (by simp [gessoref01_number.j0])
      | succ kj3 =>
        have H := HA.out
        clear HA
        simp only [gessoref01_number.j0] at H
        have H' := Aside0.mk H
        clear H
        go_wp2
        go_loopg [6, 7] kj3 (fun kq v6 v7 w' => ∃ (x6_2 : Int) (x7_2 : Int), v6 = .int .u32 x6_2 ∧ v7 = .int .i64 x7_2 ∧ Aside0 (gessoref01_number.l0 kq l0 a1 x6_2 x7_2 = some (r1, r2)) ∧ Aside0 (kq ≤ kj3) ∧ Drawn0 w w')
        case atStart => exact ⟨(x6_3), (1), (by first | rfl | (simp; done) | (simp [*]; done)), (by first | rfl | (simp; done) | (simp [*]; done)), H', ⟨Nat.le_refl _⟩, by repeat (first | exact Drawn0.refl _ | apply Drawn0.step)⟩
        case round =>
          clear H'
          try clear p2
          try clear q2
          try clear hx2
          try clear qi2
          try clear c3
          try clear c3b0
          try clear c3b1
          try clear c4
          try clear c5
          try clear c5b0
          try clear c5b1
          try clear c6
          try clear c6b0
          try clear c6b1
          try clear c7
          try clear c7b0
          try clear c7b1
          try clear hx246_0
          try clear p2
          try clear p246
          try clear q2
          try clear q246
          obtain ⟨x6_2, x7_2, rfl, rfl, HA, HK2, ⟨m2, rfl⟩⟩ := hrel
          cases gk with
          | zero => exact absurd HA.out (by simp [gessoref01_number.l0])
          | succ k2 =>
            have H := HA.out
            clear HA
            simp only [gessoref01_number.l0] at H
            by_cases c8 : x7_2 < a1
            · rw [if_pos c8] at H
              have c8b0 : decide (x7_2 < a1) = true := decide_eq_true c8
              clear c8
              by_cases c9 : 0 ≤ x7_2
              · rw [if_pos c9] at H
                have c9b0 : decide (0 ≤ x7_2) = true := decide_eq_true c9
                clear c9
                by_cases c10 : x7_2 < (l0.length : Int)
                · rw [if_pos c10] at H
                  have c10b0 : decide (x7_2 < (l0.length : Int)) = true := decide_eq_true c10
                  clear c10
                  by_cases c11 : (rd l0 x7_2) < 128
                  · rw [if_pos c11] at H
                    have c11b0 : decide ((rd l0 x7_2) < 128) = true := decide_eq_true c11
                    clear c11
                    simp only [Option.some.injEq, Prod.mk.injEq] at H
                    obtain ⟨rfl, rfl⟩ := H
                    have p247 : 0 ≤ (x7_2 : Int) := of_decide_eq_true (by first | (with_reducible assumption) | assumption)
                    have q247 : x7_2 < (l0.length : Int) := of_decide_eq_true (by first | (with_reducible assumption) | assumption)
                    obtain ⟨ad247, e247, hx247_0⟩ := Kd.at_int HR0.out x7_2 p247 q247
                    obtain rfl : ad246 = ad247 := (by injection e247)
                    replace p247 := eq_true p247
                    replace q247 := eq_true q247
                    go_wp2
                    go_ret2
                    exact ⟨by first | rfl | (simp; done) | (simp [*]; done), by repeat (first | exact Drawn0.refl _ | apply Drawn0.step)⟩
                  · rw [if_neg c11] at H
                    have c11b0 : decide ((rd l0 x7_2) < 128) = false := decide_eq_false c11
                    clear c11
                    by_cases c12 : (rd l0 x7_2) > 191
                    · rw [if_pos c12] at H
                      have c12b0 : decide (191 < (rd l0 x7_2)) = true := decide_eq_true c12
                      clear c12
                      simp only [Option.some.injEq, Prod.mk.injEq] at H
                      obtain ⟨rfl, rfl⟩ := H
                      have p247 : 0 ≤ (x7_2 : Int) := of_decide_eq_true (by first | (with_reducible assumption) | assumption)
                      have q247 : x7_2 < (l0.length : Int) := of_decide_eq_true (by first | (with_reducible assumption) | assumption)
                      obtain ⟨ad247, e247, hx247_0⟩ := Kd.at_int HR0.out x7_2 p247 q247
                      obtain rfl : ad246 = ad247 := (by injection e247)
                      replace p247 := eq_true p247
                      replace q247 := eq_true q247
                      have p248 : 0 ≤ (x7_2 : Int) := of_decide_eq_true (by first | (with_reducible assumption) | assumption)
                      have q248 : x7_2 < (l0.length : Int) := of_decide_eq_true (by first | (with_reducible assumption) | assumption)
                      obtain ⟨ad248, e248, hx248_0⟩ := Kd.at_int HR0.out x7_2 p248 q248
                      obtain rfl : ad246 = ad248 := (by injection e248)
                      replace p248 := eq_true p248
                      replace q248 := eq_true q248
                      go_wp2
                      go_ret2
                      exact ⟨by first | rfl | (simp; done) | (simp [*]; done), by repeat (first | exact Drawn0.refl _ | apply Drawn0.step)⟩
                    · rw [if_neg c12] at H
                      have c12b0 : decide (191 < (rd l0 x7_2)) = false := decide_eq_false c12
                      clear c12
                      have H' := Aside0.mk H
                      clear H
                      have p247 : 0 ≤ (x7_2 : Int) := of_decide_eq_true (by first | (with_reducible assumption) | assumption)
                      have q247 : x7_2 < (l0.length : Int) := of_decide_eq_true (by first | (with_reducible assumption) | assumption)
                      obtain ⟨ad247, e247, hx247_0⟩ := Kd.at_int HR0.out x7_2 p247 q247
                      obtain rfl : ad246 = ad247 := (by injection e247)
                      replace p247 := eq_true p247
                      replace q247 := eq_true q247
                      have p248 : 0 ≤ (x7_2 : Int) := of_decide_eq_true (by first | (with_reducible assumption) | assumption)
                      have q248 : x7_2 < (l0.length : Int) := of_decide_eq_true (by first | (with_reducible assumption) | assumption)
                      obtain ⟨ad248, e248, hx248_0⟩ := Kd.at_int HR0.out x7_2 p248 q248
                      obtain rfl : ad246 = ad248 := (by injection e248)
                      replace p248 := eq_true p248
                      replace q248 := eq_true q248
                      have p249 : 0 ≤ (x7_2 : Int) := of_decide_eq_true (by first | (with_reducible assumption) | assumption)
                      have q249 : x7_2 < (l0.length : Int) := of_decide_eq_true (by first | (with_reducible assumption) | assumption)
                      obtain ⟨ad249, e249, hx249_0⟩ := Kd.at_int HR0.out x7_2 p249 q249
                      obtain rfl : ad246 = ad249 := (by injection e249)
                      replace p249 := eq_true p249
                      replace q249 := eq_true q249
                      go_wp2
                      go_roundg k2
                      case measure => have := HJ3.out; have := HK2.out; omega
                      case rel => exact ⟨((((64 * x6_2) % 4294967296) + (((rd l0 x7_2) - 128) % 256)) % 4294967296), (wrap64 (x7_2 + 1)), (by first | rfl | (simp; done) | (simp [*]; done)), (by first | rfl | (simp; done) | (simp [*]; done)), H', ⟨by have := HJ3.out; have := HK2.out; omega⟩, by repeat (first | exact Drawn0.refl _ | apply Drawn0.step)⟩
                · rw [if_neg c10] at H
                  exact absurd H (by simp)
              · rw [if_neg c9] at H
                exact absurd H (by simp)
            · rw [if_neg c8] at H
              have c8b0 : decide (x7_2 < a1) = false := decide_eq_false c8
              clear c8
              simp only [Option.some.injEq, Prod.mk.injEq] at H
              obtain ⟨rfl, rfl⟩ := H
              go_wp2
              go_ret2
              exact ⟨by first | rfl | (simp; done) | (simp [*]; done), by repeat (first | exact Drawn0.refl _ | apply Drawn0.step)⟩
  · rw [if_neg c3] at H
    exact absurd H (by simp)

end Go.Proofs.YtjlhehaagaaihaaDoor.P
