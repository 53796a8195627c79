/- Functions of the translated program as plain Lean functions, and proofs that their calls come to these. Written by a program of the session. No condition. -/
import Derived.Test.YtjlhehaagaaihaaDoorPx0
import Derived.Test.YtjlhehaagaaihaaDoorPx13
namespace Go.Proofs.YtjlhehaagaaihaaDoor.P
open Go.RowKit Go.Proofs.YtjlhehaagaaihaaDoorW.PrintWords Go.Proofs.YtjlhehaagaaihaaDoorW.PrintLast Go.Proofs.YtjlhehaagaaihaaDoorW.PrintMore
attribute [local go_sem] max2_int min2_int max_two min_two max_three min_three max_four min_four   -- for this text's walks alone
set_option linter.unusedVariables false
set_option linter.unusedSimpArgs false

/-! ### gessoref01_Put: function 27 -/
def gessoref01_Put.f (a0 : Int) : Option (List Int) := (gessoref01_Width.f a0).bind fun t189 => (if t189 = 1 then (some (([(a0) % 256] : List Int))) else (if t189 = 2 then (some (([((192 + ((Int.tdiv a0 64) % 4294967296)) % 4294967296) % 256, ((128 + (Int.tmod a0 64)) % 4294967296) % 256] : List Int))) else (if t189 = 3 then (some (([((224 + ((Int.tdiv a0 4096) % 4294967296)) % 4294967296) % 256, 128 + (((Int.tdiv a0 64) % 4294967296) % 64), ((128 + (Int.tmod a0 64)) % 4294967296) % 256] : List Int))) else (if t189 = 4 then (some (([((240 + ((Int.tdiv a0 262144) % 4294967296)) % 4294967296) % 256, 128 + (((Int.tdiv a0 4096) % 4294967296) % 64), 128 + (((Int.tdiv a0 64) % 4294967296) % 64), ((128 + (Int.tmod a0 64)) % 4294967296) % 256] : List Int))) else (some ([] : List Int))))))
set_option maxHeartbeats 8000000 in
set_option maxRecDepth 100000 in
theorem gessoref01_Put.calls (a0 : Int) (r : List Int) (w : World) (h : gessoref01_Put.f a0 = some r) :
    Calls Tryd.prog 27 #[.int .u32 a0] w fun e w' => ∃ v0_ : Value, e = .returned (v0_) ∧ Kd.R (Kd.int .u8) 5 w' w.heap.size (fun _ => True) v0_ r ∧ Below w.heap.size w w' := by
  have HB := Aside0.mk (Below.refl w.heap.size w)
  have H : ((gessoref01_Width.f a0).bind fun t189 => (if t189 = 1 then (some (([(a0) % 256] : List Int))) else (if t189 = 2 then (some (([((192 + ((Int.tdiv a0 64) % 4294967296)) % 4294967296) % 256, ((128 + (Int.tmod a0 64)) % 4294967296) % 256] : List Int))) else (if t189 = 3 then (some (([((224 + ((Int.tdiv a0 4096) % 4294967296)) % 4294967296) % 256, 128 + (((Int.tdiv a0 64) % 4294967296) % 64), ((128 + (Int.tmod a0 64)) % 4294967296) % 256] : List Int))) else (if t189 = 4 then (some (([((240 + ((Int.tdiv a0 262144) % 4294967296)) % 4294967296) % 256, 128 + (((Int.tdiv a0 4096) % 4294967296) % 64), 128 + (((Int.tdiv a0 64) % 4294967296) % 64), ((128 + (Int.tmod a0 64)) % 4294967296) % 256] : List Int))) else (some ([] : List Int))))))) = some r := h
  clear h
  replace H := Option.bind_eq_some_iff.mp H
  obtain ⟨t189, A20, H⟩ := H
  replace H : (if t189 = 1 then (some (([(a0) % 256] : List Int))) else (if t189 = 2 then (some (([((192 + ((Int.tdiv a0 64) % 4294967296)) % 4294967296) % 256, ((128 + (Int.tmod a0 64)) % 4294967296) % 256] : List Int))) else (if t189 = 3 then (some (([((224 + ((Int.tdiv a0 4096) % 4294967296)) % 4294967296) % 256, 128 + (((Int.tdiv a0 64) % 4294967296) % 64), ((128 + (Int.tmod a0 64)) % 4294967296) % 256] : List Int))) else (if t189 = 4 then (some (([((240 + ((Int.tdiv a0 262144) % 4294967296)) % 4294967296) % 256, 128 + (((Int.tdiv a0 4096) % 4294967296) % 64), 128 + (((Int.tdiv a0 64) % 4294967296) % 64), ((128 + (Int.tmod a0 64)) % 4294967296) % 256] : List Int))) else (some ([] : List Int)))))) = some r := H
  have A2 := Aside0.mk A20
  clear A20
  by_cases c3 : t189 = 1
  · rw [if_pos c3] at H
    have c3b0 : (t189 == 1) = true := beq_iff_eq.mpr c3
    have c3b1 : (t189 != 1) = false := bne_eq_false_iff_eq.mpr c3
    clear c3
    obtain ⟨y190, hy190⟩ : ∃ y_ : List Int, y_ = (([(a0) % 256] : List Int)) := ⟨_, rfl⟩
    replace H : (some y190) = some r := by first | (rw [hy190]; with_reducible exact H) | (have H2_ := (Option.bind_some _ _).symm.trans H; rw [hy190]; with_reducible exact H2_) | (have H2_ := (Option.bind_some _ _).symm.trans H; with_reducible exact H2_) | with_reducible exact H | (rw [hy190]; exact H) | exact H
    have Ny190 := Aside0.mk hy190
    clear hy190
    obtain rfl := Option.some.inj H
    go_enter Tryd.func27, Tryd.ntmps27
    go_wp2_with (first | ((with_reducible refine gate_callee (f := 29) rfl ?_); refine goesL_ (some 4) rfl rfl Tryd.func29 (by kernel_rfl) rfl #[.int .u32 a0] rfl (by (try simp only [List.map_toArray, List.map_cons, List.map_nil]); first | done | rfl | (simp only [List.length_drop, List.length_take]; rfl)) ?_; (with_reducible refine (gessoref01_Width.calls a0 t189 _ A2.out).mono ?_); rintro e w' ⟨rfl, ⟨nd, rfl⟩⟩; refine ⟨_, rfl, ?_⟩) | ((with_reducible refine gate_dst (N := 9) rfl ?_); refine Kd.R_lit (Kd.int .u8) _ 5 ?hg (N := 9) ?hd (xs := ([(a0) % 256] : List Int)) (inner := [.int .u8 ((a0) % 256)]) (ok := fun _ => True) (okp := fun _ => True) ?hr ?hp (fun _ hk => hk) trivial (Below.refl _ _) (Nat.le_refl _) (by simp) ?_; (case hd => rfl); (case hg => rfl); (case hr => first | (go_simp; done) | (go_simp; rfl)); (case hp => exact (Reps.one (show Kd.M (Kd.int .u8) _ _ _ ((a0) % 256) [.int .u8 ((a0) % 256)] from rfl) (Reps.none _ _))); intro v191 w4 ho5 hb hg_ hnew_; clear hg_ hnew_; (first | rw [← Ny190.out] at ho5 | (simp only [Int.reduceToNat] at ho5; rw [← Ny190.out] at ho5)); have n0_ := Aside0.mk (Kd.R_lower ho5 (below_size (by repeat (first | (with_reducible first | exact HB.out | apply below_alloc | apply pw_below_drewN | apply below_drew1) | exact HB.out)))); have n1_ := Aside0.mk (below_step (by repeat (first | (with_reducible first | exact HB.out | apply below_alloc | apply pw_below_drewN | apply below_drew1) | exact HB.out)) hb); clear HB; have HO192 := n0_; have HB := n1_; clear n0_ n1_; clear hb ho5))
    go_ret
    exact ⟨_, by first | rfl | (simp [errW_none, errW_some] <;> rfl) | (simp [*, errW_none, errW_some] <;> rfl), by (with_reducible repeat (first | apply Kd.R_alloc | apply Kd.R_drewN | apply Kd.R_drew)); exact HO192.out, by repeat (first | (with_reducible first | exact HB.out | apply below_alloc | apply pw_below_drewN | apply below_drew1) | exact HB.out)⟩
  · rw [if_neg c3] at H
    have c3b0 : (t189 == 1) = false := beq_eq_false_iff_ne.mpr c3
    have c3b1 : (t189 != 1) = true := bne_iff_ne.mpr c3
    by_cases c6 : t189 = 2
    · rw [if_pos c6] at H
      have c6b0 : (t189 == 2) = true := beq_iff_eq.mpr c6
      have c6b1 : (t189 != 2) = false := bne_eq_false_iff_eq.mpr c6
      clear c6
      obtain ⟨y193, hy193⟩ : ∃ y_ : List Int, y_ = (([((192 + ((Int.tdiv a0 64) % 4294967296)) % 4294967296) % 256, ((128 + (Int.tmod a0 64)) % 4294967296) % 256] : List Int)) := ⟨_, rfl⟩
      replace H : (some y193) = some r := by first | (rw [hy193]; with_reducible exact H) | (have H2_ := (Option.bind_some _ _).symm.trans H; rw [hy193]; with_reducible exact H2_) | (have H2_ := (Option.bind_some _ _).symm.trans H; with_reducible exact H2_) | with_reducible exact H | (rw [hy193]; exact H) | exact H
      have Ny193 := Aside0.mk hy193
      clear hy193
      obtain rfl := Option.some.inj H
      go_enter Tryd.func27, Tryd.ntmps27
      go_wp2_with (first | ((with_reducible refine gate_callee (f := 29) rfl ?_); refine goesL_ (some 4) rfl rfl Tryd.func29 (by kernel_rfl) rfl #[.int .u32 a0] rfl (by (try simp only [List.map_toArray, List.map_cons, List.map_nil]); first | done | rfl | (simp only [List.length_drop, List.length_take]; rfl)) ?_; (with_reducible refine (gessoref01_Width.calls a0 t189 _ A2.out).mono ?_); rintro e w' ⟨rfl, ⟨nd, rfl⟩⟩; refine ⟨_, rfl, ?_⟩) | ((with_reducible refine gate_dst (N := 20) rfl ?_); refine Kd.R_lit (Kd.int .u8) _ 5 ?hg (N := 20) ?hd (xs := ([((192 + ((Int.tdiv a0 64) % 4294967296)) % 4294967296) % 256, ((128 + (Int.tmod a0 64)) % 4294967296) % 256] : List Int)) (inner := [.int .u8 (((192 + ((Int.tdiv a0 64) % 4294967296)) % 4294967296) % 256), .int .u8 (((128 + (Int.tmod a0 64)) % 4294967296) % 256)]) (ok := fun _ => True) (okp := fun _ => True) ?hr ?hp (fun _ hk => hk) trivial (Below.refl _ _) (Nat.le_refl _) (by simp) ?_; (case hd => rfl); (case hg => rfl); (case hr => first | (go_simp; done) | (go_simp; rfl)); (case hp => exact (Reps.one (show Kd.M (Kd.int .u8) _ _ _ (((192 + ((Int.tdiv a0 64) % 4294967296)) % 4294967296) % 256) [.int .u8 (((192 + ((Int.tdiv a0 64) % 4294967296)) % 4294967296) % 256)] from rfl) (Reps.one (show Kd.M (Kd.int .u8) _ _ _ (((128 + (Int.tmod a0 64)) % 4294967296) % 256) [.int .u8 (((128 + (Int.tmod a0 64)) % 4294967296) % 256)] from rfl) (Reps.none _ _)))); intro v194 w7 ho8 hb hg_ hnew_; clear hg_ hnew_; (first | rw [← Ny193.out] at ho8 | (simp only [Int.reduceToNat] at ho8; rw [← Ny193.out] at ho8)); have n0_ := Aside0.mk (Kd.R_lower ho8 (below_size (by repeat (first | (with_reducible first | exact HB.out | apply below_alloc | apply pw_below_drewN | apply below_drew1) | exact HB.out)))); have n1_ := Aside0.mk (below_step (by repeat (first | (with_reducible first | exact HB.out | apply below_alloc | apply pw_below_drewN | apply below_drew1) | exact HB.out)) hb); clear HB; have HO195 := n0_; have HB := n1_; clear n0_ n1_; clear hb ho8))
      go_ret
      exact ⟨_, by first | rfl | (simp [errW_none, errW_some] <;> rfl) | (simp [*, errW_none, errW_some] <;> rfl), by (with_reducible repeat (first | apply Kd.R_alloc | apply Kd.R_drewN | apply Kd.R_drew)); exact HO195.out, by repeat (first | (with_reducible first | exact HB.out | apply below_alloc | apply pw_below_drewN | apply below_drew1) | exact HB.out)⟩
    · rw [if_neg c6] at H
      have c6b0 : (t189 == 2) = false := beq_eq_false_iff_ne.mpr c6
      have c6b1 : (t189 != 2) = true := bne_iff_ne.mpr c6
      by_cases c9 : t189 = 3
      · rw [if_pos c9] at H
        have c9b0 : (t189 == 3) = true := beq_iff_eq.mpr c9
        have c9b1 : (t189 != 3) = false := bne_eq_false_iff_eq.mpr c9
        clear c9
        obtain ⟨y196, hy196⟩ : ∃ y_ : List Int, y_ = (([((224 + ((Int.tdiv a0 4096) % 4294967296)) % 4294967296) % 256, 128 + (((Int.tdiv a0 64) % 4294967296) % 64), ((128 + (Int.tmod a0 64)) % 4294967296) % 256] : List Int)) := ⟨_, rfl⟩
        replace H : (some y196) = some r := by first | (rw [hy196]; with_reducible exact H) | (have H2_ := (Option.bind_some _ _).symm.trans H; rw [hy196]; with_reducible exact H2_) | (have H2_ := (Option.bind_some _ _).symm.trans H; with_reducible exact H2_) | with_reducible exact H | (rw [hy196]; exact H) | exact H
        have Ny196 := Aside0.mk hy196
        clear hy196
        obtain rfl := Option.some.inj H
        go_enter Tryd.func27, Tryd.ntmps27
        go_wp2_with (first | ((with_reducible refine gate_callee (f := 29) rfl ?_); refine goesL_ (some 4) rfl rfl Tryd.func29 (by kernel_rfl) rfl #[.int .u32 a0] rfl (by (try simp only [List.map_toArray, List.map_cons, List.map_nil]); first | done | rfl | (simp only [List.length_drop, List.length_take]; rfl)) ?_; (with_reducible refine (gessoref01_Width.calls a0 t189 _ A2.out).mono ?_); rintro e w' ⟨rfl, ⟨nd, rfl⟩⟩; refine ⟨_, rfl, ?_⟩) | ((with_reducible refine gate_dst (N := 36) rfl ?_); refine Kd.R_lit (Kd.int .u8) _ 5 ?hg (N := 36) ?hd (xs := ([((224 + ((Int.tdiv a0 4096) % 4294967296)) % 4294967296) % 256, 128 + (((Int.tdiv a0 64) % 4294967296) % 64), ((128 + (Int.tmod a0 64)) % 4294967296) % 256] : List Int)) (inner := [.int .u8 (((224 + ((Int.tdiv a0 4096) % 4294967296)) % 4294967296) % 256), .int .u8 (128 + (((Int.tdiv a0 64) % 4294967296) % 64)), .int .u8 (((128 + (Int.tmod a0 64)) % 4294967296) % 256)]) (ok := fun _ => True) (okp := fun _ => True) ?hr ?hp (fun _ hk => hk) trivial (Below.refl _ _) (Nat.le_refl _) (by simp) ?_; (case hd => rfl); (case hg => rfl); (case hr => first | (go_simp; done) | (go_simp; rfl)); (case hp => exact (Reps.one (show Kd.M (Kd.int .u8) _ _ _ (((224 + ((Int.tdiv a0 4096) % 4294967296)) % 4294967296) % 256) [.int .u8 (((224 + ((Int.tdiv a0 4096) % 4294967296)) % 4294967296) % 256)] from rfl) (Reps.one (show Kd.M (Kd.int .u8) _ _ _ (128 + (((Int.tdiv a0 64) % 4294967296) % 64)) [.int .u8 (128 + (((Int.tdiv a0 64) % 4294967296) % 64))] from rfl) (Reps.one (show Kd.M (Kd.int .u8) _ _ _ (((128 + (Int.tmod a0 64)) % 4294967296) % 256) [.int .u8 (((128 + (Int.tmod a0 64)) % 4294967296) % 256)] from rfl) (Reps.none _ _))))); intro v197 w10 ho11 hb hg_ hnew_; clear hg_ hnew_; (first | rw [← Ny196.out] at ho11 | (simp only [Int.reduceToNat] at ho11; rw [← Ny196.out] at ho11)); have n0_ := Aside0.mk (Kd.R_lower ho11 (below_size (by repeat (first | (with_reducible first | exact HB.out | apply below_alloc | apply pw_below_drewN | apply below_drew1) | exact HB.out)))); have n1_ := Aside0.mk (below_step (by repeat (first | (with_reducible first | exact HB.out | apply below_alloc | apply pw_below_drewN | apply below_drew1) | exact HB.out)) hb); clear HB; have HO198 := n0_; have HB := n1_; clear n0_ n1_; clear hb ho11))
        go_ret
        exact ⟨_, by first | rfl | (simp [errW_none, errW_some] <;> rfl) | (simp [*, errW_none, errW_some] <;> rfl), by (with_reducible repeat (first | apply Kd.R_alloc | apply Kd.R_drewN | apply Kd.R_drew)); exact HO198.out, by repeat (first | (with_reducible first | exact HB.out | apply below_alloc | apply pw_below_drewN | apply below_drew1) | exact HB.out)⟩
      · rw [if_neg c9] at H
        have c9b0 : (t189 == 3) = false := beq_eq_false_iff_ne.mpr c9
        have c9b1 : (t189 != 3) = true := bne_iff_ne.mpr c9
        by_cases c12 : t189 = 4
        · rw [if_pos c12] at H
          have c12b0 : (t189 == 4) = true := beq_iff_eq.mpr c12
          have c12b1 : (t189 != 4) = false := bne_eq_false_iff_eq.mpr c12
          clear c12
          obtain ⟨y199, hy199⟩ : ∃ y_ : List Int, y_ = (([((240 + ((Int.tdiv a0 262144) % 4294967296)) % 4294967296) % 256, 128 + (((Int.tdiv a0 4096) % 4294967296) % 64), 128 + (((Int.tdiv a0 64) % 4294967296) % 64), ((128 + (Int.tmod a0 64)) % 4294967296) % 256] : List Int)) := ⟨_, rfl⟩
          replace H : (some y199) = some r := by first | (rw [hy199]; with_reducible exact H) | (have H2_ := (Option.bind_some _ _).symm.trans H; rw [hy199]; with_reducible exact H2_) | (have H2_ := (Option.bind_some _ _).symm.trans H; with_reducible exact H2_) | with_reducible exact H | (rw [hy199]; exact H) | exact H
          have Ny199 := Aside0.mk hy199
          clear hy199
          obtain rfl := Option.some.inj H
          go_enter Tryd.func27, Tryd.ntmps27
          go_wp2_with (first | ((with_reducible refine gate_callee (f := 29) rfl ?_); refine goesL_ (some 4) rfl rfl Tryd.func29 (by kernel_rfl) rfl #[.int .u32 a0] rfl (by (try simp only [List.map_toArray, List.map_cons, List.map_nil]); first | done | rfl | (simp only [List.length_drop, List.length_take]; rfl)) ?_; (with_reducible refine (gessoref01_Width.calls a0 t189 _ A2.out).mono ?_); rintro e w' ⟨rfl, ⟨nd, rfl⟩⟩; refine ⟨_, rfl, ?_⟩) | ((with_reducible refine gate_dst (N := 57) rfl ?_); refine Kd.R_lit (Kd.int .u8) _ 5 ?hg (N := 57) ?hd (xs := ([((240 + ((Int.tdiv a0 262144) % 4294967296)) % 4294967296) % 256, 128 + (((Int.tdiv a0 4096) % 4294967296) % 64), 128 + (((Int.tdiv a0 64) % 4294967296) % 64), ((128 + (Int.tmod a0 64)) % 4294967296) % 256] : List Int)) (inner := [.int .u8 (((240 + ((Int.tdiv a0 262144) % 4294967296)) % 4294967296) % 256), .int .u8 (128 + (((Int.tdiv a0 4096) % 4294967296) % 64)), .int .u8 (128 + (((Int.tdiv a0 64) % 4294967296) % 64)), .int .u8 (((128 + (Int.tmod a0 64)) % 4294967296) % 256)]) (ok := fun _ => True) (okp := fun _ => True) ?hr ?hp (fun _ hk => hk) trivial (Below.refl _ _) (Nat.le_refl _) (by simp) ?_; (case hd => rfl); (case hg => rfl); (case hr => first | (go_simp; done) | (go_simp; rfl)); (case hp => exact (Reps.one (show Kd.M (Kd.int .u8) _ _ _ (((240 + ((Int.tdiv a0 262144) % 4294967296)) % 4294967296) % 256) [.int .u8 (((240 + ((Int.tdiv a0 262144) % 4294967296)) % 4294967296) % 256)] from rfl) (Reps.one (show Kd.M (Kd.int .u8) _ _ _ (128 + (((Int.tdiv a0 4096) % 4294967296) % 64)) [.int .u8 (128 + (((Int.tdiv a0 4096) % 4294967296) % 64))] from rfl) (Reps.one (show Kd.M (Kd.int .u8) _ _ _ (128 + (((Int.tdiv a0 64) % 4294967296) % 64)) [.int .u8 (128 + (((Int.tdiv a0 64) % 4294967296) % 64))] from rfl) (Reps.one (show Kd.M (Kd.int .u8) _ _ _ (((128 + (Int.tmod a0 64)) % 4294967296) % 256) [.int .u8 (((128 + (Int.tmod a0 64)) % 4294967296) % 256)] from rfl) (Reps.none _ _)))))); intro v200 w13 ho14 hb hg_ hnew_; clear hg_ hnew_; (first | rw [← Ny199.out] at ho14 | (simp only [Int.reduceToNat] at ho14; rw [← Ny199.out] at ho14)); have n0_ := Aside0.mk (Kd.R_lower ho14 (below_size (by repeat (first | (with_reducible first | exact HB.out | apply below_alloc | apply pw_below_drewN | apply below_drew1) | exact HB.out)))); have n1_ := Aside0.mk (below_step (by repeat (first | (with_reducible first | exact HB.out | apply below_alloc | apply pw_below_drewN | apply below_drew1) | exact HB.out)) hb); clear HB; have HO201 := n0_; have HB := n1_; clear n0_ n1_; clear hb ho14))
          go_ret
          exact ⟨_, by first | rfl | (simp [errW_none, errW_some] <;> rfl) | (simp [*, errW_none, errW_some] <;> rfl), by (with_reducible repeat (first | apply Kd.R_alloc | apply Kd.R_drewN | apply Kd.R_drew)); exact HO201.out, by repeat (first | (with_reducible first | exact HB.out | apply below_alloc | apply pw_below_drewN | apply below_drew1) | exact HB.out)⟩
        · rw [if_neg c12] at H
          have c12b0 : (t189 == 4) = false := beq_eq_false_iff_ne.mpr c12
          have c12b1 : (t189 != 4) = true := bne_iff_ne.mpr c12
          obtain rfl := Option.some.inj H
          go_enter Tryd.func27, Tryd.ntmps27
          go_wp2_with (first | ((with_reducible refine gate_callee (f := 29) rfl ?_); refine goesL_ (some 4) rfl rfl Tryd.func29 (by kernel_rfl) rfl #[.int .u32 a0] rfl (by (try simp only [List.map_toArray, List.map_cons, List.map_nil]); first | done | rfl | (simp only [List.length_drop, List.length_take]; rfl)) ?_; (with_reducible refine (gessoref01_Width.calls a0 t189 _ A2.out).mono ?_); rintro e w' ⟨rfl, ⟨nd, rfl⟩⟩; refine ⟨_, rfl, ?_⟩))
          go_ret
          exact ⟨_, by first | rfl | (simp [errW_none, errW_some] <;> rfl) | (simp [*, errW_none, errW_some] <;> rfl), by first | exact Kd.R_nil _ _ _ _ _ | exact Kd.N_nil _ _ _ _ _ | exact Kd.V_nil _ _ _ _ _ | exact Kd.Q_nil _ _ _ _ _ | exact Kd.S_nil _ _ _ _ _, by repeat (first | (with_reducible first | exact HB.out | apply below_alloc | apply pw_below_drewN | apply below_drew1) | exact HB.out)⟩

end Go.Proofs.YtjlhehaagaaihaaDoor.P
