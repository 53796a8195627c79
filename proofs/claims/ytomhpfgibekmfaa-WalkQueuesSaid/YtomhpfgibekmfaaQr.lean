/- The reference's queue: Pop. No condition. -/
import Derived.Test.YtomhpfgibekmfaaQa
namespace Go.Proofs.Ytomhpfgibekmfaa.P
open Go.RowKit Go.Lib Go.Proofs.YtomhpfgibekmfaaW.PrintWords Go.Proofs.YtomhpfgibekmfaaW.PrintLast Go.Proofs.YtomhpfgibekmfaaW.PrintMore Go.Proofs.Ytomhpfgibekmfaa.Pure
set_option linter.unusedVariables false
set_option linter.unusedSimpArgs false
theorem rpop_none (d : Bool) (A : Option Addr) (c : Nat) (w : World) :
    Calls Try.prog 20 #[.agg #[.bool d, .slice A 0 c]] w fun e w' => e = .returned (.tuple #[.agg #[.bool d, .slice A 0 c], .slice none 0 0, .bool false]) ∧ Below w.heap.size w w' := by
  have hu32 := Try.underlying32
  go_enter Try.func20, Try.ntmps20
  go_wp2
  refine bodyPost_ret (v := .tuple #[.agg #[.bool d, .slice A 0 c], .slice none 0 0, .bool false]) (by simp [results, Try.results20, go_sem]) rfl ⟨rfl, ?_⟩
  repeat (first | exact Below.refl _ _ | (refine Below.alloc ?_ (by simp) _))
set_option maxHeartbeats 1000000 in
theorem rpop_some (d : Bool) (ad : Addr) (m c : Nat) (A1 : Option Addr) (n1 c1 : Nat) (w : World) (hc : m + 1 ≤ c) (hx : w.cell? (ad.add 0) = some (.slice A1 n1 c1)) (A' : Option Addr) (hA0 : (if c = 1 then some ad else some (ad.add 1)) = A') :
    Calls Try.prog 20 #[.agg #[.bool d, .slice (some ad) (m + 1) c]] w fun e w' => e = .returned (.tuple #[.agg #[.bool d, .slice A' m (c - 1)], .slice A1 n1 c1, .bool true]) ∧ Below w.heap.size w w' := by
  have HA0 := Lib.hid hA0
  clear hA0
  have hu32 := Try.underlying32
  have hu26 := Try.underlying26
  have hne : ((m : Int) + 1 = 0) = False := eq_false (by omega)
  have hlt : (0 : Int) < (m : Int) + 1 := by omega
  go_enter Try.func20, Try.ntmps20
  go_wp2
  obtain ⟨W2, hW2⟩ : ∃ W2, (w.alloc (.cells #[.bool d, .slice (some ad) (m + 1) c] 32)).alloc (.cells #[.bool false, .slice none 0 0] 32) = W2 := ⟨_, rfl⟩
  have hB2 : Below w.heap.size w W2 := hW2 ▸ below_alloc (below_alloc (Below.refl _ _) _) _
  have hb1 : W2.heap[w.heap.size]? = some (.cells #[.bool d, .slice (some ad) (m + 1) c] 32 (0, 0)) := hW2 ▸ blk_alloc (blk_new w _) _
  have hb2 : W2.heap[w.heap.size + 1]? = some (.cells #[.bool false, .slice none 0 0] 32 (0, 0)) := by
    have := blk_new (w.alloc (.cells #[.bool d, .slice (some ad) (m + 1) c] 32)) (.cells #[.bool false, .slice none 0 0] 32)
    rw [hW2] at this
    simpa using this
  have hx2 := pw_cell_below hB2 hx
  have had : ad.add 0 = ad := by unfold Addr.add; rw [if_pos rfl]
  rw [had] at hx
  have HX := Lib.hid hx
  have HB2 := Lib.hid hB2
  have HK1 := Lib.hid hb1
  have HK2 := Lib.hid hb2
  rw [hW2]
  clear hW2 hB2 hb1 hb2 hx2 hx
  have hcz : (1 : Int) ≤ (m : Int) + 1 := by omega
  have hc1 : (1 : Nat) ≤ m + 1 := by omega
  have hc2 : m + 1 ≤ c := hc
  have hc3 : (m : Int) + 1 ≤ (c : Int) := by omega
  have hc4 : 1 ≤ c := by omega
  refine start_ (n := 13) (S := fun w' => Below w.heap.size w w' ∧ w'.heap[w.heap.size]? = some (.cells #[.bool d, .slice (some ad) (m + 1) c] 32 (0, 0))) (ds := []) #[false, false, false, false, false, false, false, false, false, false, false, false, false] (by kernel_rfl) rfl rfl ⟨below_drew1 HB2.out, HK1.out⟩ (fun hHeld => ?_)
  clear hHeld
  have hw0 : Below w.heap.size w W2.drew ∧ W2.drew.heap[w.heap.size]? = some (.cells #[.bool d, .slice (some ad) (m + 1) c] 32 (0, 0)) := ⟨below_drew1 HB2.out, HK1.out⟩
  have hk2 : W2.drew.heap[w.heap.size + 1]? = some (.cells #[.bool false, .slice none 0 0] 32 (0, 0)) := HK2.out
  have HW0 := Lib.hid hw0
  have HK3 := Lib.hid hk2
  clear hw0 hk2
  generalize W2.drew = W3 at *
  refine pure_ (i := 0) (N := some 10) (v := ?_) (a' := ?_) #[true, false, false, false, false, false, false, false, false, false, false, false, false] rfl rfl (by kernel_rfl) (fun _ _ _ h => h) (Or.inl ⟨by rfl, ?_⟩) ?_ ?_
  rotate_left
  · intro w'
    go_simp
    with_reducible rfl
  rotate_left
  · simp only [Act.put, List.setIfInBounds_toArray, List.set_cons_zero, List.set_cons_succ, i64_w, i32_w]
    rfl
  refine take_ (i := 1) (N := some 11) (v := ?_) (a' := ?_) #[true, true, false, false, false, false, false, false, false, false, false, false, false] rfl rfl (by kernel_rfl) (fun _ _ _ h => h) (Or.inl ⟨by rfl, ?_⟩) HW0.out ?_ ?_
  rotate_left
  · intro w' s0
    have x0 := (blk_cell s0.2 0).trans rfl
    have x1 := (blk_cell s0.2 1).trans rfl
    have x2 := pw_cell_below s0.1 HX.out
    go_simp
    with_reducible rfl
  rotate_left
  · simp only [Act.put, List.setIfInBounds_toArray, List.set_cons_zero, List.set_cons_succ, i64_w, i32_w]
    rfl
  refine pure_ (i := 2) (N := some 12) (v := ?_) (a' := ?_) #[true, true, true, false, false, false, false, false, false, false, false, false, false] rfl rfl (by kernel_rfl) (fun _ _ _ h => h) (Or.inl ⟨by rfl, ?_⟩) ?_ ?_
  rotate_left
  · intro w'
    go_simp
    with_reducible rfl
  rotate_left
  · simp only [Act.put, List.setIfInBounds_toArray, List.set_cons_zero, List.set_cons_succ, i64_w, i32_w]
    rfl
  refine take_ (i := 3) (N := some 13) (v := ?_) (a' := ?_) #[true, true, true, true, false, false, false, false, false, false, false, false, false] rfl rfl (by kernel_rfl) (fun _ _ _ h => h) (Or.inl ⟨by rfl, ?_⟩) HW0.out ?_ ?_
  rotate_left
  · intro w' s0
    have x0 := (blk_cell s0.2 0).trans rfl
    have x1 := (blk_cell s0.2 1).trans rfl
    have x2 := pw_cell_below s0.1 HX.out
    go_simp
    with_reducible rfl
  rotate_left
  · simp only [Act.put, List.setIfInBounds_toArray, List.set_cons_zero, List.set_cons_succ, i64_w, i32_w]
    rfl
  refine pure_ (i := 4) (N := some 14) (v := ?_) (a' := ?_) #[true, true, true, true, true, false, false, false, false, false, false, false, false] rfl rfl (by kernel_rfl) (fun _ _ _ h => h) (Or.inl ⟨by rfl, ?_⟩) ?_ ?_
  rotate_left
  · intro w'
    go_simp
    with_reducible rfl
  rotate_left
  · simp only [Act.put, List.setIfInBounds_toArray, List.set_cons_zero, List.set_cons_succ, i64_w, i32_w]
    rfl
  have hA : (if c = 1 then some ad else some ⟨ad.block, ad.off + 1, none⟩) = A' := HA0.out
  rw [hA]
  clear hA
  refine pure_ (i := 5) (N := some 15) (v := ?_) (a' := ?_) #[true, true, true, true, true, true, false, false, false, false, false, false, false] rfl rfl (by kernel_rfl) (fun _ _ _ h => h) (Or.inl ⟨by rfl, ?_⟩) ?_ ?_
  rotate_left
  · intro w'
    go_simp
    with_reducible rfl
  rotate_left
  · simp only [Act.put, List.setIfInBounds_toArray, List.set_cons_zero, List.set_cons_succ, i64_w, i32_w]
    rfl
  refine pure_ (i := 6) (N := some 16) (v := ?_) (a' := ?_) #[true, true, true, true, true, true, true, false, false, false, false, false, false] rfl rfl (by kernel_rfl) (fun _ _ _ h => h) (Or.inl ⟨by rfl, ?_⟩) ?_ ?_
  rotate_left
  · intro w'
    go_simp
    with_reducible rfl
  rotate_left
  · simp only [Act.put, List.setIfInBounds_toArray, List.set_cons_zero, List.set_cons_succ, i64_w, i32_w]
    rfl
  refine take_ (i := 7) (N := some 17) (v := ?_) (a' := ?_) #[true, true, true, true, true, true, true, true, false, false, false, false, false] rfl rfl (by kernel_rfl) (fun _ _ _ h => h) (Or.inl ⟨by rfl, ?_⟩) HW0.out ?_ ?_
  rotate_left
  · intro w' s0
    have x0 := (blk_cell s0.2 0).trans rfl
    have x1 := (blk_cell s0.2 1).trans rfl
    have x2 := pw_cell_below s0.1 HX.out
    go_simp
    with_reducible rfl
  rotate_left
  · simp only [Act.put, List.setIfInBounds_toArray, List.set_cons_zero, List.set_cons_succ, i64_w, i32_w]
    rfl
  refine pure_ (i := 8) (N := some 18) (v := ?_) (a' := ?_) #[true, true, true, true, true, true, true, true, true, false, false, false, false] rfl rfl (by kernel_rfl) (fun _ _ _ h => h) (Or.inl ⟨by rfl, ?_⟩) ?_ ?_
  rotate_left
  · intro w'
    go_simp
    with_reducible rfl
  rotate_left
  · simp only [Act.put, List.setIfInBounds_toArray, List.set_cons_zero, List.set_cons_succ, i64_w, i32_w]
    rfl
  refine take_ (i := 9) (N := some 19) (v := ?_) (a' := ?_) #[true, true, true, true, true, true, true, true, true, true, false, false, false] rfl rfl (by kernel_rfl) (fun _ _ _ h => h) (Or.inl ⟨by rfl, ?_⟩) HW0.out ?_ ?_
  rotate_left
  · intro w' s0
    have x0 := (blk_cell s0.2 0).trans rfl
    have x1 := (blk_cell s0.2 1).trans rfl
    have x2 := pw_cell_below s0.1 HX.out
    go_simp
    with_reducible rfl
  rotate_left
  · simp only [Act.put, List.setIfInBounds_toArray, List.set_cons_zero, List.set_cons_succ, i64_w, i32_w]
    rfl
  refine one_ (i := 10) (N := none) #[true, true, true, true, true, true, true, true, true, true, true, false, false] rfl rfl (by kernel_rfl) (by decide) (fun K hK => ?_)
  rw [if_pos (by rfl)]
  unfold Oper.wp
  have k0 := (blk_cell HK3.out 0).trans rfl
  have k1 := (blk_cell HK3.out 1).trans rfl
  have f0 := blk_frozen HK3.out 0
  have f1 := blk_frozen HK3.out 1
  go_simp
  have hb3 : ∀ u v : Value, Below w.heap.size w ((W3.setCell ⟨w.heap.size + 1, 0, none⟩ u).setCell ⟨w.heap.size + 1, 1, none⟩ v) := fun u v => (HW0.out.1.setCell (p := ⟨w.heap.size + 1, 0, none⟩) (Nat.le_succ _) u).setCell (p := ⟨w.heap.size + 1, 1, none⟩) (Nat.le_succ _) v
  have hk3 : ∀ u v : Value, ((W3.setCell ⟨w.heap.size + 1, 0, none⟩ u).setCell ⟨w.heap.size + 1, 1, none⟩ v).heap[w.heap.size + 1]? = some (.cells #[u, v] 32 (0, 0)) := fun u v => by simpa using blk_set (blk_set HK3.out 0 u) 1 v
  have hk1 : ∀ u v : Value, ((W3.setCell ⟨w.heap.size + 1, 0, none⟩ u).setCell ⟨w.heap.size + 1, 1, none⟩ v).heap[w.heap.size]? = some (.cells #[.bool d, .slice (some ad) (m + 1) c] 32 (0, 0)) := fun u v => by
    rw [Below.heap_setCell _ ⟨w.heap.size + 1, 1, none⟩ v _ (Nat.ne_of_lt (Nat.lt_succ_self _)), Below.heap_setCell _ ⟨w.heap.size + 1, 0, none⟩ u _ (Nat.ne_of_lt (Nat.lt_succ_self _))]
    exact HW0.out.2
  refine hK _ _ ⟨hb3 _ _, hk1 _ _⟩ (fun _ => ?_)
  have HR1 := Lib.hid (hb3 (.bool d) (.slice A' m (c - 1)))
  have HR2 := Lib.hid (hk3 (.bool d) (.slice A' m (c - 1)))
  generalize (W3.setCell ⟨w.heap.size + 1, 0, none⟩ (.bool d)).setCell ⟨w.heap.size + 1, 1, none⟩ (.slice A' m (c - 1)) = W4 at *
  clear hb3 hk3 hk1 k0 k1 f0 f1 HK3 HW0 HB2 HK1 HK2
  refine pure_ (i := 11) (N := some 3) (v := ?_) (a' := ?_) #[true, true, true, true, true, true, true, true, true, true, true, true, false] rfl rfl (by kernel_rfl) (fun _ _ _ h => h) (Or.inl ⟨by rfl, ?_⟩) ?_ ?_
  rotate_left
  · intro w'
    go_simp
    with_reducible rfl
  rotate_left
  · simp only [Act.put, List.setIfInBounds_toArray, List.set_cons_zero, List.set_cons_succ, i64_w, i32_w]
    rfl
  refine pure_ (i := 12) (N := some 4) (v := ?_) (a' := ?_) #[true, true, true, true, true, true, true, true, true, true, true, true, true] rfl rfl (by kernel_rfl) (fun _ _ _ h => h) (Or.inl ⟨by rfl, ?_⟩) ?_ ?_
  rotate_left
  · intro w'
    go_simp
    with_reducible rfl
  rotate_left
  · simp only [Act.put, List.setIfInBounds_toArray, List.set_cons_zero, List.set_cons_succ, i64_w, i32_w]
    rfl
  refine done_ (by kernel_rfl) ?_
  go_wp2
  have k0 := (blk_cell HR2.out 0).trans rfl
  have k1 := (blk_cell HR2.out 1).trans rfl
  exact bodyPost_ret (v := .tuple #[.agg #[.bool d, .slice A' m (c - 1)], .slice A1 n1 c1, .bool true]) (by simp [results, Try.results20, go_sem, k0, k1]) rfl ⟨rfl, HR1.out⟩
end Go.Proofs.Ytomhpfgibekmfaa.P
