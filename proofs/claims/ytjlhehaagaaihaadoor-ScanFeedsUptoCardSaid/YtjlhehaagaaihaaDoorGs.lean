/- The calls of 'same': a scan has the state that it is asked of. No condition. -/
import Derived.Test.YtjlhehaagaaihaaDoorPx18
import Derived.Test.YtjlhehaagaaihaaDoorGf
namespace Go.Proofs.YtjlhehaagaaihaaDoor.P
open Go.RowKit Go.Lib Go.Proofs.YtjlhehaagaaihaaDoorW.PrintWords Go.Proofs.YtjlhehaagaaihaaDoorW.PrintLast Go.Proofs.YtjlhehaagaaihaaDoorW.PrintMore Go.Proofs.YtjlhehaagaaihaaDoor.Pure
attribute [local go_sem] max2_int min2_int max_two min_two max_three min_three max_four min_four run_fld0 run_fld1 run_fld2
set_option linter.unusedVariables false
set_option linter.unusedSimpArgs false

theorem own_addr {w : World} {base : Nat} {ok : Nat → Prop} {A : Option Addr} {n c : Nat} {xs : List Int} (h : Kd.R (Kd.int .u8) 5 w base ok (.slice A n c) xs) (hn : 0 < n) : ∃ g, A = some ⟨g, 0, none⟩ := by
  obtain ⟨h0, inner, ho, hr⟩ := h
  rcases ho.2 with ⟨e, _⟩ | ⟨g, cap, cur, e, h1, h2, h3, h4, h5, h6⟩
  · injection e with e1 e2 e3
    omega
  · injection e with e1 e2 e3
    exact ⟨g, e1⟩
theorem ref_end (s b : Int) (l : List Int) (hs : 0 ≤ s) (hs' : s ≤ 1099511627776) (hl : (l.length : Int) ≤ 1099511627776) : gessoref02_End.f s b l = some (endOf s b l.length) := by
  unfold gessoref02_End.f endOf
  by_cases h : b < 0
  · rw [if_pos h, if_neg (show ¬ b ≥ 0 by omega)]
    by_cases h0 : l.length = 0
    · rw [if_neg (by omega), if_pos h0]
    · rw [if_pos (by omega), if_neg h0, w64 (by omega) (by omega)]
  · rw [if_neg h, if_pos (show b ≥ 0 by omega)]
theorem ref_same (s b : Int) (l : List Int) : gessoref02_Same.f s b l s b l = some true := by
  unfold gessoref02_Same.f
  rw [if_pos rfl, if_pos rfl]
  simp
set_option maxHeartbeats 2000000 in
set_option maxRecDepth 100000 in
theorem same_true (p : Nat) (s b : Int) (pend : List Int) (L : Nat) (hL : pend.length = L) (ok : Nat → Prop) (A : Option Addr) (c : Nat) (w : World) (h : ScanAt w p s b pend ok) (hC : Kd.C (Kd.int .u8) w A L pend) (hc : L ≤ c) (hs : 0 ≤ s) (hs' : s ≤ 1099511627776) (hl : L ≤ 1099511627776) :
    Calls Tryd.prog 35 #[.pointer (some ⟨p, 0, none⟩), .agg #[.int .i64 s, .int .i64 b, .slice A L c]] w fun e w' => e = .returned (.bool true) ∧ Below w.heap.size w w' := by
  have hu52 := Tryd.underlying52
  have hu59 := Tryd.underlying59
  have hu78 := Tryd.underlying78
  obtain ⟨E, hE⟩ : ∃ E, endOf s b L = E := ⟨_, rfl⟩
  have hW0 : Below w.heap.size w (w.alloc (.cells #[.int .i64 s, .int .i64 b, .slice A L c] 52)) := (Below.refl _ _).alloc (Nat.le_refl _) _
  have hN0 : (w.alloc (.cells #[.int .i64 s, .int .i64 b, .slice A L c] 52)).heap[w.heap.size]? = some (.cells #[.int .i64 s, .int .i64 b, .slice A L c] 52 (0, 0)) := blk_new w _
  have HW0 := Lib.hid hW0
  have HN0 := Lib.hid hN0
  have HS := Lib.hid h
  have HL := Lib.hid hL
  have HLL := Lib.hid hl
  clear hW0 hN0 h hL
  go_enter Tryd.func35, Tryd.ntmps35
  go_wp2_with (first
    | (go_at_call 40; ((with_reducible refine (state_sl p s b pend L HL.out ok _ (HS.out.below HW0.out) (by have := HLL.out; omega)).mono ?_); rintro e w1 ⟨A1, c1, rfl, hf⟩; have HB1 := Lib.hid (below_step HW0.out hf.2); have HF1 := Lib.hid hf; have HN1 := Lib.hid (blk_below HN0.out hf.2); clear hf)))
  obtain ⟨W2, hW2⟩ : ∃ W2, w1.alloc (Obj.cells #[.int .i64 s, .int .i64 b, .slice A1 L c1] 59) = W2 := ⟨_, rfl⟩
  obtain ⟨g1, hg1⟩ : ∃ g, w1.heap.size = g := ⟨_, rfl⟩
  have hb2 : Below w.heap.size w W2.drew := hW2 ▸ (HB1.out.alloc HB1.out.size _).drew
  have hn52 : W2.drew.heap[w.heap.size]? = some (.cells #[.int .i64 s, .int .i64 b, .slice A L c] 52 (0, 0)) := hW2 ▸ blk_drew (blk_alloc HN1.out _)
  have hn59 : W2.drew.heap[g1]? = some (.cells #[.int .i64 s, .int .i64 b, .slice A1 L c1] 59 (0, 0)) := hg1 ▸ hW2 ▸ blk_drew (blk_new w1 _)
  have hr1 : Kd.R (Kd.int .u8) 5 W2.drew w.heap.size (fun _ => True) (.slice A1 L c1) pend := hW2 ▸ Kd.R_drew (Kd.R_alloc (Kd.R_lower HF1.out.1 HW0.out.size) _)
  rw [hW2, hg1]
  clear hW2 hg1 HB1 HN1 HF1 HW0 HN0
  refine start_ (n := 18) (S := fun w' => Below W2.drew.heap.size W2.drew w') (ds := []) #[false, false, false, false, false, false, false, false, false, false, false, false, false, false, false, false, false, false] (by kernel_rfl) rfl rfl (Below.refl _ _) (fun hHeld => ?_)
  clear hHeld
  generalize W2.drew = W3 at hb2 hn52 hn59 hr1 ⊢
  have hk0 : ∀ W : World, Below W3.heap.size W3 W → W.cell? ⟨g1, 0, none⟩ = some (.int .i64 s) ∧ W.cell? ⟨g1, 1, none⟩ = some (.int .i64 b) ∧ W.cell? ⟨g1, 2, none⟩ = some (.slice A1 L c1) := fun W hB => ⟨pw_cell_below hB ((blk_cell hn59 0).trans rfl), pw_cell_below hB ((blk_cell hn59 1).trans rfl), pw_cell_below hB ((blk_cell hn59 2).trans rfl)⟩
  have hk1 : ∀ W : World, Below W3.heap.size W3 W → W.cell? ⟨w.heap.size, 0, none⟩ = some (.int .i64 s) ∧ W.cell? ⟨w.heap.size, 1, none⟩ = some (.int .i64 b) ∧ W.cell? ⟨w.heap.size, 2, none⟩ = some (.slice A L c) := fun W hB => ⟨pw_cell_below hB ((blk_cell hn52 0).trans rfl), pw_cell_below hB ((blk_cell hn52 1).trans rfl), pw_cell_below hB ((blk_cell hn52 2).trans rfl)⟩
  have hsm : ∀ W : World, Below w.heap.size w W → ∀ A' c', Kd.R (Kd.int .u8) 5 W w.heap.size (fun _ => True) (.slice A' L c') pend → Calls Tryd.prog 52 #[.agg #[.int .i64 s, .int .i64 b, .slice A' L c'], .agg #[.int .i64 s, .int .i64 b, .slice A L c]] W fun e w' => e = .returned (.bool true) ∧ Below W.heap.size W w' := fun W hB A' c' hR => by
    have hL := HL.out
    subst hL
    exact gessoref02_Same.calls s b A' c' pend s b A c pend true W (Kd.R_reads' hR).2.2 (Kd.R_reads' hR).2.1 (Kd.C_below hC hB) hc (ref_same s b pend)
  have hre : ∀ W : World, Below w.heap.size w W → Calls Tryd.prog 53 #[.agg #[.int .i64 s, .int .i64 b, .slice A L c]] W fun e w' => e = .returned (.int .i64 E) ∧ Below W.heap.size W w' := fun W hB => by
    have hL := HL.out
    subst hL
    exact gessoref02_End.calls s b A c pend E W (Kd.C_below hC hB) hc (hE ▸ ref_end s b pend hs hs' (by have := HLL.out; omega))
  have hfa : ∀ W : World, Below w.heap.size w W → Calls Tryd.prog 38 #[.pointer (some ⟨p, 0, none⟩)] W fun e w' => e = .returned (.int .i64 b) ∧ Below W.heap.size W w' := fun W hB => by
    obtain ⟨A9, c9, q1, q2, q3⟩ := HS.out.below hB
    exact (fault_any p s b _ W q1).mono fun e w' h => ⟨h.1, by rw [h.2]; exact Below.refl _ _⟩
  have hea : ∀ W : World, Below w.heap.size w W → Calls Tryd.prog 39 #[.pointer (some ⟨p, 0, none⟩)] W fun e w' => e = .returned (.int .i64 E) ∧ Below W.heap.size W w' := fun W hB => by
    obtain ⟨A9, c9, q1, q2, q3⟩ := HS.out.below hB
    have hL := HL.out
    subst hL
    refine (end_any p s b A9 pend.length c9 W q1 hs hs' (by have := HLL.out; omega)).mono fun e w' h => ⟨by rw [h.1, hE], ?_⟩
    obtain ⟨n, hn⟩ := h.2
    rw [hn]
    exact pw_below_drewN (Below.refl _ _) n
  have hbb2 : (b == b) = true := by simp
  have hee2 : (E == E) = true := by simp
  have HK0 := Lib.hid hk0
  have HK1 := Lib.hid hk1
  have HSM := Lib.hid hsm
  have HRE := Lib.hid hre
  have HFA := Lib.hid hfa
  have HEA := Lib.hid hea
  have HB2 := Lib.hid hb2
  have H52 := Lib.hid hn52
  have H59 := Lib.hid hn59
  have HR1 := Lib.hid hr1
  clear hk0 hk1 hsm hre hfa hea hb2 hn52 hn59 hr1
  refine take_ (i := 0) (N := some 10) (v := ?_) (a' := ?_) #[true, false, false, false, false, false, false, false, false, false, false, false, false, false, false, false, false, false] rfl rfl (by kernel_rfl) (fun _ _ _ h => h) (Or.inl ⟨by rfl, ?_⟩) (Below.refl _ _) ?_ ?_
  rotate_left
  · intro w' s0
    obtain ⟨x0, x1, x2⟩ := HK0.out w' s0
    go_simp
    with_reducible rfl
  rotate_left
  · simp only [Act.put, List.setIfInBounds_toArray, List.set_cons_zero, List.set_cons_succ, i64_w, i32_w]
    rfl
  refine take_ (i := 1) (N := some 11) (v := ?_) (a' := ?_) #[true, true, false, false, false, false, false, false, false, false, false, false, false, false, false, false, false, false] rfl rfl (by kernel_rfl) (fun _ _ _ h => h) (Or.inl ⟨by rfl, ?_⟩) (Below.refl _ _) ?_ ?_
  rotate_left
  · intro w' s0
    obtain ⟨x0, x1, x2⟩ := HK1.out w' s0
    go_simp
    with_reducible rfl
  rotate_left
  · simp only [Act.put, List.setIfInBounds_toArray, List.set_cons_zero, List.set_cons_succ, i64_w, i32_w]
    rfl
  refine one_ (i := 2) (N := some 12) #[true, true, true, false, false, false, false, false, false, false, false, false, false, false, false, false, false, false] rfl rfl (by kernel_rfl) (by decide) (fun K hK => ?_)
  refine goes_ Tryd.func52 (by kernel_rfl) rfl #[.agg #[.int .i64 s, .int .i64 b, .slice A1 L c1], .agg #[.int .i64 s, .int .i64 b, .slice A L c]] (by rfl) rfl rfl (by (try simp only [List.map_toArray, List.map_cons, List.map_nil]); first | done | rfl) ?_
  with_reducible refine (HSM.out _ HB2.out A1 c1 HR1.out).mono ?_
  rintro e wn ⟨rfl, hb⟩
  refine ⟨_, rfl, ?_⟩
  have hbn := hb
  refine hK _ _ hbn (fun _ => ?_)
  refine norm_ (a' := ?_) ?_ ?_
  rotate_left
  · simp only [Act.put, List.setIfInBounds_toArray, List.set_cons_zero, List.set_cons_succ, i64_w, i32_w]
    rfl
  have HBD := Lib.hid hbn
  clear hb hbn
  rename_i w4
  refine pure_ (i := 3) (N := some 13) (v := ?_) (a' := ?_) #[true, true, true, true, false, false, false, false, false, false, false, false, false, false, false, false, false, false] rfl rfl (by kernel_rfl) (fun _ _ _ h => h) (Or.inl ⟨by rfl, ?_⟩) ?_ ?_
  rotate_left
  · intro w'
    go_simp
    with_reducible rfl
  rotate_left
  · simp only [Act.put, List.setIfInBounds_toArray, List.set_cons_zero, List.set_cons_succ, i64_w, i32_w]
    rfl
  refine pure_ (i := 4) (N := some 14) (v := ?_) (a' := ?_) #[true, true, true, true, true, false, false, false, false, false, false, false, false, false, false, false, false, false] rfl rfl (by kernel_rfl) (fun _ _ _ h => h) (Or.inl ⟨by rfl, ?_⟩) ?_ ?_
  rotate_left
  · intro w'
    go_simp
    with_reducible rfl
  rotate_left
  · simp only [Act.put, List.setIfInBounds_toArray, List.set_cons_zero, List.set_cons_succ, i64_w, i32_w]
    rfl
  refine pure_ (i := 6) (N := some 16) (v := ?_) (a' := ?_) #[true, true, true, true, true, false, true, false, false, false, false, false, false, false, false, false, false, false] rfl rfl (by kernel_rfl) (fun _ _ _ h => h) (Or.inl ⟨by rfl, ?_⟩) ?_ ?_
  rotate_left
  · intro w'
    go_simp
    with_reducible rfl
  rotate_left
  · simp only [Act.put, List.setIfInBounds_toArray, List.set_cons_zero, List.set_cons_succ, i64_w, i32_w]
    rfl
  refine take_ (i := 7) (N := some 17) (v := ?_) (a' := ?_) #[true, true, true, true, true, false, true, true, false, false, false, false, false, false, false, false, false, false] rfl rfl (by kernel_rfl) (fun _ _ _ h => h) (Or.inl ⟨by rfl, ?_⟩) HBD.out ?_ ?_
  rotate_left
  · intro w' s0
    obtain ⟨x0, x1, x2⟩ := HK1.out w' s0
    go_simp
    with_reducible rfl
  rotate_left
  · simp only [Act.put, List.setIfInBounds_toArray, List.set_cons_zero, List.set_cons_succ, i64_w, i32_w]
    rfl
  refine one_ (i := 5) (N := some 15) #[true, true, true, true, true, true, true, true, false, false, false, false, false, false, false, false, false, false] rfl rfl (by kernel_rfl) (by decide) (fun K hK => ?_)
  refine goes_ Tryd.func38 (by kernel_rfl) rfl #[.pointer (some ⟨p, 0, none⟩)] (by rfl) rfl rfl (by (try simp only [List.map_toArray, List.map_cons, List.map_nil]); first | done | rfl) ?_
  with_reducible refine (HFA.out _ (below_step HB2.out HBD.out)).mono ?_
  rintro e wn ⟨rfl, hb⟩
  refine ⟨_, rfl, ?_⟩
  have hbn := below_step HBD.out hb
  refine hK _ _ hbn (fun _ => ?_)
  refine norm_ (a' := ?_) ?_ ?_
  rotate_left
  · simp only [Act.put, List.setIfInBounds_toArray, List.set_cons_zero, List.set_cons_succ, i64_w, i32_w]
    rfl
  have HBE := Lib.hid hbn
  clear hb hbn HBD
  have HBD := HBE
  clear HBE
  refine pure_ (i := 8) (N := some 18) (v := ?_) (a' := ?_) #[true, true, true, true, true, true, true, true, true, false, false, false, false, false, false, false, false, false] rfl rfl (by kernel_rfl) (fun _ _ _ h => h) (Or.inl ⟨by rfl, ?_⟩) ?_ ?_
  rotate_left
  · intro w'
    go_simp
    with_reducible rfl
  rotate_left
  · simp only [Act.put, List.setIfInBounds_toArray, List.set_cons_zero, List.set_cons_succ, i64_w, i32_w]
    rfl
  refine pure_ (i := 9) (N := some 19) (v := ?_) (a' := ?_) #[true, true, true, true, true, true, true, true, true, true, false, false, false, false, false, false, false, false] rfl rfl (by kernel_rfl) (fun _ _ _ h => h) (Or.inl ⟨by rfl, ?_⟩) ?_ ?_
  rotate_left
  · intro w'
    go_simp
    with_reducible rfl
  rotate_left
  · simp only [Act.put, List.setIfInBounds_toArray, List.set_cons_zero, List.set_cons_succ, i64_w, i32_w]
    rfl
  refine pure_ (i := 10) (N := some 20) (v := ?_) (a' := ?_) #[true, true, true, true, true, true, true, true, true, true, true, false, false, false, false, false, false, false] rfl rfl (by kernel_rfl) (fun _ _ _ h => h) (Or.inl ⟨by rfl, ?_⟩) ?_ ?_
  rotate_left
  · intro w'
    go_simp
    with_reducible rfl
  rotate_left
  · simp only [Act.put, List.setIfInBounds_toArray, List.set_cons_zero, List.set_cons_succ, i64_w, i32_w]
    rfl
  refine pure_ (i := 11) (N := some 21) (v := ?_) (a' := ?_) #[true, true, true, true, true, true, true, true, true, true, true, true, false, false, false, false, false, false] rfl rfl (by kernel_rfl) (fun _ _ _ h => h) (Or.inl ⟨by rfl, ?_⟩) ?_ ?_
  rotate_left
  · intro w'
    go_simp
    with_reducible rfl
  rotate_left
  · simp only [Act.put, List.setIfInBounds_toArray, List.set_cons_zero, List.set_cons_succ, i64_w, i32_w]
    rfl
  refine take_ (i := 13) (N := some 23) (v := ?_) (a' := ?_) #[true, true, true, true, true, true, true, true, true, true, true, true, false, true, false, false, false, false] rfl rfl (by kernel_rfl) (fun _ _ _ h => h) (Or.inl ⟨by rfl, ?_⟩) HBD.out ?_ ?_
  rotate_left
  · intro w' s0
    obtain ⟨x0, x1, x2⟩ := HK1.out w' s0
    go_simp
    with_reducible rfl
  rotate_left
  · simp only [Act.put, List.setIfInBounds_toArray, List.set_cons_zero, List.set_cons_succ, i64_w, i32_w]
    rfl
  refine one_ (i := 12) (N := some 22) #[true, true, true, true, true, true, true, true, true, true, true, true, true, true, false, false, false, false] rfl rfl (by kernel_rfl) (by decide) (fun K hK => ?_)
  refine goes_ Tryd.func39 (by kernel_rfl) rfl #[.pointer (some ⟨p, 0, none⟩)] (by rfl) rfl rfl (by (try simp only [List.map_toArray, List.map_cons, List.map_nil]); first | done | rfl) ?_
  with_reducible refine (HEA.out _ (below_step HB2.out HBD.out)).mono ?_
  rintro e wn ⟨rfl, hb⟩
  refine ⟨_, rfl, ?_⟩
  have hbn := below_step HBD.out hb
  refine hK _ _ hbn (fun _ => ?_)
  refine norm_ (a' := ?_) ?_ ?_
  rotate_left
  · simp only [Act.put, List.setIfInBounds_toArray, List.set_cons_zero, List.set_cons_succ, i64_w, i32_w]
    rfl
  have HBE := Lib.hid hbn
  clear hb hbn HBD
  have HBD := HBE
  clear HBE
  refine one_ (i := 14) (N := some 24) #[true, true, true, true, true, true, true, true, true, true, true, true, true, true, true, false, false, false] rfl rfl (by kernel_rfl) (by decide) (fun K hK => ?_)
  refine goes_ Tryd.func53 (by kernel_rfl) rfl #[.agg #[.int .i64 s, .int .i64 b, .slice A L c]] (by rfl) rfl rfl (by (try simp only [List.map_toArray, List.map_cons, List.map_nil]); first | done | rfl) ?_
  with_reducible refine (HRE.out _ (below_step HB2.out HBD.out)).mono ?_
  rintro e wn ⟨rfl, hb⟩
  refine ⟨_, rfl, ?_⟩
  have hbn := below_step HBD.out hb
  refine hK _ _ hbn (fun _ => ?_)
  refine norm_ (a' := ?_) ?_ ?_
  rotate_left
  · simp only [Act.put, List.setIfInBounds_toArray, List.set_cons_zero, List.set_cons_succ, i64_w, i32_w]
    rfl
  have HBE := Lib.hid hbn
  clear hb hbn HBD
  have HBD := HBE
  clear HBE
  refine pure_ (i := 15) (N := some 25) (v := ?_) (a' := ?_) #[true, true, true, true, true, true, true, true, true, true, true, true, true, true, true, true, false, false] rfl rfl (by kernel_rfl) (fun _ _ _ h => h) (Or.inl ⟨by rfl, ?_⟩) ?_ ?_
  rotate_left
  · intro w'
    go_simp
    with_reducible rfl
  rotate_left
  · simp only [Act.put, List.setIfInBounds_toArray, List.set_cons_zero, List.set_cons_succ, i64_w, i32_w]
    rfl
  refine pure_ (i := 16) (N := some 26) (v := ?_) (a' := ?_) #[true, true, true, true, true, true, true, true, true, true, true, true, true, true, true, true, true, false] rfl rfl (by kernel_rfl) (fun _ _ _ h => h) (Or.inl ⟨by rfl, ?_⟩) ?_ ?_
  rotate_left
  · intro w'
    go_simp
    with_reducible rfl
  rotate_left
  · simp only [Act.put, List.setIfInBounds_toArray, List.set_cons_zero, List.set_cons_succ, i64_w, i32_w]
    rfl
  refine pure_ (i := 17) (N := some 6) (v := ?_) (a' := ?_) #[true, true, true, true, true, true, true, true, true, true, true, true, true, true, true, true, true, true] rfl rfl (by kernel_rfl) (fun _ _ _ h => h) (Or.inl ⟨by rfl, ?_⟩) ?_ ?_
  rotate_left
  · intro w'
    go_simp
    with_reducible rfl
  rotate_left
  · simp only [Act.put, List.setIfInBounds_toArray, List.set_cons_zero, List.set_cons_succ, i64_w, i32_w]
    rfl
  refine done_ (by kernel_rfl) ?_
  go_wp2
  have hb5 := below_step HB2.out HBD.out
  have h525 := blk_below H52.out HBD.out
  have h595 := blk_below H59.out HBD.out
  have hr5 := Kd.R_below HR1.out HBD.out
  go_loopg [7] (L + 1) (fun gk v7 wx => ∃ i : Nat, i + gk = L + 1 ∧ i ≤ L ∧ v7 = .int .i64 (i : Int) ∧ Aside0 (Below w.heap.size w wx) ∧ Aside0 (wx.heap[w.heap.size]? = some (.cells #[.int .i64 s, .int .i64 b, .slice A L c] 52 (0, 0))) ∧ Aside0 (wx.heap[g1]? = some (.cells #[.int .i64 s, .int .i64 b, .slice A1 L c1] 59 (0, 0))) ∧ Aside0 (∃ l' : List Int, l'.length = L ∧ Kd.R (Kd.int .u8) 5 wx w.heap.size (fun _ => True) (.slice A1 L c1) l'))
  case atStart => exact ⟨0, by omega, by omega, rfl, ⟨hb5⟩, ⟨h525⟩, ⟨h595⟩, ⟨pend, HL.out, hr5⟩⟩
  case round =>
    clear hb5 h525 h595 hr5 HBD HB2 H52 H59 HR1 HK0 HK1
    obtain ⟨i, hik, hin, rfl, HB, H52, H59, HR⟩ := hrel
    by_cases hlt : i < L
    · have hltz : (i : Int) < (L : Int) := by omega
      obtain ⟨g', rfl⟩ : ∃ g', gk = g' + 1 := ⟨gk - 1, by omega⟩
      obtain ⟨l', hl', hR⟩ := HR.out
      obtain ⟨g, rfl⟩ := own_addr hR (by omega)
      have hc2 : wr.cell? ⟨g1, 2, none⟩ = some (.slice (some ⟨g, 0, none⟩) L c1) := (blk_cell H59.out 2).trans rfl
      obtain ⟨hcl, hfz⟩ := Kd.R_cell (0 : Int) (by rw [hl']; exact hR) (i : Int) (by omega) (by omega)
      have h0i : (0 : Int) ≤ (i : Int) := by omega
      obtain ⟨z, hz⟩ : ∃ z, rdOf 0 l' (i : Int) = z := ⟨_, rfl⟩
      rw [hz] at hcl
      rw [Int.toNat_natCast] at hcl hfz
      have HRR := Lib.hid hR
      have HLE := Lib.hid hl'
      clear hR hl' hz HR
      go_wp2
      have hput := Kd.R_putg (h1 := fun _ => rfl) HRR.out (i : Int) ((z + 1) % 256)
      rw [Int.toNat_natCast] at hput
      have hgw : ∀ k, some g = some k → w.heap.size ≤ k := fun k hk => Kd.R_base HRR.out k (by simpa [Value.ownBlock] using hk)
      obtain ⟨cs5, hcs5⟩ := Kd.R_typed HRR.out g (by simp [Value.ownBlock])
      have hB6 := pw_below_grown HB.out (some g) HB.out.size hput.2 hgw
      have h526 := blk_far H52.out (p := ⟨g, i, none⟩) (blk_ne H52.out hcs5 (by decide)) (.int .u8 ((z + 1) % 256))
      have h596 := blk_far H59.out (p := ⟨g, i, none⟩) (blk_ne H59.out hcs5 (by decide)) (.int .u8 ((z + 1) % 256))
      go_roundg g'
      case measure => omega
      case rel => exact ⟨i + 1, by omega, by omega, by go_num, ⟨hB6⟩, ⟨h526⟩, ⟨h596⟩, ⟨l'.set i ((z + 1) % 256), by rw [List.length_set, HLE.out], hput.1⟩⟩
    · have hltz : ¬ ((i : Int) < (L : Int)) := by omega
      obtain rfl : i = L := by omega
      have hc2 : wr.cell? ⟨g1, 2, none⟩ = some (.slice A1 i c1) := (blk_cell H59.out 2).trans rfl
      clear HR hlt hik hin
      go_wp2
      have hb7 := below_drew1 HB.out
      have h527 := blk_drew H52.out
      clear hc2
      refine start_ (n := 8) (S := fun w' => Below wr.drew.heap.size wr.drew w') (ds := []) #[false, false, false, false, false, false, false, false] (by kernel_rfl) rfl rfl (Below.refl _ _) (fun hHeld => ?_)
      clear hHeld
      generalize wr.drew = W3 at hb7 h527 ⊢
      have hk1 : ∀ W : World, Below W3.heap.size W3 W → W.cell? ⟨w.heap.size, 0, none⟩ = some (.int .i64 s) ∧ W.cell? ⟨w.heap.size, 1, none⟩ = some (.int .i64 b) ∧ W.cell? ⟨w.heap.size, 2, none⟩ = some (.slice A i c) := fun W hB => ⟨pw_cell_below hB ((blk_cell h527 0).trans rfl), pw_cell_below hB ((blk_cell h527 1).trans rfl), pw_cell_below hB ((blk_cell h527 2).trans rfl)⟩
      have HK1 := Lib.hid hk1
      have HB7 := Lib.hid hb7
      clear hk1 hb7 h527
      refine pure_ (i := 0) (N := some 41) (v := ?_) (a' := ?_) #[true, false, false, false, false, false, false, false] rfl rfl (by kernel_rfl) (fun _ _ _ h => h) (Or.inl ⟨by rfl, ?_⟩) ?_ ?_
      rotate_left
      · intro w'
        go_simp
        with_reducible rfl
      rotate_left
      · simp only [Act.put, List.setIfInBounds_toArray, List.set_cons_zero, List.set_cons_succ, i64_w, i32_w]
        rfl
      refine pure_ (i := 1) (N := some 42) (v := ?_) (a' := ?_) #[true, true, false, false, false, false, false, false] rfl rfl (by kernel_rfl) (fun _ _ _ h => h) (Or.inl ⟨by rfl, ?_⟩) ?_ ?_
      rotate_left
      · intro w'
        go_simp
        with_reducible rfl
      rotate_left
      · simp only [Act.put, List.setIfInBounds_toArray, List.set_cons_zero, List.set_cons_succ, i64_w, i32_w]
        rfl
      refine pure_ (i := 2) (N := some 43) (v := ?_) (a' := ?_) #[true, true, true, false, false, false, false, false] rfl rfl (by kernel_rfl) (fun _ _ _ h => h) (Or.inl ⟨by rfl, ?_⟩) ?_ ?_
      rotate_left
      · intro w'
        go_simp
        with_reducible rfl
      rotate_left
      · simp only [Act.put, List.setIfInBounds_toArray, List.set_cons_zero, List.set_cons_succ, i64_w, i32_w]
        rfl
      refine take_ (i := 4) (N := some 45) (v := ?_) (a' := ?_) #[true, true, true, false, true, false, false, false] rfl rfl (by kernel_rfl) (fun _ _ _ h => h) (Or.inl ⟨by rfl, ?_⟩) (Below.refl _ _) ?_ ?_
      rotate_left
      · intro w' s0
        obtain ⟨x0, x1, x2⟩ := HK1.out w' s0
        go_simp
        with_reducible rfl
      rotate_left
      · simp only [Act.put, List.setIfInBounds_toArray, List.set_cons_zero, List.set_cons_succ, i64_w, i32_w]
        rfl
      refine one_ (i := 3) (N := some 44) #[true, true, true, true, true, false, false, false] rfl rfl (by kernel_rfl) (by decide) (fun K hK => ?_)
      refine goes_ Tryd.func40 (by kernel_rfl) rfl #[.pointer (some ⟨p, 0, none⟩)] (by rfl) rfl rfl (by (try simp only [List.map_toArray, List.map_cons, List.map_nil]); first | done | rfl) ?_
      with_reducible refine (state_sl p s b pend i HL.out ok _ (HS.out.below HB7.out) (by have := HLL.out; omega)).mono ?_
      rintro e wn ⟨A6, c6, rfl, hf⟩
      refine ⟨_, rfl, ?_⟩
      have hbn := hf.2
      refine hK _ _ hbn (fun _ => ?_)
      refine norm_ (a' := ?_) ?_ ?_
      rotate_left
      · simp only [Act.put, List.setIfInBounds_toArray, List.set_cons_zero, List.set_cons_succ, i64_w, i32_w]
        rfl
      have HBD := Lib.hid hbn
      have HR6 := Lib.hid hf.1
      clear hf hbn
      refine one_ (i := 5) (N := some 46) #[true, true, true, true, true, true, false, false] rfl rfl (by kernel_rfl) (by decide) (fun K hK => ?_)
      refine goes_ Tryd.func52 (by kernel_rfl) rfl #[.agg #[.int .i64 s, .int .i64 b, .slice A6 i c6], .agg #[.int .i64 s, .int .i64 b, .slice A i c]] (by rfl) rfl rfl (by (try simp only [List.map_toArray, List.map_cons, List.map_nil]); first | done | rfl) ?_
      with_reducible refine (HSM.out _ (below_step HB7.out HBD.out) A6 c6 (Kd.R_lower HR6.out HB7.out.size)).mono ?_
      rintro e wn ⟨rfl, hb⟩
      refine ⟨_, rfl, ?_⟩
      have hbn := below_step HBD.out hb
      refine hK _ _ hbn (fun _ => ?_)
      refine norm_ (a' := ?_) ?_ ?_
      rotate_left
      · simp only [Act.put, List.setIfInBounds_toArray, List.set_cons_zero, List.set_cons_succ, i64_w, i32_w]
        rfl
      have HBE := Lib.hid (below_step HB7.out hbn)
      clear hb hbn HBD
      refine pure_ (i := 6) (N := some 47) (v := ?_) (a' := ?_) #[true, true, true, true, true, true, true, false] rfl rfl (by kernel_rfl) (fun _ _ _ h => h) (Or.inl ⟨by rfl, ?_⟩) ?_ ?_
      rotate_left
      · intro w'
        go_simp
        with_reducible rfl
      rotate_left
      · simp only [Act.put, List.setIfInBounds_toArray, List.set_cons_zero, List.set_cons_succ, i64_w, i32_w]
        rfl
      refine pure_ (i := 7) (N := some 4) (v := ?_) (a' := ?_) #[true, true, true, true, true, true, true, true] rfl rfl (by kernel_rfl) (fun _ _ _ h => h) (Or.inl ⟨by rfl, ?_⟩) ?_ ?_
      rotate_left
      · intro w'
        go_simp
        with_reducible rfl
      rotate_left
      · simp only [Act.put, List.setIfInBounds_toArray, List.set_cons_zero, List.set_cons_succ, i64_w, i32_w]
        rfl
      refine done_ (by kernel_rfl) ?_
      go_wp2
      go_ret
      exact ⟨rfl, HBE.out⟩
end Go.Proofs.YtjlhehaagaaihaaDoor.P
