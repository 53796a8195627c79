/- The calls of the reference's Of and Next, over rows that are only read. No condition. -/
import Derived.Test.YtjlhehaagaaihaaDoorGf
import Derived.Test.YtjlhehaagaaihaaDoorMg
namespace Go.Proofs.YtjlhehaagaaihaaDoor.P
open Go.RowKit Go.Lib Go.Proofs.YtjlhehaagaaihaaDoorW.PrintWords Go.Proofs.YtjlhehaagaaihaaDoorW.PrintLast Go.Proofs.YtjlhehaagaaihaaDoorW.PrintMore Go.Proofs.YtjlhehaagaaihaaDoor.Pure
attribute [local go_sem] max2_int min2_int max_two min_two max_three min_three max_four min_four run_fld0 run_fld1 run_fld2
set_option linter.unusedVariables false
set_option linter.unusedSimpArgs false

set_option maxHeartbeats 1000000 in
set_option maxRecDepth 100000 in
theorem next_range (s b : Int) (L : Nat) (A : Option Addr) (c : Nat) (A1 : Option Addr) (n1 c1 : Nat) (w : World) (hs : 0 ≤ s) (hs' : s ≤ 1099511627776) (hn : 1099511627776 - s < (n1 : Int)) :
    Calls Tryd.prog 37 #[.agg #[.int .i64 s, .int .i64 b, .slice A L c], .slice A1 n1 c1] w fun e w' => e = .returned (.tuple #[.agg #[.int .i64 s, .int .i64 b, .slice A L c], .int .i64 13]) ∧ Below w.heap.size w w' := by
  have hu52 := Tryd.underlying52
  have hw : wrap64 (1099511627776 - s) = 1099511627776 - s := w64 (by omega) (by omega)
  have hW0 : Below w.heap.size w (w.alloc (.cells #[.int .i64 s, .int .i64 b, .slice A L c] 52)) := (Below.refl _ _).alloc (Nat.le_refl _) _
  have hN0 : (w.alloc (.cells #[.int .i64 s, .int .i64 b, .slice A L c] 52)).heap[w.heap.size]? = some (.cells #[.int .i64 s, .int .i64 b, .slice A L c] 52 (0, 0)) := blk_new w _
  go_enter Tryd.func37, Tryd.ntmps37
  go_wp2
  exact bodyPost_ret (v := .tuple #[.agg #[.int .i64 s, .int .i64 b, .slice A L c], .int .i64 13]) (by simp [results, Tryd.results37, go_sem]) rfl ⟨rfl, by repeat (first | exact Below.refl _ _ | (refine Below.alloc ?_ (by simp) _))⟩
/-- A state is told: three cells of a fresh block are written. -/
theorem three_set {w W : World} {g t : Nat} {z0 z1 z2 : Value} (hN : W.heap[g]? = some (.cells #[z0, z1, z2] t (0, 0))) (hB : Below w.heap.size w W) (hg : w.heap.size ≤ g) (a b c : Value) :
    Below w.heap.size w (((W.setCell ⟨g, 0, none⟩ a).setCell ⟨g, 1, none⟩ b).setCell ⟨g, 2, none⟩ c) ∧ (((W.setCell ⟨g, 0, none⟩ a).setCell ⟨g, 1, none⟩ b).setCell ⟨g, 2, none⟩ c).cell? ⟨g, 0, none⟩ = some a ∧
      (((W.setCell ⟨g, 0, none⟩ a).setCell ⟨g, 1, none⟩ b).setCell ⟨g, 2, none⟩ c).cell? ⟨g, 1, none⟩ = some b ∧ (((W.setCell ⟨g, 0, none⟩ a).setCell ⟨g, 1, none⟩ b).setCell ⟨g, 2, none⟩ c).cell? ⟨g, 2, none⟩ = some c := by
  have h3 := blk_set (blk_set (blk_set hN 0 a) 1 b) 2 c
  exact ⟨((hB.setCell (p := ⟨g, 0, none⟩) hg a).setCell (p := ⟨g, 1, none⟩) hg b).setCell (p := ⟨g, 2, none⟩) hg c, (blk_cell h3 0).trans rfl, (blk_cell h3 1).trans rfl, (blk_cell h3 2).trans rfl⟩
theorem fault25 (l : List Int) (n : Nat) (A : Option Addr) (c : Nat) (w : World) (hl : l.length = n) (hC : Kd.C (Kd.int .u8) w A n l) (hc : n ≤ c) (hb : Bytes l) (hn : n < 140737488355328) : ∀ W : World, Below w.heap.size w W → Calls Tryd.prog 25 #[.slice A n c] W fun e w' => e = .returned (.int .i64 (faultN l)) ∧ Below W.heap.size W w' := fun W hB => by
  subst hl
  obtain ⟨k, hk⟩ := (rfault l hb (by omega)).rounds
  exact gessoref01_Fault.calls k A c l _ W (Kd.C_below hC hB) hc hk
set_option maxHeartbeats 1000000 in
set_option maxRecDepth 100000 in
theorem of_none (l : List Int) (n : Nat) (A : Option Addr) (c : Nat) (w : World) (hl : l.length = n) (hC : Kd.C (Kd.int .u8) w A n l) (hc : n ≤ c) (hb : Bytes l) (hn : n < 140737488355328) (f : Int) (hf : faultN l = f) (hf0 : f < 0) :
    Calls Tryd.prog 56 #[.slice A n c] w fun e w' => e = .returned (.agg #[.int .i64 (n : Int), .int .i64 f, .slice none 0 0]) ∧ Below w.heap.size w w' := by
  have hu52 := Tryd.underlying52
  have HF := Lib.hid (fault25 l n A c w hl hC hc hb hn)
  rw [hf] at HF
  have hge : ¬ f ≥ 0 := by omega
  have hge' : ¬ 0 ≤ f := by omega
  have hW0 : Below w.heap.size w (w.alloc (.cells #[.int .i64 0, .int .i64 0, .slice none 0 0] 52)) := (Below.refl _ _).alloc (Nat.le_refl _) _
  have hN0 : (w.alloc (.cells #[.int .i64 0, .int .i64 0, .slice none 0 0] 52)).heap[w.heap.size]? = some (.cells #[.int .i64 0, .int .i64 0, .slice none 0 0] 52 (0, 0)) := blk_new w _
  have HW0 := Lib.hid hW0
  have HN0 := Lib.hid hN0
  clear hW0 hN0 hC hb hl hf
  go_enter Tryd.func56, Tryd.ntmps56
  go_wp2_with (first | (go_at_call 25; ((with_reducible refine (HF.out _ HW0.out).mono ?_); rintro e w1 ⟨rfl, hb1⟩; have HB1 := Lib.hid (below_step HW0.out hb1); have hN1 := blk_alloc (blk_below HN0.out hb1) (.cells #[.int .i64 (n : Int), .int .i64 f, .slice none 0 0] 52); have g0 := (blk_cell hN1 0).trans rfl; have g1 := (blk_cell hN1 1).trans rfl; have g2 := (blk_cell hN1 2).trans rfl; have f0 := blk_frozen hN1 0; have f1 := blk_frozen hN1 1; have f2 := blk_frozen hN1 2)))
  obtain ⟨hb3, q0, q1, q2⟩ := three_set hN1 (HB1.out.alloc HB1.out.size _) (Nat.le_refl _) (.int .i64 (n : Int)) (.int .i64 f) (.slice none 0 0)
  generalize (((w1.alloc (Obj.cells #[Value.int .i64 (n : Int), Value.int .i64 f, Value.slice none 0 0] 52)).setCell ⟨w.heap.size, 0, none⟩ (.int .i64 (n : Int))).setCell ⟨w.heap.size, 1, none⟩ (.int .i64 f)).setCell ⟨w.heap.size, 2, none⟩ (.slice none 0 0) = W3 at *
  exact bodyPost_ret (v := .agg #[.int .i64 (n : Int), .int .i64 f, .slice none 0 0]) (by simp [results, Tryd.results56, go_sem, q0, q1, q2]) rfl ⟨rfl, hb3⟩
theorem open32 (l : List Int) (n : Nat) (A : Option Addr) (c : Nat) (w : World) (hl : l.length = n) (hF : Kd.F (Kd.int .u8) w (fun k => True) A n l) (hc : n ≤ c) (hb : Bytes l) : ∀ W : World, Below w.heap.size w W → Calls Tryd.prog 32 #[.slice A n c] W fun e w' => e = .returned (.bool (openB l)) ∧ Below W.heap.size W w' := fun W hB => by
  subst hl
  obtain ⟨k, hk⟩ := (ref_open l hb).rounds
  exact gessoref02_Open.calls k A c l _ W (Kd.F_now (Kd.F_below hF hB)) hc hk
set_option maxHeartbeats 1000000 in
set_option maxRecDepth 100000 in
theorem of_bad (l : List Int) (n : Nat) (A : Option Addr) (c : Nat) (w : World) (hl : l.length = n) (hC : Kd.C (Kd.int .u8) w A n l) (hc : n ≤ c) (hb : Bytes l) (hn : n < 140737488355328) (f : Int) (hf : faultN l = f) (hf0 : 0 ≤ f) (ho : openB (l.drop f.toNat) = false) :
    Calls Tryd.prog 56 #[.slice A n c] w fun e w' => e = .returned (.agg #[.int .i64 (n : Int), .int .i64 f, .slice none 0 0]) ∧ Below w.heap.size w w' := by
  have hu52 := Tryd.underlying52
  have HF := Lib.hid (fault25 l n A c w hl hC hc hb hn)
  rw [hf] at HF
  have hge : f ≥ 0 := hf0
  obtain ⟨j, rfl⟩ : ∃ j : Nat, f = (j : Int) := ⟨f.toNat, by omega⟩
  have hjl : j ≤ l.length := by have := (fault_le l hb).1; omega
  have hF0 := Kd.C_F (Kd.heap_int .u8) (hl ▸ hC)
  obtain ⟨AB, nB, cB, hcutB, hFB, hnB, hcB⟩ := F_cut hF0 (by rw [hl]; exact hc) j hjl
  rw [hl] at hcutB
  rw [Int.toNat_natCast] at ho
  have hop := open32 (l.drop j) nB AB cB w hnB.symm (Kd.F_mono hFB (fun _ _ => trivial)) hcB (hb.drop j)
  rw [ho] at hop
  have HOP := Lib.hid hop
  have hW0 : Below w.heap.size w (w.alloc (.cells #[.int .i64 0, .int .i64 0, .slice none 0 0] 52)) := (Below.refl _ _).alloc (Nat.le_refl _) _
  have hN0 : (w.alloc (.cells #[.int .i64 0, .int .i64 0, .slice none 0 0] 52)).heap[w.heap.size]? = some (.cells #[.int .i64 0, .int .i64 0, .slice none 0 0] 52 (0, 0)) := blk_new w _
  have HW0 := Lib.hid hW0
  have HN0 := Lib.hid hN0
  clear hW0 hN0 hC hb hl hf hF0 hFB hop hjl hnB
  go_enter Tryd.func56, Tryd.ntmps56
  go_wp2_with (first
    | (go_at_call 25; ((with_reducible refine (HF.out _ HW0.out).mono ?_); rintro e w1 ⟨rfl, hb1⟩; have HB1 := Lib.hid ((below_step HW0.out hb1).alloc (below_step HW0.out hb1).size (.cells #[.int .i64 (n : Int), .int .i64 (j : Int), .slice none 0 0] 52)); have HN1 := Lib.hid (blk_alloc (blk_below HN0.out hb1) (.cells #[.int .i64 (n : Int), .int .i64 (j : Int), .slice none 0 0] 52)); have HN4 := Lib.hid (blk_new w1 (.cells #[.int .i64 (n : Int), .int .i64 (j : Int), .slice none 0 0] 52)); clear hb1))
    | (go_at_call 32; ((with_reducible refine (HOP.out _ HB1.out).mono ?_); rintro e w2 ⟨rfl, hb2⟩; have HB2 := Lib.hid (below_step HB1.out hb2); have hN2 := blk_below HN1.out hb2; have hN4 := blk_below HN4.out hb2; have k0 := (blk_cell hN4 0).trans rfl; have k1 := (blk_cell hN4 1).trans rfl; have k2 := (blk_cell hN4 2).trans rfl; have g0 := (blk_cell hN2 0).trans rfl; have g1 := (blk_cell hN2 1).trans rfl; have g2 := (blk_cell hN2 2).trans rfl; have f0 := blk_frozen hN2 0; have f1 := blk_frozen hN2 1; have f2 := blk_frozen hN2 2)))
  obtain ⟨hb3, q0, q1, q2⟩ := three_set hN2 HB2.out (Nat.le_refl _) (.int .i64 (n : Int)) (.int .i64 (j : Int)) (.slice none 0 0)
  generalize ((w2.setCell ⟨w.heap.size, 0, none⟩ (.int .i64 (n : Int))).setCell ⟨w.heap.size, 1, none⟩ (.int .i64 (j : Int))).setCell ⟨w.heap.size, 2, none⟩ (.slice none 0 0) = W3 at *
  exact bodyPost_ret (v := .agg #[.int .i64 (n : Int), .int .i64 (j : Int), .slice none 0 0]) (by simp [results, Tryd.results56, go_sem, q0, q1, q2]) rfl ⟨rfl, hb3⟩
set_option maxHeartbeats 1000000 in
set_option maxRecDepth 100000 in
theorem of_open (l : List Int) (n : Nat) (A : Option Addr) (c : Nat) (w : World) (hl : l.length = n) (hC : Kd.C (Kd.int .u8) w A n l) (hc : n ≤ c) (hb : Bytes l) (hn : n < 140737488355328) (f : Int) (hf : faultN l = f) (hf0 : 0 ≤ f) (ho : openB (l.drop f.toNat) = true) :
    Calls Tryd.prog 56 #[.slice A n c] w fun e w' => ∃ A' c', e = .returned (.agg #[.int .i64 (n : Int), .int .i64 (-1), .slice A' (l.drop f.toNat).length c']) ∧ Fresh w w' (.slice A' (l.drop f.toNat).length c') (l.drop f.toNat) := by
  have hu52 := Tryd.underlying52
  have HF := Lib.hid (fault25 l n A c w hl hC hc hb hn)
  rw [hf] at HF
  have hge : f ≥ 0 := hf0
  obtain ⟨j, rfl⟩ : ∃ j : Nat, f = (j : Int) := ⟨f.toNat, by omega⟩
  have hjl : j ≤ l.length := by have := (fault_le l hb).1; omega
  have hF0 := Kd.C_F (Kd.heap_int .u8) (hl ▸ hC)
  obtain ⟨AB, nB, cB, hcutB, hFB, hnB, hcB⟩ := F_cut hF0 (by rw [hl]; exact hc) j hjl
  rw [hl] at hcutB
  rw [Int.toNat_natCast] at ho ⊢
  obtain ⟨d, hd⟩ : ∃ d, l.drop j = d := ⟨_, rfl⟩
  have hnl : nB ≤ n := by rw [hnB, List.length_drop]; omega
  have hbd := hb.drop j
  rw [hd] at ho hFB hnB hbd ⊢
  have HND := Lib.hid hnB
  rw [← hnB]
  have HFB := Lib.hid hFB
  have HNB := Lib.hid hnl
  have hop := open32 d nB AB cB w hnB.symm (Kd.F_mono hFB (fun _ _ => trivial)) hcB hbd
  rw [ho] at hop
  have HOP := Lib.hid hop
  have hW0 : Below w.heap.size w (w.alloc (.cells #[.int .i64 0, .int .i64 0, .slice none 0 0] 52)) := (Below.refl _ _).alloc (Nat.le_refl _) _
  have hN0 : (w.alloc (.cells #[.int .i64 0, .int .i64 0, .slice none 0 0] 52)).heap[w.heap.size]? = some (.cells #[.int .i64 0, .int .i64 0, .slice none 0 0] 52 (0, 0)) := blk_new w _
  have HW0 := Lib.hid hW0
  have HN0 := Lib.hid hN0
  clear hW0 hN0 hC hb hl hf hF0 hFB hop hjl hnB hd hnl hbd ho
  go_enter Tryd.func56, Tryd.ntmps56
  go_wp2_with (first
    | (go_at_call 25; ((with_reducible refine (HF.out _ HW0.out).mono ?_); rintro e w1 ⟨rfl, hb1⟩; have hne1 : w.heap.size ≠ w1.heap.size := Nat.ne_of_lt (blk_lt (blk_below HN0.out hb1)); have hne2 := hne1.symm; have hle1 := Nat.le_of_lt (blk_lt (blk_below HN0.out hb1)); have HB1 := Lib.hid ((below_step HW0.out hb1).alloc (below_step HW0.out hb1).size (.cells #[.int .i64 (n : Int), .int .i64 (j : Int), .slice none 0 0] 52)); have HN1 := Lib.hid (blk_alloc (blk_below HN0.out hb1) (.cells #[.int .i64 (n : Int), .int .i64 (j : Int), .slice none 0 0] 52)); have HN4 := Lib.hid (blk_new w1 (.cells #[.int .i64 (n : Int), .int .i64 (j : Int), .slice none 0 0] 52)); clear hb1))
    | (go_at_call 32; ((with_reducible refine (HOP.out _ HB1.out).mono ?_); rintro e w2 ⟨rfl, hb2⟩; have HB2 := Lib.hid (below_step HB1.out hb2); have hN2 := blk_below HN1.out hb2; have hN4 := blk_below HN4.out hb2; have HN2 := Lib.hid hN2; have HN4b := Lib.hid hN4; clear hb2 hN2 hN4))
    | ((with_reducible refine gate_dst (N := 19) rfl ?_); refine Kd.R_lit (Kd.int .u8) w2.heap.size 5 ?hg (N := 19) ?hd (xs := ([] : List Int)) (inner := []) (ok := fun k => w2.heap.size ≤ k) (okp := fun _ => False) ?hr ?hp (fun _ hk => hk.elim) (Nat.le_refl _) (Below.refl _ _) (Nat.le_refl _) (by simp) ?_; (case hd => rfl); (case hg => rfl); (case hr => first | (go_simp; done) | (go_simp; rfl)); (case hp => exact (Reps.none _ _)); intro v3 w3 ho3 hb3 hg_ hnew_; have HO3 := Lib.hid ho3; have HB3 := Lib.hid hb3; clear ho3 hb3 hg_ hnew_)
    | ((with_reducible refine gate_builtin (b := .append) (xs := #[.tmp 19, .tmp 22]) rfl ?_); at_builtin; refine Kd.R_append_rows (Kd.int .u8) (w0 := w2) w2.heap.size rfl (.tmp 19) (.tmp 22) 23 5 (.int .u8 0) 1 rfl Tryd.underlying23 info5 rfl (by decide) (by omega) v3 [] d _ _ _ (fun k => w2.heap.size ≤ k) (fun _ => False) rfl rfl HO3.out (Kd.F_now (Kd.F_below HFB.out (below_step HB2.out HB3.out))) (fun _ _ h => h) (fun _ h => h.elim) (fun k hk => Nat.le_trans HB3.out.size hk) HB3.out HB3.out.size (by have := HNB.out; rw [List.length_nil]; omega) ?_; intro v4 w4 ho4 hb4 hg_ hat_; rw [List.nil_append] at ho4; (obtain ⟨A4, c4, e4⟩ := Kd.R_slice ho4); subst e4; rw [← HND.out] at ho4 ⊢; have HO4 := Lib.hid ho4; have HB4 := Lib.hid (below_step HB2.out hb4); have hN2 := blk_below HN2.out hb4; have hN4 := blk_below HN4b.out hb4; have k0 := (blk_cell hN4 0).trans rfl; have k1 := (blk_cell hN4 1).trans rfl; have k2 := (blk_cell hN4 2).trans rfl; have g0 := (blk_cell hN2 0).trans rfl; have g1 := (blk_cell hN2 1).trans rfl; have g2 := (blk_cell hN2 2).trans rfl; have f0 := blk_frozen hN2 0; have f1 := blk_frozen hN2 1; have f2 := blk_frozen hN2 2; have e0 := blk_frozen hN4 0; have e1 := blk_frozen hN4 1; have e2 := blk_frozen hN4 2; clear ho4 hb4 hg_ hat_))
  have l1 := blk_lt HN4b.out
  have l2 := blk_lt HN2.out
  have hB5 := (HB4.out.setCell (p := ⟨w1.heap.size, 1, none⟩) hle1 (.int .i64 (-1))).setCell (p := ⟨w1.heap.size, 2, none⟩) hle1 (.slice A4 nB c4)
  have hN5 := blk_far (blk_far hN2 (p := ⟨w1.heap.size, 1, none⟩) hne1 (.int .i64 (-1))) (p := ⟨w1.heap.size, 2, none⟩) hne1 (.slice A4 nB c4)
  obtain ⟨hb6, q0, q1, q2⟩ := three_set hN5 hB5 (Nat.le_refl _) (.int .i64 (n : Int)) (.int .i64 (-1)) (.slice A4 nB c4)
  have ne1 : ∀ k, w2.heap.size ≤ k → k ≠ w1.heap.size := fun k hk => by omega
  have ne2 : ∀ k, w2.heap.size ≤ k → k ≠ w.heap.size := fun k hk => by omega
  have r1 := Kd.R_far (p := ⟨w1.heap.size, 2, none⟩) (Kd.R_far (p := ⟨w1.heap.size, 1, none⟩) HO4.out ne1 (.int .i64 (-1))) ne1 (.slice A4 nB c4)
  have r2 := Kd.R_far (p := ⟨w.heap.size, 2, none⟩) (Kd.R_far (p := ⟨w.heap.size, 1, none⟩) (Kd.R_far (p := ⟨w.heap.size, 0, none⟩) r1 ne2 (.int .i64 (n : Int))) ne2 (.int .i64 (-1))) ne2 (.slice A4 nB c4)
  have r3 := Kd.R_mono (ok' := fun _ => True) (Kd.R_lower r2 (Nat.le_of_lt l2)) (fun _ _ => trivial)
  clear r1 r2
  generalize (((((w4.setCell ⟨w1.heap.size, 1, none⟩ (.int .i64 (-1))).setCell ⟨w1.heap.size, 2, none⟩ (.slice A4 nB c4)).setCell ⟨w.heap.size, 0, none⟩ (.int .i64 (n : Int))).setCell ⟨w.heap.size, 1, none⟩ (.int .i64 (-1))).setCell ⟨w.heap.size, 2, none⟩ (.slice A4 nB c4)) = W3 at *
  exact bodyPost_ret (v := .agg #[.int .i64 (n : Int), .int .i64 (-1), .slice A4 nB c4]) (by simp [results, Tryd.results56, go_sem, q0, q1, q2]) rfl ⟨A4, c4, rfl, r3, hb6⟩
theorem of_any (l : List Int) (n : Nat) (A : Option Addr) (c : Nat) (w : World) (hl : l.length = n) (hC : Kd.C (Kd.int .u8) w A n l) (hc : n ≤ c) (hb : Bytes l) (hn : n < 140737488355328) (B : Int) (P : List Int) (m : Nat)
    (hB : lookBad 0 (-1) (faultN l) (openB (l.drop (faultN l).toNat)) = B) (hP : lookPend l (faultN l) (openB (l.drop (faultN l).toNat)) = P) (hm : P.length = m) :
    Calls Tryd.prog 56 #[.slice A n c] w fun e w' => ∃ A' c', e = .returned (.agg #[.int .i64 (n : Int), .int .i64 B, .slice A' m c']) ∧ Fresh w w' (.slice A' m c') P := by
  have hf := fault_le l hb
  unfold lookBad at hB
  unfold lookPend at hP
  by_cases h : faultN l < 0
  · rw [if_pos h] at hB hP
    subst hP
    obtain rfl : m = 0 := hm.symm
    refine (of_none l n A c w hl hC hc hb hn (faultN l) rfl h).mono fun e w' q => ⟨none, 0, ?_, Kd.R_nil _ _ _ _ _, q.2⟩
    rw [q.1, show faultN l = B by omega]
  · rw [if_neg h] at hB hP
    by_cases ho : openB (l.drop (faultN l).toNat) = true
    · rw [if_pos ho] at hB hP
      subst hP
      subst hm
      subst hB
      exact of_open l n A c w hl hC hc hb hn (faultN l) rfl (by omega) ho
    · rw [if_neg ho] at hB hP
      subst hP
      obtain rfl : m = 0 := hm.symm
      refine (of_bad l n A c w hl hC hc hb hn (faultN l) rfl (by omega) (by simpa using ho)).mono fun e w' q => ⟨none, 0, ?_, Kd.R_nil _ _ _ _ _, q.2⟩
      rw [q.1, show faultN l = B by omega]
theorem next_blocks (w : World) (a b : Obj) : ((w.alloc a).alloc b).heap[w.heap.size]? = some a ∧ ((w.alloc a).alloc b).heap[w.heap.size + 1]? = some b ∧ Below w.heap.size w ((w.alloc a).alloc b) := by
  refine ⟨blk_alloc (blk_new w a) b, ?_, ((Below.refl _ _).alloc (Nat.le_refl _) _).alloc (by simp) _⟩
  have := blk_new (w.alloc a) b
  simpa using this
set_option maxHeartbeats 1000000 in
set_option maxRecDepth 100000 in
theorem next_bad_ (s b : Int) (pend x : List Int) (L : Nat) (A : Option Addr) (c : Nat) (A1 : Option Addr) (n1 c1 : Nat) (w : World) (hs : 0 ≤ s) (hs' : s ≤ 1099511627776) (hn : ¬ 1099511627776 - s < (n1 : Int)) (hb : 0 ≤ b) (hL : pend.length = L) (hx : x.length = n1) (hL2 : L ≤ 1099511627776)
    (hC : Kd.C (Kd.int .u8) w A L pend) (hC1 : Kd.C (Kd.int .u8) w A1 n1 x) :
    Calls Tryd.prog 37 #[.agg #[.int .i64 s, .int .i64 b, .slice A L c], .slice A1 n1 c1] w fun e w' => e = .returned (.tuple #[.agg #[.int .i64 (s + n1), .int .i64 b, .slice none 0 0], .int .i64 0]) ∧ Below w.heap.size w w' := by
  have hu52 := Tryd.underlying52
  have hw : wrap64 (1099511627776 - s) = 1099511627776 - s := w64 (by omega) (by omega)
  have hw2 : wrap64 (s + n1) = s + n1 := w64 (by omega) (by omega)
  have hbge : b ≥ 0 := hb
  obtain ⟨hN0, hN1, hB0⟩ := next_blocks w (.cells #[.int .i64 s, .int .i64 b, .slice A L c] 52) (.cells #[.int .i64 0, .int .i64 0, .slice none 0 0] 52)
  obtain ⟨Wd, hWd⟩ : ∃ W, (w.alloc (.cells #[.int .i64 s, .int .i64 b, .slice A L c] 52)).alloc (.cells #[.int .i64 0, .int .i64 0, .slice none 0 0] 52) = W := ⟨_, rfl⟩
  have HN0 := Lib.hid (hWd ▸ hN0)
  have HN1 := Lib.hid (hWd ▸ hN1)
  have HB0 := Lib.hid (hWd ▸ hB0)
  have HWd := Lib.hid hWd
  have HC := Lib.hid hC
  have HC1 := Lib.hid hC1
  have HL := Lib.hid hL
  have HX := Lib.hid hx
  have HL2 := Lib.hid hL2
  have HNN := Lib.hid (show n1 ≤ 1099511627776 by omega)
  clear hN0 hN1 hB0 hWd hC hC1 hL hx hL2
  go_enter Tryd.func37, Tryd.ntmps37
  go_wp2_with (first
    | ((with_reducible refine gate_dst (N := 16) rfl ?_); rw [HWd.out]; refine Kd.R_lit (Kd.int .u8) Wd.heap.size 5 ?hg (N := 16) ?hd (xs := ([] : List Int)) (inner := []) (ok := fun k => Wd.heap.size ≤ k) (okp := fun _ => False) ?hr ?hp (fun _ hk => hk.elim) (Nat.le_refl _) (Below.refl _ _) (Nat.le_refl _) (by simp) ?_; (case hd => rfl); (case hg => rfl); (case hr => first | (go_simp; done) | (go_simp; rfl)); (case hp => exact (Reps.none _ _)); intro v1 w1 ho hb1 hg_ hnew_; have HO1 := Lib.hid ho; have HB1 := Lib.hid hb1; have k2 := (blk_cell (blk_below HN0.out hb1) 2).trans rfl; clear ho hb1 hg_ hnew_)
    | ((with_reducible refine gate_builtin (b := .append) (xs := #[.tmp 16, .tmp 18]) rfl ?_); at_builtin; refine Kd.R_append_rows (Kd.int .u8) (w0 := Wd) Wd.heap.size rfl (.tmp 16) (.tmp 18) 23 5 (.int .u8 0) 1 rfl Tryd.underlying23 info5 rfl (by decide) (by omega) v1 [] pend _ _ _ (fun k => Wd.heap.size ≤ k) (fun _ => False) rfl rfl HO1.out (Kd.C_below HC.out (below_step HB0.out HB1.out)) (fun _ _ h => h) (fun _ h => h.elim) (fun k hk => Nat.le_trans HB1.out.size hk) HB1.out HB1.out.size (by have := HL2.out; rw [List.length_nil]; omega) ?_; intro v2 w2 ho hb2 hg_ hat_; rw [List.nil_append] at ho; have HO2 := Lib.hid ho; have HB2 := Lib.hid hb2; clear ho hb2 hg_ hat_ HO1 HB1 k2)
    | ((with_reducible refine gate_builtin (b := .append) (xs := #[.tmp 19, .tmp 20]) rfl ?_); at_builtin; refine Kd.R_append_rows (Kd.int .u8) (w0 := Wd) Wd.heap.size rfl (.tmp 19) (.tmp 20) 23 5 (.int .u8 0) 1 rfl Tryd.underlying23 info5 rfl (by decide) (by omega) v2 pend x _ _ _ (fun k => Wd.heap.size ≤ k) (fun _ => False) rfl rfl HO2.out (Kd.C_below HC1.out (below_step HB0.out HB2.out)) (fun _ _ h => h) (fun _ h => h.elim) (fun k hk => Nat.le_trans HB2.out.size hk) HB2.out HB2.out.size (by have q1 := HL2.out; have q2 := HL.out; have q3 := HNN.out; omega) ?_; intro v3 w3 ho hb3 hg_ hat_; have HO3 := Lib.hid ho; have HB3 := Lib.hid hb3; have hN0 := blk_below HN0.out hb3; have hN1 := blk_below HN1.out hb3; have k0 := (blk_cell hN0 0).trans rfl; have k1 := (blk_cell hN0 1).trans rfl; have k2 := (blk_cell hN0 2).trans rfl; have g0 := (blk_cell hN1 0).trans rfl; have g1 := (blk_cell hN1 1).trans rfl; have g2 := (blk_cell hN1 2).trans rfl; have f0 := blk_frozen hN1 0; have f1 := blk_frozen hN1 1; have f2 := blk_frozen hN1 2; clear ho hb3 hg_ hat_ HO2 HB2))
  obtain ⟨hb5, q0, q1, q2⟩ := three_set hN1 (below_step HB0.out HB3.out) (Nat.le_succ _) (.int .i64 (s + n1)) (.int .i64 b) (.slice none 0 0)
  generalize ((w3.setCell ⟨w.heap.size + 1, 0, none⟩ (.int .i64 (s + n1))).setCell ⟨w.heap.size + 1, 1, none⟩ (.int .i64 b)).setCell ⟨w.heap.size + 1, 2, none⟩ (.slice none 0 0) = W5 at *
  exact bodyPost_ret (v := .tuple #[.agg #[.int .i64 (s + n1), .int .i64 b, .slice none 0 0], .int .i64 0]) (by simp [results, Tryd.results37, go_sem, q0, q1, q2]) rfl ⟨rfl, hb5⟩
set_option maxHeartbeats 1000000 in
set_option maxRecDepth 100000 in
theorem next_good_a (s b : Int) (pend x : List Int) (L : Nat) (A : Option Addr) (c : Nat) (A1 : Option Addr) (n1 c1 : Nat) (w : World) (hs : 0 ≤ s) (hs' : s ≤ 1099511627776) (hn : ¬ 1099511627776 - s < (n1 : Int)) (hb : b < 0) (hbp : Bytes pend) (hbx : Bytes x) (hLs : (L : Int) ≤ s) (B : Int) (P : List Int) (m : Nat) (hB : lookBad 0 (-1) (faultN (pend ++ x)) (openB ((pend ++ x).drop (faultN (pend ++ x)).toNat)) = B) (hP : lookPend (pend ++ x) (faultN (pend ++ x)) (openB ((pend ++ x).drop (faultN (pend ++ x)).toNat)) = P) (hm : P.length = m) (hBb : B < 2199023255552) (hB1 : 0 ≤ B) (hL : pend.length = L) (hx : x.length = n1) (hL2 : L ≤ 1099511627776)
    (hC : Kd.C (Kd.int .u8) w A L pend) (hC1 : Kd.C (Kd.int .u8) w A1 n1 x) :
    Calls Tryd.prog 37 #[.agg #[.int .i64 s, .int .i64 b, .slice A L c], .slice A1 n1 c1] w fun e w' => ∃ A' c', e = .returned (.tuple #[.agg #[.int .i64 (s + n1), .int .i64 (B + (s - L)), .slice A' m c'], .int .i64 0]) ∧ Fresh w w' (.slice A' m c') P := by
  have hu52 := Tryd.underlying52
  have hw : wrap64 (1099511627776 - s) = 1099511627776 - s := w64 (by omega) (by omega)
  have hw2 : wrap64 (s + n1) = s + n1 := w64 (by omega) (by omega)
  have hBge : B ≥ 0 := hB1
  have hbge : ¬ b ≥ 0 := by omega
  have hbge' : ¬ 0 ≤ b := by omega
  have hw3 : wrap64 (s - L) = s - L := w64 (by omega) (by omega)
  have hw4 : wrap64 (B + (s - L)) = B + (s - L) := w64 (by omega) (by omega)
  have hw5 : wrap64 (((L + n1 : Nat) : Int) + (s - L)) = s + n1 := by rw [w64 (by omega) (by omega)]; omega
  have hof : ∀ W : World, ∀ A6 c6, Kd.R (Kd.int .u8) 5 W 0 (fun _ => True) (.slice A6 (L + n1) c6) (pend ++ x) → Calls Tryd.prog 56 #[.slice A6 (L + n1) c6] W fun e w' => ∃ A' c', e = .returned (.agg #[.int .i64 ((L + n1 : Nat) : Int), .int .i64 B, .slice A' m c']) ∧ Fresh W w' (.slice A' m c') P := fun W A6 c6 hR => by
    have hlen : (pend ++ x).length = L + n1 := by rw [List.length_append, hL, hx]
    refine of_any (pend ++ x) (L + n1) A6 c6 W hlen ?_ (Kd.R_reads' hR).2.1 (hbp.append hbx) (by omega) B P m hB hP hm
    have := (Kd.R_reads' hR).2.2
    rwa [hlen] at this
  obtain ⟨T, hT⟩ : ∃ T : Int, ((L + n1 : Nat) : Int) = T := ⟨_, rfl⟩
  rw [hT] at hof hw5
  have HOF := Lib.hid hof
  obtain ⟨hN0, hN1, hB0⟩ := next_blocks w (.cells #[.int .i64 s, .int .i64 b, .slice A L c] 52) (.cells #[.int .i64 0, .int .i64 0, .slice none 0 0] 52)
  obtain ⟨Wd, hWd⟩ : ∃ W, (w.alloc (.cells #[.int .i64 s, .int .i64 b, .slice A L c] 52)).alloc (.cells #[.int .i64 0, .int .i64 0, .slice none 0 0] 52) = W := ⟨_, rfl⟩
  have HN0 := Lib.hid (hWd ▸ hN0)
  have HN1 := Lib.hid (hWd ▸ hN1)
  have HB0 := Lib.hid (hWd ▸ hB0)
  have HWd := Lib.hid hWd
  have HC := Lib.hid hC
  have HC1 := Lib.hid hC1
  have HL := Lib.hid hL
  have HX := Lib.hid hx
  have HL2 := Lib.hid hL2
  have HNN := Lib.hid (show n1 ≤ 1099511627776 by omega)
  have HLEN := Lib.hid (show (pend ++ x).length = L + n1 by rw [List.length_append, hL, hx])
  clear hT hN0 hN1 hB0 hWd hC hC1 hL hx hL2 hof hB hP hm hbp hbx
  go_enter Tryd.func37, Tryd.ntmps37
  go_wp2_with (first
    | ((with_reducible refine gate_dst (N := 16) rfl ?_); rw [HWd.out]; refine Kd.R_lit (Kd.int .u8) Wd.heap.size 5 ?hg (N := 16) ?hd (xs := ([] : List Int)) (inner := []) (ok := fun k => Wd.heap.size ≤ k) (okp := fun _ => False) ?hr ?hp (fun _ hk => hk.elim) (Nat.le_refl _) (Below.refl _ _) (Nat.le_refl _) (by simp) ?_; (case hd => rfl); (case hg => rfl); (case hr => first | (go_simp; done) | (go_simp; rfl)); (case hp => exact (Reps.none _ _)); intro v1 w1 ho hb1 hg_ hnew_; have HO1 := Lib.hid ho; have HB1 := Lib.hid hb1; have k2 := (blk_cell (blk_below HN0.out hb1) 2).trans rfl; clear ho hb1 hg_ hnew_)
    | ((with_reducible refine gate_builtin (b := .append) (xs := #[.tmp 16, .tmp 18]) rfl ?_); at_builtin; refine Kd.R_append_rows (Kd.int .u8) (w0 := Wd) Wd.heap.size rfl (.tmp 16) (.tmp 18) 23 5 (.int .u8 0) 1 rfl Tryd.underlying23 info5 rfl (by decide) (by omega) v1 [] pend _ _ _ (fun k => Wd.heap.size ≤ k) (fun _ => False) rfl rfl HO1.out (Kd.C_below HC.out (below_step HB0.out HB1.out)) (fun _ _ h => h) (fun _ h => h.elim) (fun k hk => Nat.le_trans HB1.out.size hk) HB1.out HB1.out.size (by have := HL2.out; rw [List.length_nil]; omega) ?_; intro v2 w2 ho hb2 hg_ hat_; rw [List.nil_append] at ho; have HO2 := Lib.hid ho; have HB2 := Lib.hid hb2; clear ho hb2 hg_ hat_ HO1 HB1 k2)
    | ((with_reducible refine gate_builtin (b := .append) (xs := #[.tmp 19, .tmp 20]) rfl ?_); at_builtin; refine Kd.R_append_rows (Kd.int .u8) (w0 := Wd) Wd.heap.size rfl (.tmp 19) (.tmp 20) 23 5 (.int .u8 0) 1 rfl Tryd.underlying23 info5 rfl (by decide) (by omega) v2 pend x _ _ _ (fun k => Wd.heap.size ≤ k) (fun _ => False) rfl rfl HO2.out (Kd.C_below HC1.out (below_step HB0.out HB2.out)) (fun _ _ h => h) (fun _ h => h.elim) (fun k hk => Nat.le_trans HB2.out.size hk) HB2.out HB2.out.size (by have q1 := HL2.out; have q2 := HL.out; have q3 := HNN.out; omega) ?_; intro v3 w3 ho hb3 hg_ hat_; (obtain ⟨A6, c6, e6⟩ := Kd.R_slice ho); subst e6; rw [HLEN.out] at ho ⊢; have HO3 := Lib.hid ho; have HB3 := Lib.hid hb3; have hN0 := blk_below HN0.out hb3; have k0 := (blk_cell hN0 0).trans rfl; have k1 := (blk_cell hN0 1).trans rfl; have k2 := (blk_cell hN0 2).trans rfl; clear ho hb3 hg_ hat_ HO2 HB2 hN0)
    | (go_at_call 56; ((with_reducible refine (HOF.out _ A6 c6 (Kd.R_mono (Kd.R_lower HO3.out (Nat.zero_le _)) (fun _ _ => trivial))).mono ?_); rintro e w4 ⟨A7, c7, rfl, hf⟩; have HF := Lib.hid hf; have HB4 := Lib.hid (below_step HB3.out hf.2); have hN0 := fun o => blk_alloc (blk_below HN0.out HB4.out) o; have hN1 := fun o => blk_alloc (blk_below HN1.out HB4.out) o; have k0 := fun o => (blk_cell (hN0 o) 0).trans rfl; have k1 := fun o => (blk_cell (hN0 o) 1).trans rfl; have k2 := fun o => (blk_cell (hN0 o) 2).trans rfl; have g0 := fun o => (blk_cell (hN1 o) 0).trans rfl; have g1 := fun o => (blk_cell (hN1 o) 1).trans rfl; have g2 := fun o => (blk_cell (hN1 o) 2).trans rfl; have f0 := fun o => blk_frozen (hN1 o) 0; have f1 := fun o => blk_frozen (hN1 o) 1; have f2 := fun o => blk_frozen (hN1 o) 2; have hn1 : w.heap.size ≠ w4.heap.size := Nat.ne_of_lt (blk_lt (blk_below HN0.out HB4.out)); have hn2 : w.heap.size + 1 ≠ w4.heap.size := Nat.ne_of_lt (blk_lt (blk_below HN1.out HB4.out)); have hn3 := hn1.symm; have hn4 := hn2.symm; clear hf)))
  have hB5 := (below_step HB0.out HB4.out).alloc (below_step HB0.out HB4.out).size (.cells #[.int .i64 (s + n1), .int .i64 (B + (s - L)), .slice A7 m c7] 52)
  obtain ⟨hb5, q0, q1, q2⟩ := three_set (hN1 (.cells #[.int .i64 (s + n1), .int .i64 (B + (s - L)), .slice A7 m c7] 52)) hB5 (Nat.le_succ _) (.int .i64 (s + n1)) (.int .i64 (B + (s - L))) (.slice A7 m c7)
  have l1 := blk_lt HN1.out
  have l2 := HB3.out.size
  have r0 := Kd.R_alloc (Kd.R_mono (ok' := fun k => w3.heap.size ≤ k) (Kd.R_bound HF.out.1) (fun k hk => hk.2.1)) (.cells #[.int .i64 (s + n1), .int .i64 (B + (s - L)), .slice A7 m c7] 52)
  have ne1 : ∀ k, w3.heap.size ≤ k → k ≠ w.heap.size + 1 := fun k hk => by omega
  have r1 := Kd.R_far (p := ⟨w.heap.size + 1, 2, none⟩) (Kd.R_far (p := ⟨w.heap.size + 1, 1, none⟩) (Kd.R_far (p := ⟨w.heap.size + 1, 0, none⟩) r0 ne1 (.int .i64 (s + n1))) ne1 (.int .i64 (B + (s - L)))) ne1 (.slice A7 m c7)
  have r2 := Kd.R_mono (ok' := fun _ => True) (Kd.R_lower r1 (show w.heap.size ≤ w3.heap.size by omega)) (fun _ _ => trivial)
  clear r0 r1 k0 k1 k2 g0 g1 g2 f0 f1 f2 hN0 hN1
  generalize (((w4.alloc (Obj.cells #[Value.int .i64 (s + n1), Value.int .i64 (B + (s - L)), Value.slice A7 m c7] 52)).setCell ⟨w.heap.size + 1, 0, none⟩ (.int .i64 (s + n1))).setCell ⟨w.heap.size + 1, 1, none⟩ (.int .i64 (B + (s - L)))).setCell ⟨w.heap.size + 1, 2, none⟩ (.slice A7 m c7) = W5 at *
  exact bodyPost_ret (v := .tuple #[.agg #[.int .i64 (s + n1), .int .i64 (B + (s - L)), .slice A7 m c7], .int .i64 0]) (by simp [results, Tryd.results37, go_sem, q0, q1, q2]) rfl ⟨A7, c7, rfl, r2, hb5⟩
set_option maxHeartbeats 1000000 in
set_option maxRecDepth 100000 in
theorem next_good_b (s b : Int) (pend x : List Int) (L : Nat) (A : Option Addr) (c : Nat) (A1 : Option Addr) (n1 c1 : Nat) (w : World) (hs : 0 ≤ s) (hs' : s ≤ 1099511627776) (hn : ¬ 1099511627776 - s < (n1 : Int)) (hb : b < 0) (hbp : Bytes pend) (hbx : Bytes x) (hLs : (L : Int) ≤ s) (B : Int) (P : List Int) (m : Nat) (hB : lookBad 0 (-1) (faultN (pend ++ x)) (openB ((pend ++ x).drop (faultN (pend ++ x)).toNat)) = B) (hP : lookPend (pend ++ x) (faultN (pend ++ x)) (openB ((pend ++ x).drop (faultN (pend ++ x)).toNat)) = P) (hm : P.length = m) (hB1 : B = -1) (hL : pend.length = L) (hx : x.length = n1) (hL2 : L ≤ 1099511627776)
    (hC : Kd.C (Kd.int .u8) w A L pend) (hC1 : Kd.C (Kd.int .u8) w A1 n1 x) :
    Calls Tryd.prog 37 #[.agg #[.int .i64 s, .int .i64 b, .slice A L c], .slice A1 n1 c1] w fun e w' => ∃ A' c', e = .returned (.tuple #[.agg #[.int .i64 (s + n1), .int .i64 B, .slice A' m c'], .int .i64 0]) ∧ Fresh w w' (.slice A' m c') P := by
  have hu52 := Tryd.underlying52
  have hw : wrap64 (1099511627776 - s) = 1099511627776 - s := w64 (by omega) (by omega)
  have hw2 : wrap64 (s + n1) = s + n1 := w64 (by omega) (by omega)
  have hBge : ¬ B ≥ 0 := by omega
  have hBge' : ¬ 0 ≤ B := by omega
  have hbge : ¬ b ≥ 0 := by omega
  have hbge' : ¬ 0 ≤ b := by omega
  have hw3 : wrap64 (s - L) = s - L := w64 (by omega) (by omega)
  have hw5 : wrap64 (((L + n1 : Nat) : Int) + (s - L)) = s + n1 := by rw [w64 (by omega) (by omega)]; omega
  have hof : ∀ W : World, ∀ A6 c6, Kd.R (Kd.int .u8) 5 W 0 (fun _ => True) (.slice A6 (L + n1) c6) (pend ++ x) → Calls Tryd.prog 56 #[.slice A6 (L + n1) c6] W fun e w' => ∃ A' c', e = .returned (.agg #[.int .i64 ((L + n1 : Nat) : Int), .int .i64 B, .slice A' m c']) ∧ Fresh W w' (.slice A' m c') P := fun W A6 c6 hR => by
    have hlen : (pend ++ x).length = L + n1 := by rw [List.length_append, hL, hx]
    refine of_any (pend ++ x) (L + n1) A6 c6 W hlen ?_ (Kd.R_reads' hR).2.1 (hbp.append hbx) (by omega) B P m hB hP hm
    have := (Kd.R_reads' hR).2.2
    rwa [hlen] at this
  obtain ⟨T, hT⟩ : ∃ T : Int, ((L + n1 : Nat) : Int) = T := ⟨_, rfl⟩
  rw [hT] at hof hw5
  have HOF := Lib.hid hof
  obtain ⟨hN0, hN1, hB0⟩ := next_blocks w (.cells #[.int .i64 s, .int .i64 b, .slice A L c] 52) (.cells #[.int .i64 0, .int .i64 0, .slice none 0 0] 52)
  obtain ⟨Wd, hWd⟩ : ∃ W, (w.alloc (.cells #[.int .i64 s, .int .i64 b, .slice A L c] 52)).alloc (.cells #[.int .i64 0, .int .i64 0, .slice none 0 0] 52) = W := ⟨_, rfl⟩
  have HN0 := Lib.hid (hWd ▸ hN0)
  have HN1 := Lib.hid (hWd ▸ hN1)
  have HB0 := Lib.hid (hWd ▸ hB0)
  have HWd := Lib.hid hWd
  have HC := Lib.hid hC
  have HC1 := Lib.hid hC1
  have HL := Lib.hid hL
  have HX := Lib.hid hx
  have HL2 := Lib.hid hL2
  have HNN := Lib.hid (show n1 ≤ 1099511627776 by omega)
  have HLEN := Lib.hid (show (pend ++ x).length = L + n1 by rw [List.length_append, hL, hx])
  clear hT hN0 hN1 hB0 hWd hC hC1 hL hx hL2 hof hB hP hm hbp hbx
  go_enter Tryd.func37, Tryd.ntmps37
  go_wp2_with (first
    | ((with_reducible refine gate_dst (N := 16) rfl ?_); rw [HWd.out]; refine Kd.R_lit (Kd.int .u8) Wd.heap.size 5 ?hg (N := 16) ?hd (xs := ([] : List Int)) (inner := []) (ok := fun k => Wd.heap.size ≤ k) (okp := fun _ => False) ?hr ?hp (fun _ hk => hk.elim) (Nat.le_refl _) (Below.refl _ _) (Nat.le_refl _) (by simp) ?_; (case hd => rfl); (case hg => rfl); (case hr => first | (go_simp; done) | (go_simp; rfl)); (case hp => exact (Reps.none _ _)); intro v1 w1 ho hb1 hg_ hnew_; have HO1 := Lib.hid ho; have HB1 := Lib.hid hb1; have k2 := (blk_cell (blk_below HN0.out hb1) 2).trans rfl; clear ho hb1 hg_ hnew_)
    | ((with_reducible refine gate_builtin (b := .append) (xs := #[.tmp 16, .tmp 18]) rfl ?_); at_builtin; refine Kd.R_append_rows (Kd.int .u8) (w0 := Wd) Wd.heap.size rfl (.tmp 16) (.tmp 18) 23 5 (.int .u8 0) 1 rfl Tryd.underlying23 info5 rfl (by decide) (by omega) v1 [] pend _ _ _ (fun k => Wd.heap.size ≤ k) (fun _ => False) rfl rfl HO1.out (Kd.C_below HC.out (below_step HB0.out HB1.out)) (fun _ _ h => h) (fun _ h => h.elim) (fun k hk => Nat.le_trans HB1.out.size hk) HB1.out HB1.out.size (by have := HL2.out; rw [List.length_nil]; omega) ?_; intro v2 w2 ho hb2 hg_ hat_; rw [List.nil_append] at ho; have HO2 := Lib.hid ho; have HB2 := Lib.hid hb2; clear ho hb2 hg_ hat_ HO1 HB1 k2)
    | ((with_reducible refine gate_builtin (b := .append) (xs := #[.tmp 19, .tmp 20]) rfl ?_); at_builtin; refine Kd.R_append_rows (Kd.int .u8) (w0 := Wd) Wd.heap.size rfl (.tmp 19) (.tmp 20) 23 5 (.int .u8 0) 1 rfl Tryd.underlying23 info5 rfl (by decide) (by omega) v2 pend x _ _ _ (fun k => Wd.heap.size ≤ k) (fun _ => False) rfl rfl HO2.out (Kd.C_below HC1.out (below_step HB0.out HB2.out)) (fun _ _ h => h) (fun _ h => h.elim) (fun k hk => Nat.le_trans HB2.out.size hk) HB2.out HB2.out.size (by have q1 := HL2.out; have q2 := HL.out; have q3 := HNN.out; omega) ?_; intro v3 w3 ho hb3 hg_ hat_; (obtain ⟨A6, c6, e6⟩ := Kd.R_slice ho); subst e6; rw [HLEN.out] at ho ⊢; have HO3 := Lib.hid ho; have HB3 := Lib.hid hb3; have hN0 := blk_below HN0.out hb3; have k0 := (blk_cell hN0 0).trans rfl; have k1 := (blk_cell hN0 1).trans rfl; have k2 := (blk_cell hN0 2).trans rfl; clear ho hb3 hg_ hat_ HO2 HB2 hN0)
    | (go_at_call 56; ((with_reducible refine (HOF.out _ A6 c6 (Kd.R_mono (Kd.R_lower HO3.out (Nat.zero_le _)) (fun _ _ => trivial))).mono ?_); rintro e w4 ⟨A7, c7, rfl, hf⟩; have HF := Lib.hid hf; have HB4 := Lib.hid (below_step HB3.out hf.2); have hN0 := fun o => blk_alloc (blk_below HN0.out HB4.out) o; have hN1 := fun o => blk_alloc (blk_below HN1.out HB4.out) o; have k0 := fun o => (blk_cell (hN0 o) 0).trans rfl; have k1 := fun o => (blk_cell (hN0 o) 1).trans rfl; have k2 := fun o => (blk_cell (hN0 o) 2).trans rfl; have g0 := fun o => (blk_cell (hN1 o) 0).trans rfl; have g1 := fun o => (blk_cell (hN1 o) 1).trans rfl; have g2 := fun o => (blk_cell (hN1 o) 2).trans rfl; have f0 := fun o => blk_frozen (hN1 o) 0; have f1 := fun o => blk_frozen (hN1 o) 1; have f2 := fun o => blk_frozen (hN1 o) 2; have hn1 : w.heap.size ≠ w4.heap.size := Nat.ne_of_lt (blk_lt (blk_below HN0.out HB4.out)); have hn2 : w.heap.size + 1 ≠ w4.heap.size := Nat.ne_of_lt (blk_lt (blk_below HN1.out HB4.out)); have hn3 := hn1.symm; have hn4 := hn2.symm; clear hf)))
  have hB5 := (below_step HB0.out HB4.out).alloc (below_step HB0.out HB4.out).size (.cells #[.int .i64 (s + n1), .int .i64 (-1), .slice A7 m c7] 52)
  obtain ⟨hb5, q0, q1, q2⟩ := three_set (hN1 (.cells #[.int .i64 (s + n1), .int .i64 (-1), .slice A7 m c7] 52)) hB5 (Nat.le_succ _) (.int .i64 (s + n1)) (.int .i64 (-1)) (.slice A7 m c7)
  have l1 := blk_lt HN1.out
  have l2 := HB3.out.size
  have r0 := Kd.R_alloc (Kd.R_mono (ok' := fun k => w3.heap.size ≤ k) (Kd.R_bound HF.out.1) (fun k hk => hk.2.1)) (.cells #[.int .i64 (s + n1), .int .i64 (-1), .slice A7 m c7] 52)
  have ne1 : ∀ k, w3.heap.size ≤ k → k ≠ w.heap.size + 1 := fun k hk => by omega
  have r1 := Kd.R_far (p := ⟨w.heap.size + 1, 2, none⟩) (Kd.R_far (p := ⟨w.heap.size + 1, 1, none⟩) (Kd.R_far (p := ⟨w.heap.size + 1, 0, none⟩) r0 ne1 (.int .i64 (s + n1))) ne1 (.int .i64 (-1))) ne1 (.slice A7 m c7)
  have r2 := Kd.R_mono (ok' := fun _ => True) (Kd.R_lower r1 (show w.heap.size ≤ w3.heap.size by omega)) (fun _ _ => trivial)
  clear r0 r1 k0 k1 k2 g0 g1 g2 f0 f1 f2 hN0 hN1
  generalize (((w4.alloc (Obj.cells #[Value.int .i64 (s + n1), Value.int .i64 (-1), Value.slice A7 m c7] 52)).setCell ⟨w.heap.size + 1, 0, none⟩ (.int .i64 (s + n1))).setCell ⟨w.heap.size + 1, 1, none⟩ (.int .i64 (-1))).setCell ⟨w.heap.size + 1, 2, none⟩ (.slice A7 m c7) = W5 at *
  exact bodyPost_ret (v := .tuple #[.agg #[.int .i64 (s + n1), .int .i64 (-1), .slice A7 m c7], .int .i64 0]) (by simp [results, Tryd.results37, go_sem, q0, q1, q2]) rfl ⟨A7, c7, by rw [hB1], r2, hb5⟩
end Go.Proofs.YtjlhehaagaaihaaDoor.P
