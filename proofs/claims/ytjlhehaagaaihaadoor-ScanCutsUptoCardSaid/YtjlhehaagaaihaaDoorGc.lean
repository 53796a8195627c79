/- The calls of a scan's State, look and Feed. No condition. -/
import Derived.Test.YtjlhehaagaaihaaDoorGb
import Derived.Deep.RegionHeld3
namespace Go.Proofs.YtjlhehaagaaihaaDoor.P
open Go.RowKit Go.Lib Go.Proofs.YtjlhehaagaaihaaDoorW.PrintWords Go.Proofs.YtjlhehaagaaihaaDoorW.PrintLast Go.Proofs.YtjlhehaagaaihaaDoorW.PrintMore
attribute [local go_sem] max2_int min2_int max_two min_two max_three min_three max_four min_four
set_option linter.unusedVariables false
set_option linter.unusedSimpArgs false

set_option maxHeartbeats 400000 in
set_option maxRecDepth 100000 in
theorem state_nil (w : World) : Calls Tryd.prog 40 #[.pointer none] w fun e w' => e = .returned (.agg #[.int .i64 0, .int .i64 (-1), .slice none 0 0]) ∧ Below w.heap.size w w' := by
  have hu59 := Tryd.underlying59
  go_enter Tryd.func40, Tryd.ntmps40
  go_wp2
  exact bodyPost_ret (v := .agg #[.int .i64 0, .int .i64 (-1), .slice none 0 0]) (by simp [results, Tryd.results40, go_sem]) rfl ⟨rfl, by repeat (first | exact Below.refl _ _ | (refine Below.alloc ?_ (Nat.le_refl _) _))⟩

set_option maxHeartbeats 400000 in
set_option maxRecDepth 100000 in
theorem state_any (p : Nat) (s b : Int) (pend : List Int) (ok : Nat → Prop) (w : World) (h : ScanAt w p s b pend ok) (hl : pend.length ≤ 140737488351232) :
    Calls Tryd.prog 40 #[.pointer (some ⟨p, 0, none⟩)] w fun e w' => ∃ v : Value, e = .returned (.agg #[.int .i64 s, .int .i64 b, v]) ∧ Fresh w w' v pend := by
  obtain ⟨A, c, hb, hc, hF⟩ := h
  have hu59 := Tryd.underlying59
  have hu78 := Tryd.underlying78
  have h0 : w.cell? ⟨p, 0, none⟩ = some (.int .i64 s) := (blk_cell hb 0).trans rfl
  have h1 : w.cell? ⟨p, 1, none⟩ = some (.int .i64 b) := (blk_cell hb 1).trans rfl
  have h2 : w.cell? ⟨p, 2, none⟩ = some (.slice A pend.length c) := (blk_cell hb 2).trans rfl
  have HC := Lib.hid (Kd.F_now hF)
  have hlt := blk_lt hb
  clear hF hb
  have hcl : ∀ W : World, Below w.heap.size w W → Calls Tryd.prog 57 #[.slice A pend.length c] W fun e w' => ∃ v0_ : Value, e = .returned v0_ ∧ Fresh W w' v0_ pend := fun W hbW => clone_any A c pend W (Kd.C_below HC.out hbW) hc hl
  have HCL := Lib.hid hcl
  clear hcl
  have hk0 : ∀ W : World, Below w.heap.size w W → W.cell? ⟨p, 0, none⟩ = some (.int .i64 s) := fun W hbW => pw_cell_below hbW h0
  have hk1 : ∀ W : World, Below w.heap.size w W → W.cell? ⟨p, 1, none⟩ = some (.int .i64 b) := fun W hbW => pw_cell_below hbW h1
  have hk2 : ∀ W : World, Below w.heap.size w W → W.cell? ⟨p, 2, none⟩ = some (.slice A pend.length c) := fun W hbW => pw_cell_below hbW h2
  have HK0 := Lib.hid hk0
  have HK1 := Lib.hid hk1
  have HK2 := Lib.hid hk2
  clear hk0 hk1 hk2
  go_enter Tryd.func40, Tryd.ntmps40
  go_wp2
  have hW0 : Below w.heap.size w (w.alloc (Obj.cells #[Value.int IntKind.i64 0, Value.int IntKind.i64 0, Value.slice none 0 0] 59)) := (Below.refl _ _).alloc (Nat.le_refl _) _
  have hN0 : (w.alloc (Obj.cells #[Value.int IntKind.i64 0, Value.int IntKind.i64 0, Value.slice none 0 0] 59)).heap[w.heap.size]? = some (Obj.cells #[Value.int IntKind.i64 0, Value.int IntKind.i64 0, Value.slice none 0 0] 59) := blk_new w _
  generalize w.alloc (Obj.cells #[Value.int IntKind.i64 0, Value.int IntKind.i64 0, Value.slice none 0 0] 59) = W0 at *
  go_region_held3 (fun w' => w'.cell? ⟨p, 0, none⟩ = some (.int .i64 s) ∧ w'.cell? ⟨p, 1, none⟩ = some (.int .i64 b) ∧ w'.cell? ⟨p, 2, none⟩ = some (.slice A pend.length c) ∧ Below w.heap.size w w')
    (first | (exact ⟨HK0.out _ hW0.drew, HK1.out _ hW0.drew, HK2.out _ hW0.drew, hW0.drew⟩) | (have hb_ : Below w.heap.size w w1 := below_step hW0.drew hf1.2; exact ⟨HK0.out _ hb_, HK1.out _ hb_, HK2.out _ hb_, hb_⟩) | (have hb_ : Below w.heap.size w _ := ((((below_step hW0.drew hf1.2).setCell (p := ⟨w.heap.size, 0, none⟩) (Nat.le_refl _) (.int .i64 s)).setCell (p := ⟨w.heap.size, 1, none⟩) (Nat.le_refl _) (.int .i64 b)).setCell (p := ⟨w.heap.size, 2, none⟩) (Nat.le_refl _) (.slice Av pend.length cv)); exact ⟨HK0.out _ hb_, HK1.out _ hb_, HK2.out _ hb_, hb_⟩) | go_keep)
    ((go_at_call 57; refine (HCL.out _ hW0.drew).mono ?_; rintro e w1 ⟨v1, rfl, hf1⟩; (obtain ⟨Av, cv, ev⟩ := Kd.R_slice hf1.1); subst ev; have hN1 := blk_below (blk_drew hN0) hf1.2; have g0 : w1.cell? ⟨w.heap.size, 0, none⟩ = some (.int .i64 0) := (blk_cell hN1 0).trans rfl; have g1 : w1.cell? ⟨w.heap.size, 1, none⟩ = some (.int .i64 0) := (blk_cell hN1 1).trans rfl; have g2 : w1.cell? ⟨w.heap.size, 2, none⟩ = some (.slice none 0 0) := (blk_cell hN1 2).trans rfl; have f0 := blk_frozen hN1 0; have f1 := blk_frozen hN1 1; have f2 := blk_frozen hN1 2))
  have hb3 : Below w.heap.size w _ := ((((below_step hW0.drew hf1.2).setCell (p := ⟨w.heap.size, 0, none⟩) (Nat.le_refl _) (.int .i64 s)).setCell (p := ⟨w.heap.size, 1, none⟩) (Nat.le_refl _) (.int .i64 b)).setCell (p := ⟨w.heap.size, 2, none⟩) (Nat.le_refl _) (.slice Av pend.length cv))
  have hN3 := blk_set (blk_set (blk_set hN1 0 (.int .i64 s)) 1 (.int .i64 b)) 2 (.slice Av pend.length cv)
  have hlt0 := blk_lt hN0
  have hR0 : Kd.R (Kd.int .u8) 5 w1 W0.drew.heap.size (fun k => W0.drew.heap.size ≤ k) (.slice Av pend.length cv) pend := Kd.R_mono (Kd.R_bound hf1.1) (fun k hk => hk.2.1)
  have hne : ∀ k, W0.drew.heap.size ≤ k → k ≠ w.heap.size := fun k hk e => by have : W0.drew.heap.size = W0.heap.size := rfl; omega
  have hR3 := Kd.R_mono (ok' := fun _ => True) (Kd.R_lower (Kd.R_far (p := ⟨w.heap.size, 2, none⟩) (Kd.R_far (p := ⟨w.heap.size, 1, none⟩) (Kd.R_far (p := ⟨w.heap.size, 0, none⟩) hR0 hne (.int .i64 s)) hne (.int .i64 b)) hne (.slice Av pend.length cv)) hW0.size) (fun _ _ => trivial)
  have q0 : World.cell? _ ⟨w.heap.size, 0, none⟩ = some (Value.int .i64 s) := (blk_cell hN3 0).trans rfl
  have q1 : World.cell? _ ⟨w.heap.size, 1, none⟩ = some (Value.int .i64 b) := (blk_cell hN3 1).trans rfl
  have q2 : World.cell? _ ⟨w.heap.size, 2, none⟩ = some (Value.slice Av pend.length cv) := (blk_cell hN3 2).trans rfl
  have HR3 := Lib.hid hR3
  have HB3 := Lib.hid hb3
  clear hR3 hb3 hR0 hne hN3 hN1 g0 g1 g2
  generalize (((w1.setCell ⟨w.heap.size, 0, none⟩ (.int .i64 s)).setCell ⟨w.heap.size, 1, none⟩ (.int .i64 b)).setCell ⟨w.heap.size, 2, none⟩ (.slice Av pend.length cv)) = W3 at *
  go_wp2
  exact bodyPost_ret (v := .agg #[.int .i64 s, .int .i64 b, .slice Av pend.length cv]) (by simp [results, Tryd.results40, go_sem, q0, q1, q2]) rfl ⟨_, rfl, HR3.out, HB3.out⟩

theorem grown_below {a w w1 : World} {g : Nat} (h : a.grownBy w (some g)) (hb : Below w.heap.size w w1) : a.grownBy w1 (some g) :=
  ⟨hb.os.trans h.os, hb.tape.trans h.tape, hb.output.trans h.output, Nat.le_trans h.size hb.size, fun i hi hne => (hb.block i (Nat.lt_of_lt_of_le hi h.size)).trans (h.block i hi hne)⟩
theorem grown_set {a w : World} {g : Nat} (h : a.grownBy w (some g)) (j : Nat) (u : Value) : a.grownBy (w.setCell ⟨g, j, none⟩ u) (some g) :=
  ⟨h.os, h.tape, h.output, by simpa [World.setCell] using h.size, fun i hi hne => (Below.heap_setCell w ⟨g, j, none⟩ u i (fun e => hne (by rw [e]))).trans (h.block i hi hne)⟩
theorem grown_self (w : World) (g : Nat) : w.grownBy w (some g) := ⟨rfl, rfl, rfl, Nat.le_refl _, fun _ _ _ => rfl⟩
theorem below_grown {W0 w w1 : World} {g : Nat} (h : Below W0.heap.size W0 w) (hg : W0.heap.size ≤ g) (k : w.grownBy w1 (some g)) : Below W0.heap.size W0 w1 :=
  ⟨k.os.trans h.os, k.tape.trans h.tape, k.output.trans h.output, Nat.le_trans h.size k.size, fun i hi => (k.block i (Nat.lt_of_lt_of_le hi h.size) (fun e => by injection e with e; omega)).trans (h.block i hi)⟩
/-- What is only read stays, if one block of another kind is written. -/
theorem F_other {w w1 : World} {p : Nat} {cs : Array Value} {A : Option Addr} {n : Nat} {l : List Int} {ok : Nat → Prop} (hb : w.heap[p]? = some (.cells cs 78 (0, 0))) (hg : w.grownBy w1 (some p)) (h : Kd.F (Kd.int .u8) w (fun k => ok k ∧ U8 w k) A n l) :
    Kd.F (Kd.int .u8) w1 (fun k => ok k ∧ U8 w1 k) A n l := by
  have hm : ∀ k, U8 w k → k < w.heap.size → w1.heap[k]? = w.heap[k]? := fun k hu hlt => hg.block k hlt (fun e => by
    injection e with e
    subst e
    obtain ⟨cs', fz, hu⟩ := hu
    rw [hb] at hu
    injection hu with hu
    injection hu with _ hu
    exact absurd hu (by decide))
  exact Kd.F_mono (Kd.F_step (Kd.F_bound h) (fun k hk hlt => hm k hk.1.2 hlt)) (fun k hk => ⟨hk.1.1, hk.1.2.move (hm k hk.1.2 hk.2)⟩)
/-- The block of a scan is of another kind than rows of bytes. -/
theorem F_cut {W : World} {ok : Nat → Prop} {A : Option Addr} {c : Nat} {l : List Int} (h : Kd.F (Kd.int .u8) W ok A l.length l) (hc : l.length ≤ c) (j : Nat) (hj : j ≤ l.length) :
    ∃ A' n' c', (∀ W' : World, (Instr.slice 23 (.slice A l.length c) (some (.int .i64 (j : Int))) none none).run Tryd.prog W' = .ok (.slice A' n' c') W') ∧ Kd.F (Kd.int .u8) W ok A' n' (l.drop j) ∧ n' = (l.drop j).length ∧ n' ≤ c' := by
  obtain ⟨i013, hi013, _, hsz13, _⟩ := info_parts info5
  have hcut13 := cut_from (P := Tryd.prog) 23 5 .i64 Tryd.underlying23 hi013 1 hsz13 A l.length c (j : Int) (by omega) (by omega)
  have hr13 := Kd.F_cut (m := j) (c := c) h hj hc
  rw [show (Kd.int .u8).sz = 1 from rfl] at hr13
  refine ⟨_, _, _, hcut13, ?_, by rw [List.length_drop]; simp, by simp; omega⟩
  simpa using hr13

/-- What 'look' makes of bytes: where they are not right, what is pending. -/
def lookBad (from_ b f : Int) (o : Bool) : Int := if f < 0 then b else if o = true then b else from_ + f
def lookPend (l : List Int) (f : Int) (o : Bool) : List Int := if f < 0 then [] else if o = true then l.drop f.toNat else []

set_option maxHeartbeats 1000000 in
set_option maxRecDepth 100000 in
theorem look_any (k : Nat) (p : Nat) (s b from_ f : Int) (o : Bool) (v0 : Value) (A : Option Addr) (c : Nat) (l : List Int) (ok : Nat → Prop) (W0 w : World) (hT : Tabs W0) (hB : Below W0.heap.size W0 w) (hp : W0.heap.size ≤ p)
    (hb : w.heap[p]? = some (.cells #[.int .i64 s, .int .i64 b, v0] 78 (0, 0))) (hF : Kd.F (Kd.int .u8) w (fun k => ok k ∧ U8 w k) A l.length l) (hc : l.length ≤ c)
    (hf : code_Fault.f k l = some f) (ho : 0 ≤ f → scan_Open.f (l.drop f.toNat) = some o) (hfl : f ≤ l.length) (hr : 0 ≤ from_) (hr' : from_ ≤ 1099511627776) (hll : l.length ≤ 4398046511104) :
    Calls Tryd.prog 54 #[.pointer (some ⟨p, 0, none⟩), .int .i64 from_, .slice A l.length c] w fun e w' => e = .returned (.tuple #[]) ∧ w.grownBy w' (some p) ∧ ScanAt w' p s (lookBad from_ b f o) (lookPend l f o) ok := by
  have hu78 := Tryd.underlying78
  have hs2 : w.cell? ⟨p, 2, none⟩ = some v0 := (blk_cell hb 2).trans rfl
  have hz2 := blk_frozen hb 2
  have hb1 : (w.setCell ⟨p, 2, none⟩ (.slice none 0 0)).heap[p]? = some (.cells #[.int .i64 s, .int .i64 b, .slice none 0 0] 78 (0, 0)) := by simpa using blk_set hb 2 (.slice none 0 0)
  have hg1 : w.grownBy (w.setCell ⟨p, 2, none⟩ (.slice none 0 0)) (some p) := grown_set (grown_self w p) 2 _
  have hF1 := F_other hb hg1 hF
  have hT1 : Tabs (w.setCell ⟨p, 2, none⟩ (.slice none 0 0)) := hT.below (below_grown hB hp hg1)
  have cF := code_Fault.calls k A c l f _ ⟨hT1⟩ (Kd.F_now hF1) hc hf
  have CF := Lib.hid cF
  have HB1 := Lib.hid hb1
  have HG1 := Lib.hid hg1
  have HF1 := Lib.hid hF1
  clear cF hF hb hF1
  by_cases f0 : f < 0
  · have f0' : (f < (0 : Int)) := f0
    simp only [lookBad, lookPend, if_pos f0]
    clear hb1 hg1 hT1
    go_enter Tryd.func54, Tryd.ntmps54
    go_wp2_with (go_at_call 20; ((with_reducible refine CF.out.mono ?_); rintro e w2 ⟨rfl, hb2⟩; have HB2 := Lib.hid hb2; clear hb2))
    go_end0
    exact ⟨rfl, grown_below HG1.out HB2.out, none, 0, blk_below HB1.out HB2.out, Nat.le_refl _, Kd.F_nil _ _ _⟩
  · have f0' : ¬ (f < (0 : Int)) := f0
    have fp : 0 ≤ f := by omega
    obtain ⟨A2, n2, c2, hcut, hF2, hn2, hc2⟩ := F_cut HF1.out hc f.toNat (by omega)
    have hcut : ∀ W' : World, (Instr.slice 23 (.slice A l.length c) (some (.int .i64 f)) none none).run Tryd.prog W' = .ok (.slice A2 n2 c2) W' := by
      rw [show f = ((f.toNat : Nat) : Int) by omega]; exact hcut
    have hO := ho fp
    have hTT : ∀ W : World, Below (w.setCell ⟨p, 2, none⟩ (.slice none 0 0)).heap.size (w.setCell ⟨p, 2, none⟩ (.slice none 0 0)) W → Tabs W := fun W h => hT1.below h
    have hcO : ∀ W : World, Below (w.setCell ⟨p, 2, none⟩ (.slice none 0 0)).heap.size (w.setCell ⟨p, 2, none⟩ (.slice none 0 0)) W → Calls Tryd.prog 31 #[.slice A2 n2 c2] W fun e w' => e = .returned (.bool o) ∧ Below W.heap.size W w' := fun W h => by
      have hF3 := Kd.F_below hF2 h
      subst hn2
      exact scan_Open.calls A2 c2 (l.drop f.toNat) o W ⟨hT1.below h⟩ (Kd.F_now hF3) hc2 hO
    have HCO := Lib.hid hcO
    have HF2 := Lib.hid hF2
    have HN2 := Lib.hid hn2
    clear hO hTT hcO hF2 hn2 ho hT1 hb1 hg1
    cases o with
    | true =>
      simp only [lookBad, lookPend, if_neg f0, if_true]
      go_enter Tryd.func54, Tryd.ntmps54
      go_wp2_with (first
        | (go_at_call 20; ((with_reducible refine CF.out.mono ?_); rintro e w2 ⟨rfl, hb2⟩; have HB2 := Lib.hid hb2; clear hb2))
        | (go_at_call 31; ((with_reducible refine (HCO.out _ HB2.out).mono ?_); rintro e w3 ⟨rfl, hb3⟩; have HB3 := Lib.hid (below_step HB2.out hb3); clear hb3; have hb3 := blk_below HB1.out HB3.out; have g3 : w3.cell? ⟨p, 2, none⟩ = some (.slice none 0 0) := (blk_cell hb3 2).trans rfl; have f3 := blk_frozen hb3 2; have HBB := Lib.hid hb3; clear hb3)))
      go_end0
      have hg3 := grown_set (grown_below HG1.out HB3.out) 2 (.slice A2 n2 c2)
      have hb3 := blk_set HBB.out 2 (.slice A2 n2 c2)
      refine ⟨rfl, hg3, A2, c2, ?_, by have := HN2.out; omega, ?_⟩
      · rw [← HN2.out]; simpa using hb3
      · have hF3 := Kd.F_below HF2.out HB3.out
        rw [← HN2.out]
        have hF4 := F_other HBB.out (grown_set (grown_self w3 p) 2 (.slice A2 n2 c2)) (ok := ok) (Kd.F_mono (Kd.F_below (Kd.F_bound HF2.out) HB3.out) (fun k hk => ⟨hk.1.1, hk.1.2.move (HB3.out.block k hk.2)⟩))
        exact hF4
    | false =>
      simp only [lookBad, lookPend, if_neg f0, if_false, Bool.false_eq_true]
      go_enter Tryd.func54, Tryd.ntmps54
      go_wp2_with (first
        | (go_at_call 20; ((with_reducible refine CF.out.mono ?_); rintro e w2 ⟨rfl, hb2⟩; have HB2 := Lib.hid hb2; clear hb2))
        | (go_at_call 31; ((with_reducible refine (HCO.out _ HB2.out).mono ?_); rintro e w3 ⟨rfl, hb3⟩; have HB3 := Lib.hid (below_step HB2.out hb3); clear hb3; have hb3 := blk_below HB1.out HB3.out; have g3 : w3.cell? ⟨p, 1, none⟩ = some (.int .i64 b) := (blk_cell hb3 1).trans rfl; have f3 := blk_frozen hb3 1; have HBB := Lib.hid hb3; clear hb3)))
      go_end0
      have hg3 := grown_set (grown_below HG1.out HB3.out) 1 (.int .i64 (from_ + f))
      have hb3 := blk_set HBB.out 1 (.int .i64 (from_ + f))
      exact ⟨rfl, hg3, none, 0, by simpa using hb3, Nat.le_refl _, Kd.F_nil _ _ _⟩
end Go.Proofs.YtjlhehaagaaihaaDoor.P
