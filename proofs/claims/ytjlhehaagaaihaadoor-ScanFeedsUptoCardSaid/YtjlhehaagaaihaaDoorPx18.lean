/- Functions of the translated program as plain Lean functions, and proofs that their calls come to these. Written by a program of the session. No condition. -/
import Derived.Test.YtjlhehaagaaihaaDoorPx0
import Derived.Test.YtjlhehaagaaihaaDoorEc
namespace Go.Proofs.YtjlhehaagaaihaaDoor.P
open Go.RowKit Go.Proofs.YtjlhehaagaaihaaDoorW.PrintWords Go.Proofs.YtjlhehaagaaihaaDoorW.PrintLast Go.Proofs.YtjlhehaagaaihaaDoorW.PrintMore
attribute [local go_sem] max2_int min2_int max_two min_two max_three min_three max_four min_four   -- for this text's walks alone
set_option linter.unusedVariables false
set_option linter.unusedSimpArgs false

/-! ### scan_Open: function 31 -/
def scan_Open.f (l0 : List Int) : Option (Bool) := if (l0.length : Int) > 0 then (if (l0.length : Int) < 4 then ((utf8_FullRune.f l0).bind fun t382 => (some (!t382))) else (some false)) else (some false)
set_option maxHeartbeats 8000000 in
set_option maxRecDepth 100000 in
theorem scan_Open.calls (A0 : Option Addr) (c0 : Nat) (l0 : List Int) (r : Bool) (w : World) (HTb_ : Aside0 (Tabs w)) (hr0 : Kd.C (Kd.int .u8) w A0 l0.length l0) (hc0 : l0.length ≤ c0) (h : scan_Open.f l0 = some r) :
    Calls Tryd.prog 31 #[.slice A0 l0.length c0] w fun e w' => e = .returned (.bool r) ∧ Below w.heap.size w w' := by
  have HR0 := Aside0.mk hr0
  have HC0 := Aside0.mk hc0
  clear hr0 hc0
  have HB := Aside0.mk (Below.refl w.heap.size w)
  have H : (if (l0.length : Int) > 0 then (if (l0.length : Int) < 4 then ((utf8_FullRune.f l0).bind fun t382 => (some (!t382))) else (some false)) else (some false)) = some r := h
  clear h
  by_cases c2 : (l0.length : Int) > 0
  · rw [if_pos c2] at H
    have c2b0 : decide (0 < (l0.length : Int)) = true := decide_eq_true c2
    have c2b1 : decide (0 < l0.length) = true := decide_eq_true (by omega)
    clear c2
    by_cases c3 : (l0.length : Int) < 4
    · rw [if_pos c3] at H
      have c3b0 : decide ((l0.length : Int) < 4) = true := decide_eq_true c3
      have c3b1 : decide (l0.length < 4) = true := decide_eq_true (by omega)
      clear c3
      replace H := Option.bind_eq_some_iff.mp H
      obtain ⟨t382, A40, H⟩ := H
      replace H : (some (!t382)) = some r := H
      have A4 := Aside0.mk A40
      clear A40
      obtain rfl := Option.some.inj H
      go_enter Tryd.func31, Tryd.ntmps31
      go_wp2_with (first | (go_at_call 50; (with_reducible refine (utf8_FullRune.calls _ _ l0 t382 _ ?sideT ?side1 ?side2 A4.out).mono ?_); (case sideT => first | exact ⟨HTb_.out.below (by repeat (first | (with_reducible first | exact HB.out | apply below_alloc | apply pw_below_drewN | apply below_drew1) | exact HB.out))⟩ | exact ⟨HTb_.out.drawn (by repeat (first | exact Drawn0.refl _ | apply Drawn0.step))⟩ | exact ⟨HTb_.out.below (Drawn0.below (by repeat (first | exact Drawn0.refl _ | apply Drawn0.step)))⟩); (case side1 => repeat (first | exact HR0.out | (with_reducible refine Kd.C_alloc ?_ _) | (with_reducible refine Kd.C_drewN ?_ _) | (with_reducible refine Kd.C_drew ?_))); (case side2 => exact HC0.out); rintro e w5 ⟨rfl, hb⟩; have n0_ := Aside0.mk (below_step (by repeat (first | (with_reducible first | exact HB.out | apply below_alloc | apply pw_below_drewN | apply below_drew1) | exact HB.out)) hb); clear HB; have HB := n0_; clear n0_; (try clear hb); (try clear hb2); (try clear hk); (try clear hi)))
      go_ret
      exact ⟨by first | rfl | (simp [errW_none, errW_some] <;> rfl) | (simp [*, errW_none, errW_some] <;> rfl), by repeat (first | (with_reducible first | exact HB.out | apply below_alloc | apply pw_below_drewN | apply below_drew1) | exact HB.out)⟩
    · rw [if_neg c3] at H
      have c3b0 : decide ((l0.length : Int) < 4) = false := decide_eq_false c3
      have c3b1 : decide (l0.length < 4) = false := decide_eq_false (by omega)
      clear c3
      obtain rfl := Option.some.inj H
      go_enter Tryd.func31, Tryd.ntmps31
      go_wp2
      go_ret
      exact ⟨by first | rfl | (simp [errW_none, errW_some] <;> rfl) | (simp [*, errW_none, errW_some] <;> rfl), by repeat (first | (with_reducible first | exact HB.out | apply below_alloc | apply pw_below_drewN | apply below_drew1) | exact HB.out)⟩
  · rw [if_neg c2] at H
    have c2b0 : decide (0 < (l0.length : Int)) = false := decide_eq_false c2
    have c2b1 : decide (0 < l0.length) = false := decide_eq_false (by omega)
    clear c2
    obtain rfl := Option.some.inj H
    go_enter Tryd.func31, Tryd.ntmps31
    go_wp2
    go_ret
    exact ⟨by first | rfl | (simp [errW_none, errW_some] <;> rfl) | (simp [*, errW_none, errW_some] <;> rfl), by repeat (first | (with_reducible first | exact HB.out | apply below_alloc | apply pw_below_drewN | apply below_drew1) | exact HB.out)⟩

/-- A state of type 78 at block g of W; what its slices lead to came in by w0. -/
def IsS78 (w0 W : World) (g : Nat) (f0 : Int) (f1 : Int) (f2 : List Int) : Prop := ∃ A2 c2, W.heap[g]? = some (.cells #[.int .i64 f0, .int .i64 f1, .slice A2 f2.length c2] 78 (0, 0)) ∧ w0.heap.size ≤ g ∧ Kd.C (Kd.int .u8) w0 A2 f2.length f2
theorem IsS78.grown {w0 W : World} {g : Nat} {f0 : Int} {f1 : Int} {f2 : List Int} {W1 : World} {row : Option Nat} (h : IsS78 w0 W g f0 f1 f2) (hw : W.grownBy W1 row) (hne : some g ≠ row) : IsS78 w0 W1 g f0 f1 f2 := by
  obtain ⟨A2, c2, hb, hg, hr2⟩ := h
  exact ⟨A2, c2, blk_grown hb hw hne, hg, hr2⟩
theorem IsS78.own_neN {w0 W : World} {g : Nat} {f0 : Int} {f1 : Int} {f2 : List Int} {α : Type} {d : Kd α} {e : Nat} {base : Nat} {ok : Nat → Prop} {v : Value} {xs : List α} (h : IsS78 w0 W g f0 f1 f2) (ho : Kd.N d e W base ok v xs) (ht : e ≠ 78) : some g ≠ v.ownBlock := by
  obtain ⟨A2, c2, hb, hg, hr2⟩ := h
  exact Kd.N_ne ho hb ht
theorem IsS78.fresh {w0 W : World} {g : Nat} {f0 : Int} {f1 : Int} {f2 : List Int} (h : IsS78 w0 W g f0 f1 f2) : ∀ k, W.heap.size ≤ k → k ≠ g := by
  obtain ⟨A2, c2, hb, hg, hr2⟩ := h
  exact Kd.freshB hb
theorem IsS78.kept {w0 W : World} {g : Nat} {f0 : Int} {f1 : Int} {f2 : List Int} {W1 : World} {S : Nat → Prop} (h : IsS78 w0 W g f0 f1 f2) (hk : Kept W W1 S) (hne : ¬ S g) : IsS78 w0 W1 g f0 f1 f2 := by
  obtain ⟨A2, c2, hb, hg, hr2⟩ := h
  exact ⟨A2, c2, blk_kept hb hk hne, hg, hr2⟩
theorem IsS78.below {w0 W : World} {g : Nat} {f0 : Int} {f1 : Int} {f2 : List Int} {W1 : World} (h : IsS78 w0 W g f0 f1 f2) (hw : Below W.heap.size W W1) : IsS78 w0 W1 g f0 f1 f2 := h.grown (grown_of_below hw none) (by simp)
theorem IsS78.alloc {w0 W : World} {g : Nat} {f0 : Int} {f1 : Int} {f2 : List Int} (h : IsS78 w0 W g f0 f1 f2) (o : Obj) : IsS78 w0 (W.alloc o) g f0 f1 f2 := h.below (below_alloc (Below.refl _ _) o)
theorem IsS78.drewN {w0 W : World} {g : Nat} {f0 : Int} {f1 : Int} {f2 : List Int} (h : IsS78 w0 W g f0 f1 f2) (m : Nat) : IsS78 w0 (W.drewN m) g f0 f1 f2 := h
theorem IsS78.drew {w0 W : World} {g : Nat} {f0 : Int} {f1 : Int} {f2 : List Int} (h : IsS78 w0 W g f0 f1 f2) : IsS78 w0 W.drew g f0 f1 f2 := h
theorem IsS78.at_ {w0 W : World} {g : Nat} {f0 : Int} {f1 : Int} {f2 : List Int} {w' : World} {m : Nat} (hq : W.drewN m = w') (h : IsS78 w0 W g f0 f1 f2) : IsS78 w0 w' g f0 f1 f2 := by subst hq; exact IsS78.drewN h m
theorem IsS78.apart {w0 W : World} {g : Nat} {f0 : Int} {f1 : Int} {f2 : List Int} {α : Type} {d : Kd α} {e : Nat} {base : Nat} {ok : Nat → Prop} {v : Value} {xs : List α} (h : IsS78 w0 W g f0 f1 f2) (ho : d.R e W base ok v xs) (ht : ∀ q, q ∈ e :: d.E → q ≠ 78) : d.R e W base (fun k => ok k ∧ k ≠ g) v xs := by
  obtain ⟨A2, c2, hb, hg, hr2⟩ := h
  exact Kd.R_types ho hb ht
theorem IsS78.own_ne {w0 W : World} {g : Nat} {f0 : Int} {f1 : Int} {f2 : List Int} {α : Type} {d : Kd α} {e : Nat} {base : Nat} {ok : Nat → Prop} {v : Value} {xs : List α} (h : IsS78 w0 W g f0 f1 f2) (ho : d.R e W base ok v xs) (ht : e ≠ 78) : some g ≠ v.ownBlock := by
  obtain ⟨A2, c2, hb, hg, hr2⟩ := h
  exact Kd.R_ne ho hb ht
theorem IsS78.apartQ {w0 W : World} {g : Nat} {f0 : Int} {f1 : Int} {f2 : List Int} {α : Type} {d : Kd α} {e : Nat} {base : Nat} {ok : Nat → Prop} {v : Value} {xs : List α} (h : IsS78 w0 W g f0 f1 f2) (ho : d.Q e W base ok v xs) (ht : ∀ q, q ∈ e :: d.E → q ≠ 78) : d.Q e W base (fun k => ok k ∧ k ≠ g) v xs := by
  obtain ⟨A2, c2, hb, hg, hr2⟩ := h
  exact Kd.Q_types ho hb ht
theorem IsS78.own_neQ {w0 W : World} {g : Nat} {f0 : Int} {f1 : Int} {f2 : List Int} {α : Type} {d : Kd α} {e : Nat} {base : Nat} {ok : Nat → Prop} {v : Value} {xs : List α} (h : IsS78 w0 W g f0 f1 f2) (ho : d.Q e W base ok v xs) (ht : e ≠ 78) : some g ≠ v.ownBlock := by
  obtain ⟨A2, c2, hb, hg, hr2⟩ := h
  exact Kd.Q_ne ho hb ht
theorem IsS78.apartS {w0 W : World} {g : Nat} {f0 : Int} {f1 : Int} {f2 : List Int} {α : Type} {d : Kd α} {e : Nat} {base : Nat} {ok : Nat → Prop} {v : Value} {xs : List α} (h : IsS78 w0 W g f0 f1 f2) (ho : d.S e W base ok v xs) (ht : ∀ q, q ∈ e :: d.E → q ≠ 78) : d.S e W base (fun k => ok k ∧ k ≠ g) v xs := by
  obtain ⟨A2, c2, hb, hg, hr2⟩ := h
  exact Kd.S_types ho hb ht
theorem IsS78.own_neS {w0 W : World} {g : Nat} {f0 : Int} {f1 : Int} {f2 : List Int} {α : Type} {d : Kd α} {e : Nat} {base : Nat} {ok : Nat → Prop} {v : Value} {xs : List α} (h : IsS78 w0 W g f0 f1 f2) (ho : d.S e W base ok v xs) (ht : e ≠ 78) : some g ≠ v.ownBlock := by
  obtain ⟨A2, c2, hb, hg, hr2⟩ := h
  exact Kd.S_ne ho hb ht
theorem IsS78.lt {w0 W : World} {g : Nat} {f0 : Int} {f1 : Int} {f2 : List Int} (h : IsS78 w0 W g f0 f1 f2) : g < W.heap.size := by
  obtain ⟨A2, c2, hb, hg, hr2⟩ := h
  exact blk_lt hb
theorem IsS78.ge {w0 W : World} {g : Nat} {f0 : Int} {f1 : Int} {f2 : List Int} (h : IsS78 w0 W g f0 f1 f2) : w0.heap.size ≤ g := by
  obtain ⟨A2, c2, hb, hg, hr2⟩ := h
  exact hg
theorem IsS78.ne_blk {w0 W : World} {g : Nat} {f0 : Int} {f1 : Int} {f2 : List Int} {a : Nat} {cs : Array Value} {t : TypeId} {fr : Nat × Nat} (h : IsS78 w0 W g f0 f1 f2) (hb2 : W.heap[a]? = some (.cells cs t fr)) (ht : t ≠ 78) : g ≠ a := by
  obtain ⟨A2, c2, hb, hg, hr2⟩ := h
  rintro rfl
  rw [hb] at hb2
  injection hb2 with hb2
  injection hb2 with _ ht2
  exact ht ht2.symm
theorem IsS78.far {w0 W : World} {g : Nat} {f0 : Int} {f1 : Int} {f2 : List Int} {p : Addr} (h : IsS78 w0 W g f0 f1 f2) (hne : g ≠ p.block) (u : Value) : IsS78 w0 (W.setCell p u) g f0 f1 f2 := by
  obtain ⟨A2, c2, hb, hg, hr2⟩ := h
  exact ⟨A2, c2, blk_far hb hne u, hg, hr2⟩
theorem cellS78_0 {W : World} {g : Nat} {A2 : Option Addr} {c2 : Nat} {f0 : Int} {f1 : Int} {f2 : List Int} (h : W.heap[g]? = some (.cells #[.int .i64 f0, .int .i64 f1, .slice A2 f2.length c2] 78 (0, 0))) : W.cell? ⟨g, 0, none⟩ = some (.int .i64 f0) := (blk_cell h 0).trans rfl
theorem IsS78.set_0 {w0 W : World} {g : Nat} {f0 : Int} {f1 : Int} {f2 : List Int} (h : IsS78 w0 W g f0 f1 f2) (x : Int) : IsS78 w0 (W.setCell ⟨g, 0, none⟩ (.int .i64 x)) g x f1 f2 := by
  obtain ⟨A2, c2, hb, hg, hr2⟩ := h
  exact ⟨A2, c2, by simpa using blk_set hb 0 (.int .i64 x), hg, hr2⟩
theorem cellS78_1 {W : World} {g : Nat} {A2 : Option Addr} {c2 : Nat} {f0 : Int} {f1 : Int} {f2 : List Int} (h : W.heap[g]? = some (.cells #[.int .i64 f0, .int .i64 f1, .slice A2 f2.length c2] 78 (0, 0))) : W.cell? ⟨g, 1, none⟩ = some (.int .i64 f1) := (blk_cell h 1).trans rfl
theorem IsS78.set_1 {w0 W : World} {g : Nat} {f0 : Int} {f1 : Int} {f2 : List Int} (h : IsS78 w0 W g f0 f1 f2) (x : Int) : IsS78 w0 (W.setCell ⟨g, 1, none⟩ (.int .i64 x)) g f0 x f2 := by
  obtain ⟨A2, c2, hb, hg, hr2⟩ := h
  exact ⟨A2, c2, by simpa using blk_set hb 1 (.int .i64 x), hg, hr2⟩
theorem cellS78_2 {W : World} {g : Nat} {A2 : Option Addr} {c2 : Nat} {f0 : Int} {f1 : Int} {f2 : List Int} (h : W.heap[g]? = some (.cells #[.int .i64 f0, .int .i64 f1, .slice A2 f2.length c2] 78 (0, 0))) : W.cell? ⟨g, 2, none⟩ = some (.slice A2 f2.length c2) := (blk_cell h 2).trans rfl
theorem IsS78.new (w0 W : World) (A2 : Option Addr) (c2 : Nat) (f0 : Int) (f1 : Int) (f2 : List Int) (hB : Below w0.heap.size w0 W) (hr2 : Kd.C (Kd.int .u8) w0 A2 f2.length f2) : IsS78 w0 (W.alloc (.cells #[.int .i64 f0, .int .i64 f1, .slice A2 f2.length c2] 78)) W.heap.size f0 f1 f2 := ⟨A2, c2, by simpa using heap_alloc_new W _, hB.size, hr2⟩

/-! ### scan_New: function 34 -/
def scan_New.f  : Option (Int × Int × List Int) := some (0, (-1), ([] : List Int))
set_option maxHeartbeats 8000000 in
set_option maxRecDepth 100000 in
theorem scan_New.calls  (r1 : Int) (r2 : Int) (r3 : List Int) (w0 w : World) (hB : Below w0.heap.size w0 w) (h : scan_New.f  = some (r1, r2, r3)) :
    Calls Tryd.prog 34 #[] w fun e w' => ∃ g_ : Nat, e = .returned (.pointer (some ⟨g_, 0, none⟩)) ∧ IsS78 w0 w' g_ r1 r2 r3 ∧ Below w0.heap.size w0 w' ∧ Below w.heap.size w w' := by
  have hu78 := Tryd.underlying78
  have HBW := Aside0.mk (Below.refl w.heap.size w)
  have HW0 := Aside0.mk hB.size
  have HB := Aside0.mk hB
  clear hB
  have H : (some (0, (-1), ([] : List Int))) = some (r1, r2, r3) := h
  clear h
  simp only [Option.some.injEq, Prod.mk.injEq] at H
  obtain ⟨rfl, rfl, rfl⟩ := H
  go_enter Tryd.func34, Tryd.ntmps34
  go_wp2_with (first | ((with_reducible refine gate_dst (N := 2) rfl ?_); refine box_event ?hg (N := 2) ?hd (cs := #[.int .i64 0, .int .i64 (-1), .slice none 0 0]) (t := 78) ?hr ?_; (case hd => rfl); (case hg => rfl); (case hr => first | (go_simp; done) | (go_simp; rfl)); intro gb383 hg w1 hbox hb; have n0_ := Aside0.mk (below_step HBW.out hb); have n1_ := Aside0.mk (below_step (by repeat (first | (with_reducible first | exact HB.out | apply below_alloc | apply pw_below_drewN | apply below_drew1) | exact HB.out)) hb); have n2_ := Aside0.mk (hbox); have n3_ := Aside0.mk ((by rw [hg]; exact (below_size (by repeat (first | (with_reducible first | exact HBW.out | apply below_alloc | apply pw_below_drewN | apply below_drew1) | exact HBW.out))) : w.heap.size ≤ gb383)); have n4_ := Aside0.mk ((Nat.le_trans HW0.out (by rw [hg]; exact (below_size (by repeat (first | (with_reducible first | exact HBW.out | apply below_alloc | apply pw_below_drewN | apply below_drew1) | exact HBW.out))) : w.heap.size ≤ gb383) : w0.heap.size ≤ gb383)); clear HBW; clear HB; have HBW := n0_; have HB := n1_; have BK383 := n2_; have GW383 := n3_; have GE383 := n4_; clear n0_ n1_ n2_ n3_ n4_; clear hb hbox hg))
  go_ret
  exact ⟨_, rfl, (show IsS78 w0 _ gb383 0 (-1) ([] : List Int) from ⟨none, 0, by (with_reducible repeat (first | refine blk_drewN ?_ _ | refine blk_drew ?_ | refine blk_alloc ?_ _)); exact BK383.out, GE383.out, (Kd.C_nil _ _)⟩), by repeat (first | (with_reducible first | exact HB.out | apply below_alloc | apply pw_below_drewN | apply below_drew1 | refine below_set ?_ GE383.out) | exact HB.out), by repeat (first | (with_reducible first | exact HBW.out | apply below_alloc | apply pw_below_drewN | apply below_drew1 | refine below_set ?_ GW383.out) | exact HBW.out)⟩

/-! ### gessoref02_Same: function 52 -/
def gessoref02_Same.f (a0_0 : Int) (a0_1 : Int) (l0_2 : List Int) (a1_0 : Int) (a1_1 : Int) (l1_2 : List Int) : Option (Bool) := if a0_0 = a1_0 then (if a0_1 = a1_1 then (some ((strOfNums l0_2).toList == (strOfNums l1_2).toList)) else (some false)) else (some false)
set_option maxHeartbeats 8000000 in
set_option maxRecDepth 100000 in
theorem gessoref02_Same.calls (a0_0 : Int) (a0_1 : Int) (A0_2 : Option Addr) (c0_2 : Nat) (l0_2 : List Int) (a1_0 : Int) (a1_1 : Int) (A1_2 : Option Addr) (c1_2 : Nat) (l1_2 : List Int) (r : Bool) (w : World) (hr0_2 : Kd.C (Kd.int .u8) w A0_2 l0_2.length l0_2) (hc0_2 : l0_2.length ≤ c0_2) (hr1_2 : Kd.C (Kd.int .u8) w A1_2 l1_2.length l1_2) (hc1_2 : l1_2.length ≤ c1_2) (h : gessoref02_Same.f a0_0 a0_1 l0_2 a1_0 a1_1 l1_2 = some r) :
    Calls Tryd.prog 52 #[.agg #[.int .i64 a0_0, .int .i64 a0_1, .slice A0_2 l0_2.length c0_2], .agg #[.int .i64 a1_0, .int .i64 a1_1, .slice A1_2 l1_2.length c1_2]] w fun e w' => e = .returned (.bool r) ∧ Below w.heap.size w w' := by
  have hu52 := Tryd.underlying52
  have HR0_2 := Aside0.mk hr0_2
  have HC0_2 := Aside0.mk hc0_2
  clear hr0_2 hc0_2
  have HR1_2 := Aside0.mk hr1_2
  have HC1_2 := Aside0.mk hc1_2
  clear hr1_2 hc1_2
  have HB := Aside0.mk (Below.refl w.heap.size w)
  have H : (if a0_0 = a1_0 then (if a0_1 = a1_1 then (some ((strOfNums l0_2).toList == (strOfNums l1_2).toList)) else (some false)) else (some false)) = some r := h
  clear h
  by_cases c3 : a0_0 = a1_0
  · rw [if_pos c3] at H
    have c3b0 : (a0_0 == a1_0) = true := beq_iff_eq.mpr c3
    have c3b1 : (a0_0 != a1_0) = false := bne_eq_false_iff_eq.mpr c3
    clear c3
    by_cases c4 : a0_1 = a1_1
    · rw [if_pos c4] at H
      have c4b0 : (a0_1 == a1_1) = true := beq_iff_eq.mpr c4
      have c4b1 : (a0_1 != a1_1) = false := bne_eq_false_iff_eq.mpr c4
      clear c4
      obtain rfl := Option.some.inj H
      go_enter Tryd.func52, Tryd.ntmps52
      go_wp2_with (first | ((with_reducible refine gate_dst (N := 2) rfl ?_); refine box_event ?hg (N := 2) ?hd (cs := #[.int .i64 a0_0, .int .i64 a0_1, .slice A0_2 l0_2.length c0_2]) (t := 52) ?hr ?_; (case hd => rfl); (case hg => rfl); (case hr => first | (go_simp; done) | (go_simp; rfl)); intro gb392 hg w5 hbox hb; have n0_ := Aside0.mk (below_step (by repeat (first | (with_reducible first | exact HB.out | apply below_alloc | apply pw_below_drewN | apply below_drew1) | exact HB.out)) hb); have n1_ := Aside0.mk (hbox); have n2_ := Aside0.mk ((by rw [hg]; exact (below_size (by repeat (first | (with_reducible first | exact HB.out | apply below_alloc | apply pw_below_drewN | apply below_drew1) | exact HB.out))) : w.heap.size ≤ gb392)); have n3_ := Aside0.mk ((by rw [hg]; exact (below_size (by repeat (first | (with_reducible first | exact HB.out | apply below_alloc | apply pw_below_drewN | apply below_drew1) | exact HB.out))) : w.heap.size ≤ gb392)); clear HB; have HB := n0_; have BK392 := n1_; have GW392 := n2_; have GE392 := n3_; clear n0_ n1_ n2_ n3_; clear hb hbox hg) | ((with_reducible refine gate_dst (N := 3) rfl ?_); refine box_event ?hg (N := 3) ?hd (cs := #[.int .i64 a1_0, .int .i64 a1_1, .slice A1_2 l1_2.length c1_2]) (t := 52) ?hr ?_; (case hd => rfl); (case hg => rfl); (case hr => first | (go_simp; done) | (go_simp; rfl)); intro gb393 hg w6 hbox hb; have n0_ := Aside0.mk (blk_below (g := gb392) (o := .cells #[.int .i64 a0_0, .int .i64 a0_1, .slice A0_2 l0_2.length c0_2] 52 (0, 0)) (by (with_reducible repeat (first | refine blk_drewN ?_ _ | refine blk_drew ?_ | refine blk_alloc ?_ _)); exact BK392.out) hb); have n1_ := Aside0.mk (below_step (by repeat (first | (with_reducible first | exact HB.out | apply below_alloc | apply pw_below_drewN | apply below_drew1 | refine below_set ?_ GE392.out) | exact HB.out)) hb); have n2_ := Aside0.mk (hbox); have n3_ := Aside0.mk ((by rw [hg]; exact (below_size (by repeat (first | (with_reducible first | exact HB.out | apply below_alloc | apply pw_below_drewN | apply below_drew1 | refine below_set ?_ GE392.out) | exact HB.out))) : w.heap.size ≤ gb393)); have n4_ := Aside0.mk ((by rw [hg]; exact (below_size (by repeat (first | (with_reducible first | exact HB.out | apply below_alloc | apply pw_below_drewN | apply below_drew1 | refine below_set ?_ GE392.out) | exact HB.out))) : w.heap.size ≤ gb393)); have n5_ := Aside0.mk ((by rw [hg]; exact Nat.ne_of_lt (blk_lt (g := gb392) (o := .cells #[.int .i64 a0_0, .int .i64 a0_1, .slice A0_2 l0_2.length c0_2] 52 (0, 0)) (by (with_reducible repeat (first | refine blk_drewN ?_ _ | refine blk_drew ?_ | refine blk_alloc ?_ _)); exact BK392.out)) : gb392 ≠ gb393)); have n6_ := Aside0.mk ((by rw [hg]; exact Nat.ne_of_gt (blk_lt (g := gb392) (o := .cells #[.int .i64 a0_0, .int .i64 a0_1, .slice A0_2 l0_2.length c0_2] 52 (0, 0)) (by (with_reducible repeat (first | refine blk_drewN ?_ _ | refine blk_drew ?_ | refine blk_alloc ?_ _)); exact BK392.out)) : gb393 ≠ gb392)); clear BK392; clear HB; have BK392 := n0_; have HB := n1_; have BK393 := n2_; have GW393 := n3_; have GE393 := n4_; have NB392_393 := n5_; have NB393_392 := n6_; clear n0_ n1_ n2_ n3_ n4_ n5_ n6_; clear hb hbox hg; have hnb7 := NB392_393.out; have hnc7 := NB393_392.out; have hcz8_0 : w6.cell? ⟨gb392, 0, none⟩ = some (.int .i64 a0_0) := (blk_cell BK392.out 0).trans rfl; have hcz8_1 : w6.cell? ⟨gb392, 1, none⟩ = some (.int .i64 a0_1) := (blk_cell BK392.out 1).trans rfl; have hcz8_2 : w6.cell? ⟨gb392, 2, none⟩ = some (.slice A0_2 l0_2.length c0_2) := (blk_cell BK392.out 2).trans rfl; have hfz8_0 := blk_frozen BK392.out 0; have hfz8_1 := blk_frozen BK392.out 1; have hfz8_2 := blk_frozen BK392.out 2; have hcz9_0 : w6.cell? ⟨gb393, 0, none⟩ = some (.int .i64 a1_0) := (blk_cell BK393.out 0).trans rfl; have hcz9_1 : w6.cell? ⟨gb393, 1, none⟩ = some (.int .i64 a1_1) := (blk_cell BK393.out 1).trans rfl; have hcz9_2 : w6.cell? ⟨gb393, 2, none⟩ = some (.slice A1_2 l1_2.length c1_2) := (blk_cell BK393.out 2).trans rfl; have hfz9_0 := blk_frozen BK393.out 0; have hfz9_1 := blk_frozen BK393.out 1; have hfz9_2 := blk_frozen BK393.out 2; have hcv10 := Kd.C_string (P := Tryd.prog) (A := A0_2) (c := c0_2) Tryd.underlying23 Tryd.underlying5 Tryd.underlying9 (Kd.C_below HR0_2.out HB.out); have hcv11 := Kd.C_string (P := Tryd.prog) (A := A1_2) (c := c1_2) Tryd.underlying23 Tryd.underlying5 Tryd.underlying9 (Kd.C_below HR1_2.out HB.out)))
      go_ret
      exact ⟨by first | rfl | (simp [errW_none, errW_some] <;> rfl) | (simp [*, errW_none, errW_some] <;> rfl), by repeat (first | (with_reducible first | exact HB.out | apply below_alloc | apply pw_below_drewN | apply below_drew1 | refine below_set ?_ GE392.out | refine below_set ?_ GE393.out) | exact HB.out)⟩
    · rw [if_neg c4] at H
      have c4b0 : (a0_1 == a1_1) = false := beq_eq_false_iff_ne.mpr c4
      have c4b1 : (a0_1 != a1_1) = true := bne_iff_ne.mpr c4
      obtain rfl := Option.some.inj H
      go_enter Tryd.func52, Tryd.ntmps52
      go_wp2_with (first | ((with_reducible refine gate_dst (N := 2) rfl ?_); refine box_event ?hg (N := 2) ?hd (cs := #[.int .i64 a0_0, .int .i64 a0_1, .slice A0_2 l0_2.length c0_2]) (t := 52) ?hr ?_; (case hd => rfl); (case hg => rfl); (case hr => first | (go_simp; done) | (go_simp; rfl)); intro gb392 hg w12 hbox hb; have n0_ := Aside0.mk (below_step (by repeat (first | (with_reducible first | exact HB.out | apply below_alloc | apply pw_below_drewN | apply below_drew1) | exact HB.out)) hb); have n1_ := Aside0.mk (hbox); have n2_ := Aside0.mk ((by rw [hg]; exact (below_size (by repeat (first | (with_reducible first | exact HB.out | apply below_alloc | apply pw_below_drewN | apply below_drew1) | exact HB.out))) : w.heap.size ≤ gb392)); have n3_ := Aside0.mk ((by rw [hg]; exact (below_size (by repeat (first | (with_reducible first | exact HB.out | apply below_alloc | apply pw_below_drewN | apply below_drew1) | exact HB.out))) : w.heap.size ≤ gb392)); clear HB; have HB := n0_; have BK392 := n1_; have GW392 := n2_; have GE392 := n3_; clear n0_ n1_ n2_ n3_; clear hb hbox hg) | ((with_reducible refine gate_dst (N := 3) rfl ?_); refine box_event ?hg (N := 3) ?hd (cs := #[.int .i64 a1_0, .int .i64 a1_1, .slice A1_2 l1_2.length c1_2]) (t := 52) ?hr ?_; (case hd => rfl); (case hg => rfl); (case hr => first | (go_simp; done) | (go_simp; rfl)); intro gb393 hg w13 hbox hb; have n0_ := Aside0.mk (blk_below (g := gb392) (o := .cells #[.int .i64 a0_0, .int .i64 a0_1, .slice A0_2 l0_2.length c0_2] 52 (0, 0)) (by (with_reducible repeat (first | refine blk_drewN ?_ _ | refine blk_drew ?_ | refine blk_alloc ?_ _)); exact BK392.out) hb); have n1_ := Aside0.mk (below_step (by repeat (first | (with_reducible first | exact HB.out | apply below_alloc | apply pw_below_drewN | apply below_drew1 | refine below_set ?_ GE392.out) | exact HB.out)) hb); have n2_ := Aside0.mk (hbox); have n3_ := Aside0.mk ((by rw [hg]; exact (below_size (by repeat (first | (with_reducible first | exact HB.out | apply below_alloc | apply pw_below_drewN | apply below_drew1 | refine below_set ?_ GE392.out) | exact HB.out))) : w.heap.size ≤ gb393)); have n4_ := Aside0.mk ((by rw [hg]; exact (below_size (by repeat (first | (with_reducible first | exact HB.out | apply below_alloc | apply pw_below_drewN | apply below_drew1 | refine below_set ?_ GE392.out) | exact HB.out))) : w.heap.size ≤ gb393)); have n5_ := Aside0.mk ((by rw [hg]; exact Nat.ne_of_lt (blk_lt (g := gb392) (o := .cells #[.int .i64 a0_0, .int .i64 a0_1, .slice A0_2 l0_2.length c0_2] 52 (0, 0)) (by (with_reducible repeat (first | refine blk_drewN ?_ _ | refine blk_drew ?_ | refine blk_alloc ?_ _)); exact BK392.out)) : gb392 ≠ gb393)); have n6_ := Aside0.mk ((by rw [hg]; exact Nat.ne_of_gt (blk_lt (g := gb392) (o := .cells #[.int .i64 a0_0, .int .i64 a0_1, .slice A0_2 l0_2.length c0_2] 52 (0, 0)) (by (with_reducible repeat (first | refine blk_drewN ?_ _ | refine blk_drew ?_ | refine blk_alloc ?_ _)); exact BK392.out)) : gb393 ≠ gb392)); clear BK392; clear HB; have BK392 := n0_; have HB := n1_; have BK393 := n2_; have GW393 := n3_; have GE393 := n4_; have NB392_393 := n5_; have NB393_392 := n6_; clear n0_ n1_ n2_ n3_ n4_ n5_ n6_; clear hb hbox hg; have hnb14 := NB392_393.out; have hnc14 := NB393_392.out; have hcz15_0 : w13.cell? ⟨gb392, 0, none⟩ = some (.int .i64 a0_0) := (blk_cell BK392.out 0).trans rfl; have hcz15_1 : w13.cell? ⟨gb392, 1, none⟩ = some (.int .i64 a0_1) := (blk_cell BK392.out 1).trans rfl; have hcz15_2 : w13.cell? ⟨gb392, 2, none⟩ = some (.slice A0_2 l0_2.length c0_2) := (blk_cell BK392.out 2).trans rfl; have hfz15_0 := blk_frozen BK392.out 0; have hfz15_1 := blk_frozen BK392.out 1; have hfz15_2 := blk_frozen BK392.out 2; have hcz16_0 : w13.cell? ⟨gb393, 0, none⟩ = some (.int .i64 a1_0) := (blk_cell BK393.out 0).trans rfl; have hcz16_1 : w13.cell? ⟨gb393, 1, none⟩ = some (.int .i64 a1_1) := (blk_cell BK393.out 1).trans rfl; have hcz16_2 : w13.cell? ⟨gb393, 2, none⟩ = some (.slice A1_2 l1_2.length c1_2) := (blk_cell BK393.out 2).trans rfl; have hfz16_0 := blk_frozen BK393.out 0; have hfz16_1 := blk_frozen BK393.out 1; have hfz16_2 := blk_frozen BK393.out 2))
      go_ret
      exact ⟨by first | rfl | (simp [errW_none, errW_some] <;> rfl) | (simp [*, errW_none, errW_some] <;> rfl), by repeat (first | (with_reducible first | exact HB.out | apply below_alloc | apply pw_below_drewN | apply below_drew1 | refine below_set ?_ GE392.out | refine below_set ?_ GE393.out) | exact HB.out)⟩
  · rw [if_neg c3] at H
    have c3b0 : (a0_0 == a1_0) = false := beq_eq_false_iff_ne.mpr c3
    have c3b1 : (a0_0 != a1_0) = true := bne_iff_ne.mpr c3
    obtain rfl := Option.some.inj H
    go_enter Tryd.func52, Tryd.ntmps52
    go_wp2_with (first | ((with_reducible refine gate_dst (N := 2) rfl ?_); refine box_event ?hg (N := 2) ?hd (cs := #[.int .i64 a0_0, .int .i64 a0_1, .slice A0_2 l0_2.length c0_2]) (t := 52) ?hr ?_; (case hd => rfl); (case hg => rfl); (case hr => first | (go_simp; done) | (go_simp; rfl)); intro gb392 hg w17 hbox hb; have n0_ := Aside0.mk (below_step (by repeat (first | (with_reducible first | exact HB.out | apply below_alloc | apply pw_below_drewN | apply below_drew1) | exact HB.out)) hb); have n1_ := Aside0.mk (hbox); have n2_ := Aside0.mk ((by rw [hg]; exact (below_size (by repeat (first | (with_reducible first | exact HB.out | apply below_alloc | apply pw_below_drewN | apply below_drew1) | exact HB.out))) : w.heap.size ≤ gb392)); have n3_ := Aside0.mk ((by rw [hg]; exact (below_size (by repeat (first | (with_reducible first | exact HB.out | apply below_alloc | apply pw_below_drewN | apply below_drew1) | exact HB.out))) : w.heap.size ≤ gb392)); clear HB; have HB := n0_; have BK392 := n1_; have GW392 := n2_; have GE392 := n3_; clear n0_ n1_ n2_ n3_; clear hb hbox hg) | ((with_reducible refine gate_dst (N := 3) rfl ?_); refine box_event ?hg (N := 3) ?hd (cs := #[.int .i64 a1_0, .int .i64 a1_1, .slice A1_2 l1_2.length c1_2]) (t := 52) ?hr ?_; (case hd => rfl); (case hg => rfl); (case hr => first | (go_simp; done) | (go_simp; rfl)); intro gb393 hg w18 hbox hb; have n0_ := Aside0.mk (blk_below (g := gb392) (o := .cells #[.int .i64 a0_0, .int .i64 a0_1, .slice A0_2 l0_2.length c0_2] 52 (0, 0)) (by (with_reducible repeat (first | refine blk_drewN ?_ _ | refine blk_drew ?_ | refine blk_alloc ?_ _)); exact BK392.out) hb); have n1_ := Aside0.mk (below_step (by repeat (first | (with_reducible first | exact HB.out | apply below_alloc | apply pw_below_drewN | apply below_drew1 | refine below_set ?_ GE392.out) | exact HB.out)) hb); have n2_ := Aside0.mk (hbox); have n3_ := Aside0.mk ((by rw [hg]; exact (below_size (by repeat (first | (with_reducible first | exact HB.out | apply below_alloc | apply pw_below_drewN | apply below_drew1 | refine below_set ?_ GE392.out) | exact HB.out))) : w.heap.size ≤ gb393)); have n4_ := Aside0.mk ((by rw [hg]; exact (below_size (by repeat (first | (with_reducible first | exact HB.out | apply below_alloc | apply pw_below_drewN | apply below_drew1 | refine below_set ?_ GE392.out) | exact HB.out))) : w.heap.size ≤ gb393)); have n5_ := Aside0.mk ((by rw [hg]; exact Nat.ne_of_lt (blk_lt (g := gb392) (o := .cells #[.int .i64 a0_0, .int .i64 a0_1, .slice A0_2 l0_2.length c0_2] 52 (0, 0)) (by (with_reducible repeat (first | refine blk_drewN ?_ _ | refine blk_drew ?_ | refine blk_alloc ?_ _)); exact BK392.out)) : gb392 ≠ gb393)); have n6_ := Aside0.mk ((by rw [hg]; exact Nat.ne_of_gt (blk_lt (g := gb392) (o := .cells #[.int .i64 a0_0, .int .i64 a0_1, .slice A0_2 l0_2.length c0_2] 52 (0, 0)) (by (with_reducible repeat (first | refine blk_drewN ?_ _ | refine blk_drew ?_ | refine blk_alloc ?_ _)); exact BK392.out)) : gb393 ≠ gb392)); clear BK392; clear HB; have BK392 := n0_; have HB := n1_; have BK393 := n2_; have GW393 := n3_; have GE393 := n4_; have NB392_393 := n5_; have NB393_392 := n6_; clear n0_ n1_ n2_ n3_ n4_ n5_ n6_; clear hb hbox hg; have hnb19 := NB392_393.out; have hnc19 := NB393_392.out; have hcz20_0 : w18.cell? ⟨gb392, 0, none⟩ = some (.int .i64 a0_0) := (blk_cell BK392.out 0).trans rfl; have hcz20_1 : w18.cell? ⟨gb392, 1, none⟩ = some (.int .i64 a0_1) := (blk_cell BK392.out 1).trans rfl; have hcz20_2 : w18.cell? ⟨gb392, 2, none⟩ = some (.slice A0_2 l0_2.length c0_2) := (blk_cell BK392.out 2).trans rfl; have hfz20_0 := blk_frozen BK392.out 0; have hfz20_1 := blk_frozen BK392.out 1; have hfz20_2 := blk_frozen BK392.out 2; have hcz21_0 : w18.cell? ⟨gb393, 0, none⟩ = some (.int .i64 a1_0) := (blk_cell BK393.out 0).trans rfl; have hcz21_1 : w18.cell? ⟨gb393, 1, none⟩ = some (.int .i64 a1_1) := (blk_cell BK393.out 1).trans rfl; have hcz21_2 : w18.cell? ⟨gb393, 2, none⟩ = some (.slice A1_2 l1_2.length c1_2) := (blk_cell BK393.out 2).trans rfl; have hfz21_0 := blk_frozen BK393.out 0; have hfz21_1 := blk_frozen BK393.out 1; have hfz21_2 := blk_frozen BK393.out 2))
    go_ret
    exact ⟨by first | rfl | (simp [errW_none, errW_some] <;> rfl) | (simp [*, errW_none, errW_some] <;> rfl), by repeat (first | (with_reducible first | exact HB.out | apply below_alloc | apply pw_below_drewN | apply below_drew1 | refine below_set ?_ GE392.out | refine below_set ?_ GE393.out) | exact HB.out)⟩

/-! ### gessoref02_End: function 53 -/
def gessoref02_End.f (a0_0 : Int) (a0_1 : Int) (l0_2 : List Int) : Option (Int) := if a0_1 < 0 then (if (l0_2.length : Int) > 0 then (some (wrap64 (a0_0 - (l0_2.length : Int)))) else (some a0_1)) else (some a0_1)
set_option maxHeartbeats 8000000 in
set_option maxRecDepth 100000 in
theorem gessoref02_End.calls (a0_0 : Int) (a0_1 : Int) (A0_2 : Option Addr) (c0_2 : Nat) (l0_2 : List Int) (r : Int) (w : World) (hr0_2 : Kd.C (Kd.int .u8) w A0_2 l0_2.length l0_2) (hc0_2 : l0_2.length ≤ c0_2) (h : gessoref02_End.f a0_0 a0_1 l0_2 = some r) :
    Calls Tryd.prog 53 #[.agg #[.int .i64 a0_0, .int .i64 a0_1, .slice A0_2 l0_2.length c0_2]] w fun e w' => e = .returned (.int .i64 r) ∧ Below w.heap.size w w' := by
  have hu52 := Tryd.underlying52
  have HR0_2 := Aside0.mk hr0_2
  have HC0_2 := Aside0.mk hc0_2
  clear hr0_2 hc0_2
  have HB := Aside0.mk (Below.refl w.heap.size w)
  have H : (if a0_1 < 0 then (if (l0_2.length : Int) > 0 then (some (wrap64 (a0_0 - (l0_2.length : Int)))) else (some a0_1)) else (some a0_1)) = some r := h
  clear h
  by_cases c2 : a0_1 < 0
  · rw [if_pos c2] at H
    have c2b0 : decide (a0_1 < 0) = true := decide_eq_true c2
    clear c2
    by_cases c3 : (l0_2.length : Int) > 0
    · rw [if_pos c3] at H
      have c3b0 : decide (0 < (l0_2.length : Int)) = true := decide_eq_true c3
      have c3b1 : decide (0 < l0_2.length) = true := decide_eq_true (by omega)
      clear c3
      obtain rfl := Option.some.inj H
      go_enter Tryd.func53, Tryd.ntmps53
      go_wp2_with (first | ((with_reducible refine gate_dst (N := 1) rfl ?_); (try (refine gate_guard (by rfl) ?_; dsimp only)); refine box_event ?hg (N := 1) ?hd (cs := #[.int .i64 a0_0, .int .i64 a0_1, .slice A0_2 l0_2.length c0_2]) (t := 52) ?hr ?_; (case hd => rfl); (case hg => rfl); (case hr => first | (go_simp; done) | (go_simp; rfl)); intro gb394 hg w4 hbox hb; have n0_ := Aside0.mk (below_step (by repeat (first | (with_reducible first | exact HB.out | apply below_alloc | apply pw_below_drewN | apply below_drew1) | exact HB.out)) hb); have n1_ := Aside0.mk (hbox); have n2_ := Aside0.mk ((by rw [hg]; exact (below_size (by repeat (first | (with_reducible first | exact HB.out | apply below_alloc | apply pw_below_drewN | apply below_drew1) | exact HB.out))) : w.heap.size ≤ gb394)); have n3_ := Aside0.mk ((by rw [hg]; exact (below_size (by repeat (first | (with_reducible first | exact HB.out | apply below_alloc | apply pw_below_drewN | apply below_drew1) | exact HB.out))) : w.heap.size ≤ gb394)); clear HB; have HB := n0_; have BK394 := n1_; have GW394 := n2_; have GE394 := n3_; clear n0_ n1_ n2_ n3_; clear hb hbox hg; have hcz5_0 : w4.cell? ⟨gb394, 0, none⟩ = some (.int .i64 a0_0) := (blk_cell BK394.out 0).trans rfl; have hcz5_1 : w4.cell? ⟨gb394, 1, none⟩ = some (.int .i64 a0_1) := (blk_cell BK394.out 1).trans rfl; have hcz5_2 : w4.cell? ⟨gb394, 2, none⟩ = some (.slice A0_2 l0_2.length c0_2) := (blk_cell BK394.out 2).trans rfl; have hfz5_0 := blk_frozen BK394.out 0; have hfz5_1 := blk_frozen BK394.out 1; have hfz5_2 := blk_frozen BK394.out 2))
      go_ret
      exact ⟨by first | rfl | (simp [errW_none, errW_some] <;> rfl) | (simp [*, errW_none, errW_some] <;> rfl), by repeat (first | (with_reducible first | exact HB.out | apply below_alloc | apply pw_below_drewN | apply below_drew1 | refine below_set ?_ GE394.out) | exact HB.out)⟩
    · rw [if_neg c3] at H
      have c3b0 : decide (0 < (l0_2.length : Int)) = false := decide_eq_false c3
      have c3b1 : decide (0 < l0_2.length) = false := decide_eq_false (by omega)
      clear c3
      obtain rfl := Option.some.inj H
      go_enter Tryd.func53, Tryd.ntmps53
      go_wp2_with (first | ((with_reducible refine gate_dst (N := 1) rfl ?_); (try (refine gate_guard (by rfl) ?_; dsimp only)); refine box_event ?hg (N := 1) ?hd (cs := #[.int .i64 a0_0, .int .i64 a0_1, .slice A0_2 l0_2.length c0_2]) (t := 52) ?hr ?_; (case hd => rfl); (case hg => rfl); (case hr => first | (go_simp; done) | (go_simp; rfl)); intro gb394 hg w6 hbox hb; have n0_ := Aside0.mk (below_step (by repeat (first | (with_reducible first | exact HB.out | apply below_alloc | apply pw_below_drewN | apply below_drew1) | exact HB.out)) hb); have n1_ := Aside0.mk (hbox); have n2_ := Aside0.mk ((by rw [hg]; exact (below_size (by repeat (first | (with_reducible first | exact HB.out | apply below_alloc | apply pw_below_drewN | apply below_drew1) | exact HB.out))) : w.heap.size ≤ gb394)); have n3_ := Aside0.mk ((by rw [hg]; exact (below_size (by repeat (first | (with_reducible first | exact HB.out | apply below_alloc | apply pw_below_drewN | apply below_drew1) | exact HB.out))) : w.heap.size ≤ gb394)); clear HB; have HB := n0_; have BK394 := n1_; have GW394 := n2_; have GE394 := n3_; clear n0_ n1_ n2_ n3_; clear hb hbox hg; have hcz7_0 : w6.cell? ⟨gb394, 0, none⟩ = some (.int .i64 a0_0) := (blk_cell BK394.out 0).trans rfl; have hcz7_1 : w6.cell? ⟨gb394, 1, none⟩ = some (.int .i64 a0_1) := (blk_cell BK394.out 1).trans rfl; have hcz7_2 : w6.cell? ⟨gb394, 2, none⟩ = some (.slice A0_2 l0_2.length c0_2) := (blk_cell BK394.out 2).trans rfl; have hfz7_0 := blk_frozen BK394.out 0; have hfz7_1 := blk_frozen BK394.out 1; have hfz7_2 := blk_frozen BK394.out 2))
      go_ret
      exact ⟨by first | rfl | (simp [errW_none, errW_some] <;> rfl) | (simp [*, errW_none, errW_some] <;> rfl), by repeat (first | (with_reducible first | exact HB.out | apply below_alloc | apply pw_below_drewN | apply below_drew1 | refine below_set ?_ GE394.out) | exact HB.out)⟩
  · rw [if_neg c2] at H
    have c2b0 : decide (a0_1 < 0) = false := decide_eq_false c2
    clear c2
    obtain rfl := Option.some.inj H
    go_enter Tryd.func53, Tryd.ntmps53
    go_wp2_with (first | ((with_reducible refine gate_dst (N := 1) rfl ?_); (try (refine gate_guard (by rfl) ?_; dsimp only)); refine box_event ?hg (N := 1) ?hd (cs := #[.int .i64 a0_0, .int .i64 a0_1, .slice A0_2 l0_2.length c0_2]) (t := 52) ?hr ?_; (case hd => rfl); (case hg => rfl); (case hr => first | (go_simp; done) | (go_simp; rfl)); intro gb394 hg w8 hbox hb; have n0_ := Aside0.mk (below_step (by repeat (first | (with_reducible first | exact HB.out | apply below_alloc | apply pw_below_drewN | apply below_drew1) | exact HB.out)) hb); have n1_ := Aside0.mk (hbox); have n2_ := Aside0.mk ((by rw [hg]; exact (below_size (by repeat (first | (with_reducible first | exact HB.out | apply below_alloc | apply pw_below_drewN | apply below_drew1) | exact HB.out))) : w.heap.size ≤ gb394)); have n3_ := Aside0.mk ((by rw [hg]; exact (below_size (by repeat (first | (with_reducible first | exact HB.out | apply below_alloc | apply pw_below_drewN | apply below_drew1) | exact HB.out))) : w.heap.size ≤ gb394)); clear HB; have HB := n0_; have BK394 := n1_; have GW394 := n2_; have GE394 := n3_; clear n0_ n1_ n2_ n3_; clear hb hbox hg; have hcz9_0 : w8.cell? ⟨gb394, 0, none⟩ = some (.int .i64 a0_0) := (blk_cell BK394.out 0).trans rfl; have hcz9_1 : w8.cell? ⟨gb394, 1, none⟩ = some (.int .i64 a0_1) := (blk_cell BK394.out 1).trans rfl; have hcz9_2 : w8.cell? ⟨gb394, 2, none⟩ = some (.slice A0_2 l0_2.length c0_2) := (blk_cell BK394.out 2).trans rfl; have hfz9_0 := blk_frozen BK394.out 0; have hfz9_1 := blk_frozen BK394.out 1; have hfz9_2 := blk_frozen BK394.out 2))
    go_ret
    exact ⟨by first | rfl | (simp [errW_none, errW_some] <;> rfl) | (simp [*, errW_none, errW_some] <;> rfl), by repeat (first | (with_reducible first | exact HB.out | apply below_alloc | apply pw_below_drewN | apply below_drew1 | refine below_set ?_ GE394.out) | exact HB.out)⟩

end Go.Proofs.YtjlhehaagaaihaaDoor.P
