/- A scan in memory, and the calls of its methods that tell of it. No condition. -/
import Derived.Test.YtjlhehaagaaihaaDoorGa
import Derived.Test.YtjlhehaagaaihaaDoorPx18
import Derived.Test.YtjlhehaagaaihaaDoorPx3
namespace Go.Proofs.YtjlhehaagaaihaaDoor.P
open Go.RowKit Go.Lib Go.Proofs.YtjlhehaagaaihaaDoorW.PrintWords Go.Proofs.YtjlhehaagaaihaaDoorW.PrintLast Go.Proofs.YtjlhehaagaaihaaDoorW.PrintMore
attribute [local go_sem] max2_int min2_int max_two min_two max_three min_three max_four min_four
set_option linter.unusedVariables false
set_option linter.unusedSimpArgs false

/-- A row of bytes in a world. -/
def U8 (w : World) (k : Nat) : Prop := ∃ cs fz, w.heap[k]? = some (.cells cs 5 fz)
/-- A scan at block p: how far it has come, where bytes are not right, what is pending; what is pending lies in rows of bytes that meet 'ok'. -/
def ScanAt (w : World) (p : Nat) (s b : Int) (pend : List Int) (ok : Nat → Prop) : Prop :=
  ∃ A c, w.heap[p]? = some (.cells #[.int .i64 s, .int .i64 b, .slice A pend.length c] 78 (0, 0)) ∧ pend.length ≤ c ∧ Kd.F (Kd.int .u8) w (fun k => ok k ∧ U8 w k) A pend.length pend
theorem U8.move {w w1 : World} {k : Nat} (h : U8 w k) (hm : w1.heap[k]? = w.heap[k]?) : U8 w1 k := by
  obtain ⟨cs, fz, h⟩ := h
  exact ⟨cs, fz, hm.trans h⟩
/-- A scan stays where its blocks stay. -/
theorem ScanAt.step {w w1 : World} {p : Nat} {s b : Int} {pend : List Int} {ok : Nat → Prop} (h : ScanAt w p s b pend ok) (hp : w1.heap[p]? = w.heap[p]?) (hm : ∀ k, ok k → U8 w k → k < w.heap.size → w1.heap[k]? = w.heap[k]?) : ScanAt w1 p s b pend ok := by
  obtain ⟨A, c, h1, h2, h3⟩ := h
  refine ⟨A, c, hp.trans h1, h2, ?_⟩
  exact Kd.F_mono (Kd.F_step (Kd.F_bound h3) (fun k hk hlt => hm k hk.1.1 hk.1.2 hlt)) (fun k hk => ⟨hk.1.1, hk.1.2.move (hm k hk.1.1 hk.1.2 hk.2)⟩)
theorem ScanAt.lt {w : World} {p : Nat} {s b : Int} {pend : List Int} {ok : Nat → Prop} (h : ScanAt w p s b pend ok) : p < w.heap.size := by
  obtain ⟨A, c, h1, _⟩ := h
  exact blk_lt h1
theorem ScanAt.below {w w1 : World} {p : Nat} {s b : Int} {pend : List Int} {ok : Nat → Prop} (h : ScanAt w p s b pend ok) (hb : Below w.heap.size w w1) : ScanAt w1 p s b pend ok :=
  h.step (hb.block p h.lt) (fun k _ _ hlt => hb.block k hlt)
theorem ScanAt.bound {w : World} {p : Nat} {s b : Int} {pend : List Int} {ok : Nat → Prop} (h : ScanAt w p s b pend ok) : ScanAt w p s b pend (fun k => ok k ∧ k < w.heap.size) := by
  obtain ⟨A, c, h1, h2, h3⟩ := h
  exact ⟨A, c, h1, h2, Kd.F_mono (Kd.F_bound h3) (fun k hk => ⟨⟨hk.1.1, hk.2⟩, hk.1.2⟩)⟩
theorem ScanAt.mono {w : World} {p : Nat} {s b : Int} {pend : List Int} {ok ok' : Nat → Prop} (h : ScanAt w p s b pend ok) (hok : ∀ k, ok k → ok' k) : ScanAt w p s b pend ok' := by
  obtain ⟨A, c, h1, h2, h3⟩ := h
  exact ⟨A, c, h1, h2, Kd.F_mono h3 (fun k hk => ⟨hok k hk.1, hk.2⟩)⟩
/-- Another scan has been written. -/
theorem ScanAt.other {w w1 : World} {p q : Nat} {s b s' b' : Int} {pend pend' : List Int} {ok ok' : Nat → Prop} (h : ScanAt w p s b pend ok) (h' : ScanAt w q s' b' pend' ok') (hne : p ≠ q) (hg : w.grownBy w1 (some q)) : ScanAt w1 p s b pend ok := by
  obtain ⟨A', c', h1', _⟩ := h'
  refine h.step (hg.block p h.lt (fun e => hne (by injection e))) (fun k _ hu hlt => hg.block k hlt (fun e => ?_))
  obtain ⟨cs, fz, hu⟩ := hu
  have : k = q := by injection e
  subst this
  rw [h1'] at hu
  injection hu with hu
  injection hu with _ hu
  exact absurd hu (by decide)
theorem ScanAt.new (w : World) (s b : Int) (ok : Nat → Prop) : ScanAt (w.alloc (.cells #[.int .i64 s, .int .i64 b, .slice none 0 0] 78)) w.heap.size s b [] ok :=
  ⟨none, 0, blk_new w _, Nat.le_refl _, Kd.F_nil _ _ _⟩

set_option maxRecDepth 100000 in
theorem new_any (w : World) : Calls Tryd.prog 34 #[] w fun e w' => e = .returned (.pointer (some ⟨w.heap.size, 0, none⟩)) ∧ w' = w.alloc (.cells #[.int .i64 0, .int .i64 (-1), .slice none 0 0] 78) := by
  have hu78 := Tryd.underlying78
  go_enter Tryd.func34, Tryd.ntmps34
  go_wp2
  go_ret
  exact ⟨rfl, rfl⟩
set_option maxRecDepth 100000 in
theorem fault_nil (w : World) : Calls Tryd.prog 38 #[.pointer none] w fun e w' => e = .returned (.int .i64 (-1)) ∧ w' = w := by
  go_enter Tryd.func38, Tryd.ntmps38
  go_wp2
  go_ret
  exact ⟨rfl, rfl⟩
set_option maxRecDepth 100000 in
theorem fault_any (p : Nat) (s b : Int) (v : Value) (w : World) (h : w.heap[p]? = some (.cells #[.int .i64 s, .int .i64 b, v] 78 (0, 0))) :
    Calls Tryd.prog 38 #[.pointer (some ⟨p, 0, none⟩)] w fun e w' => e = .returned (.int .i64 b) ∧ w' = w := by
  have h1 : w.cell? ⟨p, 1, none⟩ = some (.int .i64 b) := (blk_cell h 1).trans rfl
  have hu78 := Tryd.underlying78
  clear h
  go_enter Tryd.func38, Tryd.ntmps38
  go_wp2
  go_ret
  exact ⟨rfl, rfl⟩
set_option maxRecDepth 100000 in
theorem end_nil (w : World) : Calls Tryd.prog 39 #[.pointer none] w fun e w' => e = .returned (.int .i64 (-1)) ∧ ∃ n, w' = w.drewN n := by
  go_enter Tryd.func39, Tryd.ntmps39
  go_wp2_with (go_at_call 38; ((with_reducible refine (fault_nil _).mono ?_); rintro e w' ⟨rfl, rfl⟩))
  go_ret
  exact ⟨rfl, 0, rfl⟩
/-- Where bytes are not right, if none come any more. -/
def endOf (s b : Int) (n : Nat) : Int := if b ≥ 0 then b else if n = 0 then b else s - n
set_option maxHeartbeats 400000 in
set_option maxRecDepth 100000 in
theorem end_any (p : Nat) (s b : Int) (A : Option Addr) (n c : Nat) (w : World) (h : w.heap[p]? = some (.cells #[.int .i64 s, .int .i64 b, .slice A n c] 78 (0, 0))) (hs : 0 ≤ s) (hs' : s ≤ 1099511627776) (hn : n ≤ 1099511627776) :
    Calls Tryd.prog 39 #[.pointer (some ⟨p, 0, none⟩)] w fun e w' => e = .returned (.int .i64 (endOf s b n)) ∧ ∃ n, w' = w.drewN n := by
  have cF := fault_any p s b _ w h
  have CF := Lib.hid cF
  have h0 : w.cell? ⟨p, 0, none⟩ = some (.int .i64 s) := (blk_cell h 0).trans rfl
  have h1 : w.cell? ⟨p, 1, none⟩ = some (.int .i64 b) := (blk_cell h 1).trans rfl
  have h2 : w.cell? ⟨p, 2, none⟩ = some (.slice A n c) := (blk_cell h 2).trans rfl
  have hu78 := Tryd.underlying78
  clear cF h
  unfold endOf
  by_cases hb : b ≥ 0
  · rw [if_pos hb]
    have hb' : (0 : Int) ≤ b := hb
    go_enter Tryd.func39, Tryd.ntmps39
    go_wp2_with (go_at_call 38; ((with_reducible refine CF.out.mono ?_); rintro e w' ⟨rfl, rfl⟩))
    go_ret
    exact ⟨rfl, 0, rfl⟩
  · rw [if_neg hb]
    have hb' : ¬ (0 : Int) ≤ b := hb
    by_cases hn0 : n = 0
    · rw [if_pos hn0]
      have hnb : ((n : Int) == 0) = true := by simp [hn0]
      clear hn0
      go_enter Tryd.func39, Tryd.ntmps39
      go_wp2_with (go_at_call 38; ((with_reducible refine CF.out.mono ?_); rintro e w' ⟨rfl, rfl⟩))
      go_ret
      exact ⟨rfl, 0, rfl⟩
    · rw [if_neg hn0]
      have hnb : ((n : Int) == 0) = false := beq_eq_false_iff_ne.mpr (by omega)
      go_enter Tryd.func39, Tryd.ntmps39
      go_wp2
      go_quiet (fail)
      go_wp2
      go_ret
      exact ⟨rfl, _, rfl⟩
end Go.Proofs.YtjlhehaagaaihaaDoor.P
