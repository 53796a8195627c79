/- Plain facts: light lists of paths; the reference's queue. No condition. -/
import Derived.Test.YtomhpfgibekmfaaMw
import Derived.Test.YtomhpfgibekmfaaPx6
namespace Go.Proofs.Ytomhpfgibekmfaa.Pure
open Go.RowKit Go.Proofs.Ytomhpfgibekmfaa.P Go.Proofs.YtomhpfgibekmfaaW.PrintWords Go.Proofs.YtomhpfgibekmfaaW.PrintLast Go.Proofs.YtomhpfgibekmfaaW.PrintMore
set_option linter.unusedSimpArgs false
set_option linter.unusedVariables false
def wsum (l : List Pth) : Nat := (l.map fun x => min x.length 1001).sum
def lightB (l : List Pth) : Bool := decide (l.length ≤ 200) && decide (wsum l ≤ 1000)
theorem wsum_take (l : List Pth) : ∀ i, i < l.length → wsum (l.take (i + 1)) = wsum (l.take i) + min (l.getD i []).length 1001 := fun i hi => by
  rw [List.take_succ_eq_append_getElem hi]
  unfold wsum
  rw [List.map_append, List.sum_append]
  simp [hi]
theorem wsum_mem {l : List Pth} {x : Pth} (h : x ∈ l) : min x.length 1001 ≤ wsum l := by
  induction l with
  | nil => cases h
  | cons y l ih =>
    simp only [wsum, List.map_cons, List.sum_cons] at ih ⊢
    rcases List.mem_cons.1 h with rfl | h
    · omega
    · have := ih h
      omega
theorem wsum_le (l : List Pth) : wsum l ≤ 1001 * l.length := by
  induction l with
  | nil => exact Nat.le_refl _
  | cons y l ih =>
    simp only [wsum, List.map_cons, List.sum_cons, List.length_cons] at ih ⊢
    omega
theorem light_loop (l : List Pth) (hl : l.length ≤ 200) : ∀ (m i : Nat), l.length - i = m → i ≤ l.length → Ev (fun k => gessolaw15_light.l0 k l (wsum (l.take i) : Int) (i : Int)) (decide (wsum l ≤ 1000))
  | m, i, hm, hi => by
    have h9 := wsum_le (l.take i)
    rw [List.length_take] at h9
    by_cases h : i < l.length
    · cases m with
      | zero => omega
      | succ m =>
        refine Ev.step (f := fun k => gessolaw15_light.l0 k l (wsum (l.take (i + 1)) : Int) ((i + 1 : Nat) : Int)) (fun k => ?_) (light_loop l hl m (i + 1) (by omega) (by omega))
        have hmn : mn ((rd_L1 l (i : Int)).length : Int) 1001 = ((min (l.getD i []).length 1001 : Nat) : Int) := by
          rw [rd_L1_nat]
          unfold mn
          split <;> omega
        rw [gessolaw15_light.l0, if_pos (by omega), if_pos (by omega), hmn, w64 (by omega) (by omega), w64 (by omega) (by omega), wsum_take l i h]
        congr 1
    · refine Ev.step (f := fun _ => some (decide (wsum l ≤ 1000))) (fun k => ?_) (Ev.now _)
      rw [gessolaw15_light.l0, if_neg (by omega), List.take_of_length_le (by omega)]
      congr 1
      exact decide_eq_decide.2 (by omega)
theorem light_ev (l : List Pth) : Ev (fun k => gessolaw15_light.f k l) (lightB l) := by
  unfold gessolaw15_light.f lightB
  by_cases h : l.length ≤ 200
  · simp only [if_neg (show ¬ (l.length : Int) > 200 by omega)]
    have := light_loop l h l.length 0 (by omega) (by omega)
    simpa [h, wsum] using this
  · simp only [if_pos (show (l.length : Int) > 200 by omega)]
    rw [decide_eq_false h]
    exact Ev.now _
theorem light_of {l : List Pth} (h : lightB l = true) : l.length ≤ 200 ∧ ∀ x ∈ l, x.length ≤ 1000 := by
  simp only [lightB, Bool.and_eq_true, decide_eq_true_eq] at h
  refine ⟨h.1, fun x hx => ?_⟩
  have := wsum_mem hx
  omega
/-! ### The reference's queue -/
theorem ins_take (d : Bool) (x : Pth) : ∀ (S : List Pth) (i : Nat), i ≤ S.length → (∀ k, k < i → bf d (ga S k) x = true) → (i < S.length → bf d (ga S i) x = false) → S.take i ++ x :: S.drop i = ins d x S
  | [], i, hi, _, _ => by
    obtain rfl : i = 0 := by simpa using hi
    rfl
  | y :: S, 0, _, _, h => by
    have h2 : bf d y x = false := h (by simp)
    simp [ins, h2]
  | y :: S, i + 1, hi, h1, h2 => by
    have h3 : bf d y x = true := h1 0 (by omega)
    simp only [ins, h3, if_true, List.take_succ_cons, List.drop_succ_cons, List.cons_append]
    rw [ins_take d x S i (by simpa using hi) (fun k hk => h1 (k + 1) (by omega)) (fun hk => h2 (by simpa using hk))]
def push_tail (d : Bool) (S : List Pth) (x : Pth) (i : Int) : Option (Bool × List (List ByteArray)) := (if i ≤ (S.length : Int) then ((some (S.take i.toNat : List (List ByteArray))).bind fun y185 => (if ([] : List (List ByteArray)).length + y185.length < 5864062014805 then ((some (([] : List (List ByteArray)) ++ y185 : List (List ByteArray))).bind fun y190 => ((some (([] : List ByteArray) : List ByteArray)).bind fun y193 => (if y193.length + x.length < 8796093022208 then (if y190.length < 5864062014805 then ((some (y190 ++ [(y193 ++ x)] : List (List ByteArray))).bind fun y199 => ((some (S.drop i.toNat : List (List ByteArray))).bind fun y202 => (if y199.length + y202.length < 5864062014805 then (some (d, (y199 ++ y202))) else (none)))) else (none)) else (none)))) else (none))) else (none))
theorem push_done (d : Bool) (S : List Pth) (x : Pth) (i : Nat) (hi : i ≤ S.length) (hS : S.length ≤ 1099511627776) (hx : x.length ≤ 1099511627776) (h1 : ∀ k, k < i → bf d (ga S k) x = true) (h2 : i < S.length → bf d (ga S i) x = false) :
    push_tail d S x (i : Int) = some (d, ins d x S) := by
  unfold push_tail
  rw [if_pos (by omega), Int.toNat_natCast]
  simp only [Option.bind_some, List.nil_append, List.length_nil, Nat.zero_add]
  rw [if_pos (by rw [List.length_take]; omega), if_pos (by omega), if_pos (by rw [List.length_take]; omega)]
  rw [if_pos (by simp only [List.length_append, List.length_take, List.length_drop, List.length_cons, List.length_nil]; omega)]
  rw [List.append_assoc]
  have := ins_take d x S i hi h1 h2
  rw [← this]
  rfl
theorem push_loop (d : Bool) (S : List Pth) (x : Pth) (hS : S.length ≤ 1099511627776) (hS2 : ∀ y ∈ S, y.length ≤ 1099511627776) (hx : x.length ≤ 1099511627776) : ∀ (m i : Nat), S.length - i = m → i ≤ S.length → (∀ k, k < i → bf d (ga S k) x = true) → Ev (fun k => gessoref15_Queue_Push.l0 k x (i : Int) d S) (d, ins d x S)
  | m, i, hm, hi, h1 => by
    by_cases h : i < S.length
    · have hg : rd_L1 S (i : Int) = ga S i := by rw [rd_L1_nat]; rfl
      have hgl : (ga S i).length ≤ 1099511627776 := hS2 _ (by rw [ga_lt h]; exact List.getElem_mem _)
      cases m with
      | zero => omega
      | succ m =>
        cases hb : bf d (ga S i) x
        · refine Ev.step (f := fun k => (gessoref15_Queue_before.f k d S (ga S i) x).bind fun t184 => if t184 = true then gessoref15_Queue_Push.l0 k x ((i + 1 : Nat) : Int) d S else some (d, ins d x S)) (fun k => ?_) ?_
          · rw [gessoref15_Queue_Push.l0, if_pos (by omega), if_pos (by omega), hg, w64 (by omega) (by omega), ← push_done d S x i hi hS hx h1 (fun _ => hb)]
            rfl
          · refine Ev.bind (before_ev d S (ga S i) x hgl) ?_
            simp only [hb, Bool.false_eq_true, if_false]
            exact Ev.now _
        · refine Ev.step (f := fun k => (gessoref15_Queue_before.f k d S (ga S i) x).bind fun t184 => if t184 = true then gessoref15_Queue_Push.l0 k x ((i + 1 : Nat) : Int) d S else push_tail d S x (i : Int)) (fun k => ?_) ?_
          · rw [gessoref15_Queue_Push.l0, if_pos (by omega), if_pos (by omega), hg, w64 (by omega) (by omega)]
            rfl
          · refine Ev.bind (before_ev d S (ga S i) x hgl) ?_
            simp only [hb, if_true]
            exact push_loop d S x hS hS2 hx m (i + 1) (by omega) (by omega) (fun k hk => by
              by_cases hki : k = i
              · subst hki; exact hb
              · exact h1 k (by omega))
    · refine Ev.step (f := fun _ => some (d, ins d x S)) (fun k => ?_) (Ev.now _)
      rw [gessoref15_Queue_Push.l0, if_neg (by omega), if_pos (by omega), ← push_done d S x i hi hS hx h1 (fun hh => absurd hh h)]
      rfl
theorem push_ev (d : Bool) (S : List Pth) (x : Pth) (hS : S.length ≤ 1099511627776) (hS2 : ∀ y ∈ S, y.length ≤ 1099511627776) (hx : x.length ≤ 1099511627776) : Ev (fun k => gessoref15_Queue_Push.f k d S x) (d, ins d x S) :=
  push_loop d S x hS hS2 hx S.length 0 (by omega) (by omega) (fun k hk => by omega)
theorem rsort_loop (d : Bool) (l : List Pth) (hl : l.length ≤ 1048576) (hl2 : ∀ y ∈ l, y.length ≤ 1099511627776) : ∀ (m i : Nat), l.length - i = m → i ≤ l.length → Ev (fun k => gessoref15_Sorted.l0 k l (i : Int) d (srt d [] (l.take i))) (srt d [] l)
  | m, i, hm, hi => by
    by_cases h : i < l.length
    · cases m with
      | zero => omega
      | succ m =>
        have hg : rd_L1 l (i : Int) = l[i] := by rw [rd_L1_nat]; simp [h]
        refine Ev.step (f := fun k => (gessoref15_Queue_Push.f k d (srt d [] (l.take i)) l[i]).bind fun bt => gessoref15_Sorted.l0 k l ((i + 1 : Nat) : Int) bt.1 bt.2) (fun k => ?_) ?_
        · rw [gessoref15_Sorted.l0, if_pos (by omega), if_pos (by omega), hg, w64 (by omega) (by omega)]
          rfl
        · have hp := srt_perm d (l.take i) []
          rw [List.append_nil] at hp
          refine Ev.bind (push_ev d _ _ (by rw [hp.length_eq, List.length_take]; omega) (fun y hy => hl2 y (List.mem_of_mem_take (hp.mem_iff.1 hy))) (hl2 _ (List.getElem_mem _))) ?_
          have := rsort_loop d l hl hl2 m (i + 1) (by omega) (by omega)
          rw [List.take_succ_eq_append_getElem h, srt_snoc] at this
          exact this
    · refine Ev.step (f := fun _ => some (srt d [] l)) (fun k => ?_) (Ev.now _)
      rw [gessoref15_Sorted.l0, if_neg (by omega), List.take_of_length_le (by omega)]
theorem rsort_ev (d : Bool) (l : List Pth) (hl : l.length ≤ 1048576) (hl2 : ∀ y ∈ l, y.length ≤ 1099511627776) : Ev (fun k => gessoref15_Sorted.f k l d) (srt d [] l) :=
  rsort_loop d l hl hl2 l.length 0 (by omega) (by omega)
end Go.Proofs.Ytomhpfgibekmfaa.Pure
