/- Plain facts: what the reference's functions of chapter 15 compute. No condition. -/
import Derived.Test.YtomhpfgibekmfaaQf
import Derived.Test.YtomhpfgibekmfaaQt
import Derived.Test.YtomhpfgibekmfaaPx8
import Derived.Test.YtomhpfgibekmfaaPx5
namespace Go.Proofs.Ytomhpfgibekmfaa.Pure
open Go.RowKit Go.Proofs.Ytomhpfgibekmfaa.P Go.Proofs.YtomhpfgibekmfaaW.PrintWords Go.Proofs.YtomhpfgibekmfaaW.PrintLast Go.Proofs.YtomhpfgibekmfaaW.PrintMore
set_option linter.unusedSimpArgs false
set_option linter.unusedVariables false
theorem rless_loop (x y : Pth) (hx : x.length ≤ 1099511627776) : ∀ (m i : Nat), x.length - i = m → i ≤ x.length → i ≤ y.length → Ev (fun k => gessoref14_Less.l0 k x y (i : Int)) (ltP (x.drop i) (y.drop i))
  | m, i, hm, hi, hj => by
    by_cases h : i < x.length
    · refine Ev.step (f := fun k => gessoref14_Less.j1 k x y (i : Int) (decide ((i : Int) < (y.length : Int)))) (fun k => by rw [gessoref14_Less.l0, if_pos (by omega)]) ?_
      have e1 := List.drop_eq_getElem_cons h
      by_cases h2 : i < y.length
      · have e2 := List.drop_eq_getElem_cons h2
        have g1 : rdOf ByteArray.empty x (i : Int) = x[i] := by rw [rdOf_nat]; simp [h]
        have g2 : rdOf ByteArray.empty y (i : Int) = y[i] := by rw [rdOf_nat]; simp [h2]
        rw [decide_eq_true (show (i : Int) < (y.length : Int) by omega)]
        by_cases hq : x[i].toList = y[i].toList
        · cases m with
          | zero => omega
          | succ m =>
            refine Ev.step (f := fun k => gessoref14_Less.l0 k x y ((i + 1 : Nat) : Int)) (fun k => ?_) ?_
            · rw [gessoref14_Less.j1, if_pos rfl, if_pos (by omega), if_pos (by omega), if_pos (by omega), g1, g2, if_pos hq, w64 (by omega) (by omega)]
              rfl
            · rw [e1, e2, ltP, if_pos hq]
              exact rless_loop x y hx m (i + 1) (by omega) (by omega) (by omega)
        · refine Ev.step (f := fun _ => some (Op.bytesLess x[i].toList y[i].toList)) (fun k => ?_) ?_
          · rw [gessoref14_Less.j1, if_pos rfl, if_pos (by omega), if_pos (by omega), if_pos (by omega), g1, g2, if_neg hq]
          · rw [e1, e2, ltP, if_neg hq]
            exact Ev.now _
      · rw [decide_eq_false (show ¬ (i : Int) < (y.length : Int) by omega)]
        refine Ev.step (f := fun _ => some false) (fun k => ?_) ?_
        · rw [gessoref14_Less.j1, if_neg (by decide), decide_eq_false (by omega)]
        · rw [List.drop_eq_nil_of_le (show y.length ≤ i by omega)]
          have : ltP (x.drop i) [] = false := by cases x.drop i <;> rfl
          rw [this]
          exact Ev.now _
    · refine Ev.step (f := fun k => gessoref14_Less.j1 k x y (i : Int) false) (fun k => by rw [gessoref14_Less.l0, if_neg (by omega)]) ?_
      refine Ev.step (f := fun _ => some (ltP (x.drop i) (y.drop i))) (fun k => ?_) (Ev.now _)
      rw [gessoref14_Less.j1, if_neg (by decide), List.drop_eq_nil_of_le (show x.length ≤ i by omega)]
      by_cases h2 : i < y.length
      · rw [List.drop_eq_getElem_cons h2, decide_eq_true (by omega)]; rfl
      · rw [List.drop_eq_nil_of_le (show y.length ≤ i by omega), decide_eq_false (by omega)]; rfl
theorem rless_ev (x y : Pth) (hx : x.length ≤ 1099511627776) : Ev (fun k => gessoref15_Less.f k x y) (ltP x y) := by
  refine Ev.bind (rless_loop x y hx x.length 0 (by omega) (by omega) (by omega)) ?_
  exact Ev.now _
theorem rdeeper_ev (x y : Pth) (hx : x.length ≤ 1099511627776) : Ev (fun k => gessoref15_Deeper.f k x y) (dpP x y) := by
  unfold gessoref15_Deeper.f dpP
  by_cases hl : x.length = y.length
  · simp only [if_pos hl, if_pos (show (x.length : Int) = (y.length : Int) by omega)]
    exact Ev.bind (rless_ev x y hx) (Ev.now _)
  · simp only [if_neg hl, if_neg (show ¬ (x.length : Int) = (y.length : Int) by omega)]
    by_cases h2 : y.length < x.length
    · rw [decide_eq_true h2, decide_eq_true (show (x.length : Int) > (y.length : Int) by omega)]; exact Ev.now _
    · rw [decide_eq_false h2, decide_eq_false (show ¬ (x.length : Int) > (y.length : Int) by omega)]; exact Ev.now _
theorem less_ev (x y : Pth) (hx : x.length ≤ 1099511627776) : Ev (fun k => walk_Less.f k x y) (ltP x y) := by
  obtain ⟨k, h⟩ := less_f x y hx
  exact Ev.of (walk_Less.mono x y) h
theorem deeper_ev (x y : Pth) (hx : x.length ≤ 1099511627776) : Ev (fun k => walk_Deeper.f k x y) (dpP x y) := by
  obtain ⟨k, h⟩ := deeper_f x y hx
  exact Ev.of (walk_Deeper.mono x y) h
theorem before_ev (d : Bool) (S : List Pth) (x y : Pth) (hx : x.length ≤ 1099511627776) : Ev (fun k => gessoref15_Queue_before.f k d S x y) (bf d x y) := by
  unfold gessoref15_Queue_before.f bf
  cases d
  · exact Ev.bind (rless_ev x y hx) (Ev.now _)
  · exact Ev.bind (rdeeper_ev x y hx) (Ev.now _)
/-! ### The texts -/
def txt (l : Pth) : List UInt8 := (l.map fun n => (47 : UInt8) :: n.data.toList).flatten
theorem size_list (b : ByteArray) : b.size = b.data.toList.length := by rw [Array.length_toList]; rfl
theorem data_app (a b : ByteArray) : (a ++ b).data.toList = a.data.toList ++ b.data.toList := by simp
theorem rtext_loop (x : Pth) (hx : x.length ≤ 1099511627776) : ∀ (m i : Nat) (s : ByteArray), x.length - i = m → i ≤ x.length → s.data.toList.length + (txt (x.drop i)).length ≤ 1099511627776 →
    ∃ r, Ev (fun k => gessoref15_Text.l0 k x s (i : Int)) r ∧ r.data.toList = if s.data.toList ++ txt (x.drop i) = [] then [47] else s.data.toList ++ txt (x.drop i)
  | m, i, s, hm, hi, hl => by
    by_cases h : i < x.length
    · have e1 := List.drop_eq_getElem_cons h
      have g1 : rdOf ByteArray.empty x (i : Int) = x[i] := by rw [rdOf_nat]; simp [h]
      have e2 : txt (x.drop i) = 47 :: x[i].data.toList ++ txt (x.drop (i + 1)) := by rw [e1]; rfl
      rw [e2] at hl ⊢
      have hs1 : (s ++ (⟨#[47]⟩ : ByteArray)).size = s.data.toList.length + 1 := by rw [size_list, data_app, List.length_append]; rfl
      have hsx := size_list x[i]
      simp only [List.length_append, List.length_cons, List.cons_append] at hl
      cases m with
      | zero => omega
      | succ m =>
        obtain ⟨r, h1, h2⟩ := rtext_loop x hx m (i + 1) ((s ++ (⟨#[47]⟩ : ByteArray)) ++ x[i]) (by omega) (by omega) (by rw [data_app, data_app]; simp only [List.length_append]; show _ + 1 + _ + _ ≤ _; omega)
        refine ⟨r, Ev.step (f := fun k => gessoref15_Text.l0 k x ((s ++ (⟨#[47]⟩ : ByteArray)) ++ x[i]) ((i + 1 : Nat) : Int)) (fun k => ?_) h1, ?_⟩
        · rw [gessoref15_Text.l0, if_pos (by omega), if_pos (by have := size_list s; omega), if_pos (by omega), g1, if_pos (by rw [hs1, hsx]; omega), w64 (by omega) (by omega)]
          rfl
        · rw [h2, data_app, data_app]
          rw [if_neg (by simp), if_neg (by simp)]
          simp
    · refine ⟨if s.toList = ([] : List UInt8) then (⟨#[47]⟩ : ByteArray) else s, Ev.step (f := fun _ => some (if s.toList = ([] : List UInt8) then (⟨#[47]⟩ : ByteArray) else s)) (fun k => ?_) (Ev.now _), ?_⟩
      · rw [gessoref15_Text.l0, if_neg (by omega)]
        split <;> rfl
      · rw [List.drop_eq_nil_of_le (show x.length ≤ i by omega)]
        rw [ByteArray.toList_eq]
        simp only [txt, List.map_nil, List.flatten_nil, List.append_nil]
        split <;> rfl
theorem joined_txt (l : Pth) : (47 : UInt8) :: joined l = if txt l = [] then [47] else txt l := by
  cases l with
  | nil => rfl
  | cons x l =>
    rw [if_neg (by simp [txt])]
    unfold joined
    rw [List.map_cons, Lib.join_cons]
    simp [txt, Lib.joinTail, Function.comp_def]
/-! ### The same -/
theorem rd_L1_nat (l : List Pth) (i : Nat) : rd_L1 l (i : Int) = l.getD i [] := by simp [rd_L1]
theorem same_loop (x y : Pth) (hx : x.length ≤ 1099511627776) (hl : x.length = y.length) : ∀ (m i : Nat), x.length - i = m → i ≤ x.length → Ev (fun k => gessoref11_Same.l0 k x y (i : Int)) (decide (x.drop i = y.drop i))
  | m, i, hm, hi => by
    by_cases h : i < x.length
    · have h2 : i < y.length := by omega
      have e1 := List.drop_eq_getElem_cons h
      have e2 := List.drop_eq_getElem_cons h2
      have g1 : rdOf ByteArray.empty x (i : Int) = x[i] := by rw [rdOf_nat]; simp [h]
      have g2 : rdOf ByteArray.empty y (i : Int) = y[i] := by rw [rdOf_nat]; simp [h2]
      by_cases hq : x[i].toList = y[i].toList
      · have hq2 := str_inj hq
        cases m with
        | zero => omega
        | succ m =>
          refine Ev.step (f := fun k => gessoref11_Same.l0 k x y ((i + 1 : Nat) : Int)) (fun k => ?_) ?_
          · rw [gessoref11_Same.l0, if_pos (by omega), if_pos (by omega), if_pos (by omega), g1, g2, if_pos hq, w64 (by omega) (by omega)]
            rfl
          · have h3 := same_loop x y hx hl m (i + 1) (by omega) (by omega)
            have : (x.drop i = y.drop i) ↔ (x.drop (i + 1) = y.drop (i + 1)) := by rw [e1, e2, hq2]; simp only [List.cons.injEq, true_and]
            rw [decide_eq_decide.2 this]
            exact h3
      · refine Ev.step (f := fun _ => some false) (fun k => ?_) ?_
        · rw [gessoref11_Same.l0, if_pos (by omega), if_pos (by omega), if_pos (by omega), g1, g2, if_neg hq]
        · have : ¬ (x.drop i = y.drop i) := by
            rw [e1, e2]
            intro e
            injection e with e _
            exact hq (by rw [e])
          rw [decide_eq_false this]
          exact Ev.now _
    · refine Ev.step (f := fun _ => some true) (fun k => by rw [gessoref11_Same.l0, if_neg (by omega)]) ?_
      rw [List.drop_eq_nil_of_le (show x.length ≤ i by omega), List.drop_eq_nil_of_le (show y.length ≤ i by omega)]
      exact Ev.now _
theorem same_ev (x y : Pth) (hx : x.length ≤ 1099511627776) : Ev (fun k => gessoref11_Same.f k x y) (decide (x = y)) := by
  unfold gessoref11_Same.f
  by_cases hl : x.length = y.length
  · simp only [if_pos (show (x.length : Int) = (y.length : Int) by omega)]
    have := same_loop x y hx hl x.length 0 (by omega) (by omega)
    simpa using this
  · simp only [if_neg (show ¬ (x.length : Int) = (y.length : Int) by omega)]
    rw [decide_eq_false (fun e => hl (by rw [e]))]
    exact Ev.now _
theorem sames_loop (x y : List Pth) (hx : x.length ≤ 1099511627776) (hx2 : ∀ p ∈ x, p.length ≤ 1099511627776) (hl : x.length = y.length) : ∀ (m i : Nat), x.length - i = m → i ≤ x.length → Ev (fun k => gessoref15_Same.l0 k x y (i : Int)) (decide (x.drop i = y.drop i))
  | m, i, hm, hi => by
    by_cases h : i < x.length
    · have h2 : i < y.length := by omega
      have e1 := List.drop_eq_getElem_cons h
      have e2 := List.drop_eq_getElem_cons h2
      have g1 : rd_L1 x (i : Int) = x[i] := by rw [rd_L1_nat]; simp [h]
      have g2 : rd_L1 y (i : Int) = y[i] := by rw [rd_L1_nat]; simp [h2]
      cases m with
      | zero => omega
      | succ m =>
        refine Ev.step (f := fun k => (gessoref11_Same.f k x[i] y[i]).bind fun t => if t = true then gessoref15_Same.l0 k x y ((i + 1 : Nat) : Int) else some false) (fun k => ?_) ?_
        · rw [gessoref15_Same.l0, if_pos (by omega), if_pos (by omega), if_pos (by omega), g1, g2, w64 (by omega) (by omega)]
          rfl
        · refine Ev.bind (same_ev x[i] y[i] (hx2 _ (List.getElem_mem _))) ?_
          by_cases hq : x[i] = y[i]
          · simp only [decide_eq_true hq, if_true]
            have h3 := sames_loop x y hx hx2 hl m (i + 1) (by omega) (by omega)
            have : (x.drop i = y.drop i) ↔ (x.drop (i + 1) = y.drop (i + 1)) := by rw [e1, e2, hq]; simp only [List.cons.injEq, true_and]
            rw [decide_eq_decide.2 this]
            exact h3
          · simp only [decide_eq_false hq, Bool.false_eq_true, if_false]
            have : ¬ (x.drop i = y.drop i) := by
              rw [e1, e2]
              intro e
              injection e with e _
              exact hq e
            rw [decide_eq_false this]
            exact Ev.now _
    · refine Ev.step (f := fun _ => some true) (fun k => by rw [gessoref15_Same.l0, if_neg (by omega)]) ?_
      rw [List.drop_eq_nil_of_le (show x.length ≤ i by omega), List.drop_eq_nil_of_le (show y.length ≤ i by omega)]
      exact Ev.now _
theorem sames_ev (x y : List Pth) (hx : x.length ≤ 1099511627776) (hx2 : ∀ p ∈ x, p.length ≤ 1099511627776) : Ev (fun k => gessoref15_Same.f k x y) (decide (x = y)) := by
  unfold gessoref15_Same.f
  by_cases hl : x.length = y.length
  · simp only [if_pos (show (x.length : Int) = (y.length : Int) by omega)]
    have := sames_loop x y hx hx2 hl x.length 0 (by omega) (by omega)
    simpa using this
  · simp only [if_neg (show ¬ (x.length : Int) = (y.length : Int) by omega)]
    rw [decide_eq_false (fun e => hl (by rw [e]))]
    exact Ev.now _
/-! ### awake -/
theorem sort_f (l : List Pth) (d : Bool) (h : l.length ≤ 1048576) (h2 : ∀ x ∈ l, x.length ≤ 1099511627776) : walk_Sorted.f l d = some (srt d [] l) := if_pos ⟨h, h2⟩
theorem awake_ev : Ev (fun k => gessolaw15_awake.f k) true := by
  unfold gessolaw15_awake.f
  simp only [Option.bind_some]
  have e1 : srt false [] [[(⟨#[98]⟩ : ByteArray)], [⟨#[97]⟩], [⟨#[97]⟩, ⟨#[98]⟩]] = [[⟨#[97]⟩], [⟨#[97]⟩, ⟨#[98]⟩], [⟨#[98]⟩]] := by
    simp [srt, ins, bf, ltP, ByteArray.toList_eq, Op.bytesLess]
  have e2 : srt true [] [[(⟨#[98]⟩ : ByteArray)], [⟨#[97]⟩], [⟨#[97]⟩, ⟨#[98]⟩]] = [[⟨#[97]⟩, ⟨#[98]⟩], [⟨#[97]⟩], [⟨#[98]⟩]] := by
    simp [srt, ins, bf, dpP, ltP, ByteArray.toList_eq, Op.bytesLess]
  rw [sort_f _ false (by decide) (by simp), sort_f _ true (by decide) (by simp), e1, e2]
  simp only [Option.bind_some]
  refine Ev.bind (sames_ev _ _ (by decide) (by simp)) ?_
  simp only [decide_true, if_true]
  refine Ev.bind (sames_ev _ _ (by decide) (by simp)) ?_
  simp only [decide_true, if_true]
  have e3 : walk_Text.f [(⟨#[97]⟩ : ByteArray), ⟨#[98]⟩] = some ⟨#[47, 97, 47, 98]⟩ := by
    unfold walk_Text.f
    rw [if_pos (by simp [joined, Lib.join, List.intercalate])]
    congr 1
  rw [e3]
  have e4 : (((⟨#[47, 97, 47, 98]⟩ : ByteArray).toList == ([47, 97, 47, 98] : List UInt8))) = true := by
    rw [ByteArray.toList_eq]; rfl
  simp only [Option.bind_some, e4]
  exact Ev.now _
end Go.Proofs.Ytomhpfgibekmfaa.Pure
