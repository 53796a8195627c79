/- Plain facts on the bytes of code points. No condition. -/
import Derived.Test.YtjlhehaagaaihaaDoorMa
namespace Go.Proofs.YtjlhehaagaaihaaDoor.Pure
open Go.RowKit Go.Proofs.YtjlhehaagaaihaaDoor.P Go.Proofs.YtjlhehaagaaihaaDoorW.PrintWords Go.Proofs.YtjlhehaagaaihaaDoorW.PrintLast
set_option linter.unusedSimpArgs false

/-- The bytes of all, or that one is no code point. -/
def encs (l : List Int) : List Int := l.flatMap enc
def allC (l : List Int) : Prop := ∀ x ∈ l, isC x
instance (l : List Int) : Decidable (allC l) := inferInstanceAs (Decidable (∀ x ∈ l, isC x))
def told (l : List Int) : List Int × Int := if allC l then (encs l, 0) else ([], 2)
theorem encs_cons (x : Int) (l : List Int) : encs (x :: l) = enc x ++ encs l := by simp [encs]
theorem encs_length (l : List Int) : (encs l).length ≤ 4 * l.length := by
  induction l with
  | nil => simp [encs]
  | cons x l ih =>
    have := enc_length x
    have := wid_small x
    rw [encs_cons, List.length_append, List.length_cons]
    omega
theorem encs_bytes (l : List Int) : Bytes (encs l) := by
  induction l with
  | nil => intro x hx; simp [encs] at hx
  | cons x l ih => rw [encs_cons]; exact (enc_bytes x).append ih
theorem allC_cons (x : Int) (l : List Int) : allC (x :: l) ↔ isC x ∧ allC l := by simp [allC]

theorem cbytes_loop (l : List Int) (h0 : ∀ x ∈ l, 0 ≤ x) (hl : l.length ≤ 35184372087808) : ∀ (m i : Nat) (acc : List Int), l.length - i = m → i ≤ l.length → acc.length ≤ 4 * i → 
    Ev (fun k => code_Bytes.l0 k acc l (l.length : Int) (i : Int)) (if allC (l.drop i) then (acc ++ encs (l.drop i), 0) else ([], 2))
  | 0, i, acc, hm, hi, ha => by
    obtain rfl : i = l.length := by omega
    rw [List.drop_length, if_pos (by simp [allC])]
    refine Ev.step (f := fun _ => some (acc ++ encs [], 0)) (fun k => ?_) (Ev.now _)
    simp only [code_Bytes.l0]
    rw [if_neg (by omega)]
    simp [encs]
  | m + 1, i, acc, hm, hi, ha => by
    have hi' : i < l.length := by omega
    have hd := drop_at l 0 i hi'
    have hx : 0 ≤ l.getD i 0 := h0 _ (by rw [getD_lt l 0 i hi']; exact List.getElem_mem hi')
    refine Ev.step (f := fun k => (code_point.f k (l.getD i 0)).bind fun bt139 => (if bt139.2 = true then ((utf8_AppendRune.f k acc bt139.1).bind fun t141 => (code_Bytes.l0 k t141 l (l.length : Int) ((i + 1 : Nat) : Int))) else (some (([] : List Int), 2)))) (fun k => ?_) ?_
    · simp only [code_Bytes.l0]
      rw [if_pos (by omega), if_pos (by omega), if_pos (by omega), w64 (by omega) (by omega), rd_nat]
      rfl
    refine Ev.bind (point_ev _ hx) ?_
    rw [hd, encs_cons]
    by_cases h : isC (l.getD i 0)
    · have h' := h
      unfold isC at h'
      simp only [decide_eq_true h, if_true, if_neg (show ¬ l.getD i 0 > 1114111 by omega)]
      refine Ev.bind (append_ev acc _ h (by omega)) ?_
      have hw := wid_small (l.getD i 0)
      have he := enc_length (l.getD i 0)
      have := cbytes_loop l h0 hl m (i + 1) (acc ++ enc (l.getD i 0)) (by omega) (by omega) (by rw [List.length_append]; omega)
      rw [List.append_assoc] at this
      simp only [allC_cons, h, true_and]
      exact this
    · simp only [decide_eq_false h, Bool.false_eq_true, if_false, allC_cons, h, false_and]
      exact Ev.now _
theorem cbytes_ev (l : List Int) (h0 : ∀ x ∈ l, 0 ≤ x) (hl : l.length ≤ 35184372087808) : Ev (fun k => code_Bytes.f k l) (told l) := by
  have := cbytes_loop l h0 hl _ 0 [] rfl (by omega) (by simp)
  rwa [List.drop_zero, List.nil_append] at this
theorem rbytes_loop (l : List Int) (h0 : ∀ x ∈ l, 0 ≤ x) (hl : l.length ≤ 35184372087808) : ∀ (m i : Nat) (acc : List Int), l.length - i = m → i ≤ l.length → acc.length ≤ 4 * i → 
    Ev (fun k => gessoref01_Bytes.l0 k l acc (i : Int)) (if allC (l.drop i) then (acc ++ encs (l.drop i), 0) else ([], 2))
  | 0, i, acc, hm, hi, ha => by
    obtain rfl : i = l.length := by omega
    rw [List.drop_length, if_pos (by simp [allC])]
    refine Ev.step (f := fun _ => some (acc ++ encs [], 0)) (fun k => ?_) (Ev.now _)
    simp only [gessoref01_Bytes.l0]
    rw [if_neg (by omega)]
    simp [encs]
  | m + 1, i, acc, hm, hi, ha => by
    have hi' : i < l.length := by omega
    have hd := drop_at l 0 i hi'
    have hx : 0 ≤ l.getD i 0 := h0 _ (by rw [getD_lt l 0 i hi']; exact List.getElem_mem hi')
    have hw := wid_small (l.getD i 0)
    have he := enc_length (l.getD i 0)
    rw [hd, encs_cons]
    by_cases h : isC (l.getD i 0)
    · have := rbytes_loop l h0 hl m (i + 1) (acc ++ enc (l.getD i 0)) (by omega) (by omega) (by rw [List.length_append]; omega)
      rw [List.append_assoc] at this
      simp only [allC_cons, h, true_and]
      refine Ev.step (fun k => ?_) this
      simp only [gessoref01_Bytes.l0, rd_nat, is_f _ hx, put_f _ hx, Option.bind_some, decide_eq_true h, if_true]
      rw [if_pos (by omega), if_pos (by omega), if_pos (by omega), w64 (by omega) (by omega)]
      rfl
    · simp only [allC_cons, h, false_and, if_false]
      refine Ev.step (f := fun _ => some ([], 2)) (fun k => ?_) (Ev.now _)
      simp only [gessoref01_Bytes.l0, rd_nat, is_f _ hx, put_f _ hx, Option.bind_some, decide_eq_false h, Bool.false_eq_true, if_false]
      rw [if_pos (by omega), if_pos (by omega)]
theorem rbytes_ev (l : List Int) (h0 : ∀ x ∈ l, 0 ≤ x) (hl : l.length ≤ 35184372087808) : Ev (fun k => gessoref01_Bytes.f k l) (told l) := by
  have := rbytes_loop l h0 hl _ 0 [] rfl (by omega) (by simp)
  rwa [List.drop_zero, List.nil_append] at this
theorem same_loop (l : List Int) (hl : l.length < 4611686018427387904) : ∀ (m i : Nat), l.length - i = m → i ≤ l.length → Ev (fun k => gessoref01_Same.l0 k l l (i : Int)) true
  | 0, i, hm, hi => by
    refine Ev.step (f := fun _ => some true) (fun k => ?_) (Ev.now _)
    simp only [gessoref01_Same.l0]
    rw [if_neg (by omega)]
  | m + 1, i, hm, hi => by
    refine Ev.step (fun k => ?_) (same_loop l hl m (i + 1) (by omega) (by omega))
    simp only [gessoref01_Same.l0]
    rw [if_pos (by omega), if_pos (by omega), if_pos (by omega), if_pos trivial, w64 (by omega) (by omega)]
    rfl
theorem same_ev (l : List Int) (hl : l.length < 4611686018427387904) : Ev (fun k => gessoref01_Same.f k l l) true := by
  unfold gessoref01_Same.f
  simp only [if_true]
  exact same_loop l hl _ 0 rfl (by omega)
end Go.Proofs.YtjlhehaagaaihaaDoor.Pure
