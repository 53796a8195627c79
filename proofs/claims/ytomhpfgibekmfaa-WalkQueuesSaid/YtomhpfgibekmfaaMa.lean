/- Plain facts on the order of paths and on heaps of them. No condition. -/
import Derived.Test.YtomhpfgibekmfaaPx1
namespace Go.Proofs.Ytomhpfgibekmfaa.Pure
abbrev Pth := List ByteArray
theorem bl_eq : ∀ (x y : List UInt8), Op.bytesLess x y = decide (x < y)
  | [], [] => by simp [Op.bytesLess]
  | _ :: _, [] => by simp [Op.bytesLess]
  | [], _ :: _ => by simp [Op.bytesLess]
  | a :: x, b :: y => by
    rw [Op.bytesLess, bl_eq x y]
    simp only [List.cons_lt_cons_iff]
    by_cases h1 : a < b <;> by_cases h2 : a = b <;> by_cases h3 : x < y <;> simp [h1, h2, h3]
theorem bl_irrefl (x : List UInt8) : Op.bytesLess x x = false := by simp [bl_eq]
theorem bl_trans {x y z : List UInt8} (h1 : Op.bytesLess x y = true) (h2 : Op.bytesLess y z = true) : Op.bytesLess x z = true := by
  rw [bl_eq] at *
  exact decide_eq_true (List.lt_trans (of_decide_eq_true h1) (of_decide_eq_true h2))
theorem bl_tri {x y : List UInt8} (h1 : Op.bytesLess x y = false) (h2 : Op.bytesLess y x = false) : x = y := by
  rw [bl_eq] at *
  have h3 := of_decide_eq_false h1
  have h4 := of_decide_eq_false h2
  exact List.le_antisymm (List.not_lt.1 h4) (List.not_lt.1 h3)
theorem str_inj {a b : ByteArray} (h : a.toList = b.toList) : a = b := by
  rw [ByteArray.toList_eq, ByteArray.toList_eq] at h
  obtain ⟨⟨x⟩⟩ := a
  obtain ⟨⟨y⟩⟩ := b
  simp at h
  rw [h]
/-- Path by path's names. -/
def ltP : Pth → Pth → Bool
  | _, [] => false
  | [], _ :: _ => true
  | a :: x, b :: y => if a.toList = b.toList then ltP x y else Op.bytesLess a.toList b.toList
theorem ltP_irrefl : ∀ x, ltP x x = false
  | [] => rfl
  | a :: x => by simp [ltP, ltP_irrefl x]
theorem ltP_tri : ∀ {x y}, ltP x y = false → ltP y x = false → x = y
  | [], [], _, _ => rfl
  | [], _ :: _, h, _ => by simp [ltP] at h
  | _ :: _, [], _, h => by simp [ltP] at h
  | a :: x, b :: y, h1, h2 => by
    by_cases hab : a.toList = b.toList
    · have := str_inj hab
      subst this
      simp only [ltP, if_true] at h1 h2
      rw [ltP_tri h1 h2]
    · rw [ltP, if_neg hab] at h1
      rw [ltP, if_neg (Ne.symm hab)] at h2
      exact absurd (bl_tri h1 h2) hab
theorem ltP_trans : ∀ {x y z}, ltP x y = true → ltP y z = true → ltP x z = true
  | _, _, [], _, h => by cases ‹List ByteArray› <;> simp [ltP] at h
  | [], _, _ :: _, _, _ => rfl
  | _ :: _, [], _ :: _, h, _ => by simp [ltP] at h
  | a :: x, b :: y, c :: z, h1, h2 => by
    by_cases hab : a.toList = b.toList
    · by_cases hbc : b.toList = c.toList
      · rw [ltP, if_pos hab] at h1
        rw [ltP, if_pos hbc] at h2
        rw [ltP, if_pos (hab.trans hbc)]
        exact ltP_trans h1 h2
      · rw [ltP, if_neg hbc] at h2
        rw [ltP, if_neg (by rw [hab]; exact hbc), hab]
        exact h2
    · rw [ltP, if_neg hab] at h1
      by_cases hbc : b.toList = c.toList
      · rw [ltP, if_neg (by rw [← hbc]; exact hab), ← hbc]
        exact h1
      · rw [ltP, if_neg hbc] at h2
        have h3 := bl_trans h1 h2
        rw [ltP, if_neg (fun e => by rw [e, bl_irrefl] at h3; cases h3)]
        exact h3
def dpP (x y : Pth) : Bool := if x.length = y.length then ltP x y else decide (y.length < x.length)
def bf (deep : Bool) (x y : Pth) : Bool := if deep = true then dpP x y else ltP x y
theorem bf_irrefl (d : Bool) (x : Pth) : bf d x x = false := by
  cases d <;> simp [bf, dpP, ltP_irrefl]
theorem bf_tri {d : Bool} {x y : Pth} (h1 : bf d x y = false) (h2 : bf d y x = false) : x = y := by
  cases d
  · exact ltP_tri h1 h2
  · by_cases h : x.length = y.length
    · simp only [bf, dpP, h, if_true] at h1 h2
      exact ltP_tri h1 h2
    · simp only [bf, dpP, if_true, if_neg h, if_neg (Ne.symm h)] at h1 h2
      have := of_decide_eq_false h1
      have := of_decide_eq_false h2
      omega
theorem bf_trans {d : Bool} {x y z : Pth} (h1 : bf d x y = true) (h2 : bf d y z = true) : bf d x z = true := by
  cases d
  · exact ltP_trans h1 h2
  · simp only [bf, dpP, if_true] at *
    split at h1 <;> split at h2
    · rw [if_pos (by omega)]; exact ltP_trans h1 h2
    · have := of_decide_eq_true h2
      rw [if_neg (by omega)]; exact decide_eq_true (by omega)
    · have := of_decide_eq_true h1
      rw [if_neg (by omega)]; exact decide_eq_true (by omega)
    · have := of_decide_eq_true h1
      have := of_decide_eq_true h2
      rw [if_neg (by omega)]; exact decide_eq_true (by omega)
/-- Not above. -/
def le (d : Bool) (x y : Pth) : Prop := bf d y x = false
theorem le_refl (d : Bool) (x : Pth) : le d x x := bf_irrefl d x
theorem le_of {d : Bool} {x y : Pth} (h : bf d x y = true) : le d x y := by
  unfold le
  cases h' : bf d y x
  · rfl
  · have := bf_trans h h'
    rw [bf_irrefl] at this
    cases this
theorem le_anti {d : Bool} {x y : Pth} (h1 : le d x y) (h2 : le d y x) : x = y := bf_tri h2 h1
theorem le_trans {d : Bool} {x y z : Pth} (h1 : le d x y) (h2 : le d y z) : le d x z := by
  cases h : bf d x y
  · have := bf_tri h h1
    subst this
    exact h2
  · cases h' : bf d y z
    · have := bf_tri h' h2
      subst this
      exact h1
    · exact le_of (bf_trans h h')
theorem le_total (d : Bool) (x y : Pth) : le d x y ∨ le d y x := by
  cases h : bf d y x
  · exact .inl h
  · exact .inr (le_of h)
end Go.Proofs.Ytomhpfgibekmfaa.Pure
