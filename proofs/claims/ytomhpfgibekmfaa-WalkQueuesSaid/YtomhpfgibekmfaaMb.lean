/- Plain facts on heaps of paths. No condition. -/
import Derived.Test.YtomhpfgibekmfaaMa
namespace Go.Proofs.Ytomhpfgibekmfaa.Pure
def ga (H : List Pth) (i : Nat) : Pth := H.getD i []
def sw (H : List Pth) (i j : Nat) : List Pth := (H.set i (ga H j)).set j (ga H i)
theorem sw_length (H : List Pth) (i j : Nat) : (sw H i j).length = H.length := by simp [sw]
theorem ga_lt {H : List Pth} {i : Nat} (h : i < H.length) : ga H i = H[i] := by simp [ga, h]
theorem sw_perm {H : List Pth} {i j : Nat} (hi : i < H.length) (hj : j < H.length) : (sw H i j).Perm H := by
  unfold sw
  rw [ga_lt hi, ga_lt hj]
  exact List.set_set_perm hi hj
theorem ga_sw {H : List Pth} {i j : Nat} (hi : i < H.length) (hj : j < H.length) (k : Nat) : ga (sw H i j) k = if k = j then ga H i else if k = i then ga H j else ga H k := by
  unfold sw
  by_cases h1 : k = j
  · subst h1
    simp [ga, hj]
  · rw [if_neg h1]
    by_cases h2 : k = i
    · subst h2
      simp [ga, hi, Ne.symm h1]
    · simp [ga, Ne.symm h1, Ne.symm h2, h2]
/-- Heap below n. -/
def heapN (d : Bool) (H : List Pth) (n : Nat) : Prop := ∀ k, 0 < k → k < n → le d (ga H ((k - 1) / 2)) (ga H k)
def upI (d : Bool) (H : List Pth) (n j : Nat) : Prop := (∀ k, 0 < k → k < n → k ≠ j → le d (ga H ((k - 1) / 2)) (ga H k)) ∧ ∀ k, 0 < k → k < n → (k - 1) / 2 = j → 0 < j → le d (ga H ((j - 1) / 2)) (ga H k)
def dnI (d : Bool) (H : List Pth) (n i : Nat) : Prop := (∀ k, 0 < k → k < n → (k - 1) / 2 ≠ i → le d (ga H ((k - 1) / 2)) (ga H k)) ∧ ∀ k, 0 < k → k < n → (k - 1) / 2 = i → 0 < i → le d (ga H ((i - 1) / 2)) (ga H k)
theorem up_zero {d : Bool} {H : List Pth} {n : Nat} (h : upI d H n 0) : heapN d H n := fun k h0 h1 => h.1 k h0 h1 (by omega)
theorem up_stop {d : Bool} {H : List Pth} {n j : Nat} (h : upI d H n j) (hs : bf d (ga H j) (ga H ((j - 1) / 2)) = false) : heapN d H n := fun k h0 h1 => by
  by_cases hk : k = j
  · subst hk; exact hs
  · exact h.1 k h0 h1 hk
theorem up_step {d : Bool} {H : List Pth} {n j : Nat} (hn : n ≤ H.length) (hj : j < n) (h0 : 0 < j) (h : upI d H n j) (hs : bf d (ga H j) (ga H ((j - 1) / 2)) = true) : upI d (sw H ((j - 1) / 2) j) n ((j - 1) / 2) := by
  have hp : (j - 1) / 2 < j := by omega
  have g := ga_sw (H := H) (i := (j - 1) / 2) (j := j) (by omega) (by omega)
  constructor
  · intro k k0 k1 k2
    rw [g k, g ((k - 1) / 2)]
    by_cases e1 : k = j
    · subst e1
      rw [if_pos rfl, if_neg (by omega), if_pos rfl]
      exact le_of hs
    · rw [if_neg e1, if_neg k2]
      by_cases e2 : (k - 1) / 2 = j
      · rw [if_pos e2]
        exact h.2 k k0 k1 e2 h0
      · rw [if_neg e2]
        by_cases e3 : (k - 1) / 2 = (j - 1) / 2
        · rw [if_pos e3]
          exact le_trans (le_of hs) (e3 ▸ h.1 k k0 k1 e1)
        · rw [if_neg e3]
          exact h.1 k k0 k1 e1
  · intro k k0 k1 k2 k3
    rw [g, g, if_neg (by omega), if_neg (by omega)]
    have hpp : le d (ga H (((j - 1) / 2 - 1) / 2)) (ga H ((j - 1) / 2)) := h.1 ((j - 1) / 2) k3 (by omega) (by omega)
    by_cases e1 : k = j
    · rw [if_pos e1]
      exact hpp
    · rw [if_neg e1, if_neg (by omega)]
      exact le_trans hpp (k2 ▸ h.1 k k0 k1 e1)
/-- A path is put behind a heap. -/
theorem up_start {d : Bool} {H : List Pth} (x : Pth) (h : heapN d H H.length) : upI d (H ++ [x]) (H.length + 1) H.length := by
  have g : ∀ k, k < H.length → ga (H ++ [x]) k = ga H k := fun k hk => by simp [ga, List.getElem?_append_left hk]
  constructor
  · intro k k0 k1 k2
    rw [g k (by omega), g _ (by omega)]
    exact h k k0 (by omega)
  · intro k k0 k1 k2 k3
    omega
theorem dn_end {d : Bool} {H : List Pth} {n i : Nat} (h : dnI d H n i) (he : n ≤ 2 * i + 1) : heapN d H n := fun k h0 h1 => h.1 k h0 h1 (by omega)
theorem dn_stop {d : Bool} {H : List Pth} {n i c : Nat} (h : dnI d H n i) (hc : ∀ k, 0 < k → k < n → (k - 1) / 2 = i → le d (ga H c) (ga H k)) (hs : bf d (ga H c) (ga H i) = false) : heapN d H n := fun k h0 h1 => by
  by_cases hk : (k - 1) / 2 = i
  · rw [hk]
    exact le_trans hs (hc k h0 h1 hk)
  · exact h.1 k h0 h1 hk
theorem dn_step {d : Bool} {H : List Pth} {n i c : Nat} (hn : n ≤ H.length) (c0 : 0 < c) (c1 : c < n) (c2 : (c - 1) / 2 = i) (h : dnI d H n i) (hc : ∀ k, 0 < k → k < n → (k - 1) / 2 = i → le d (ga H c) (ga H k)) (hs : bf d (ga H c) (ga H i) = true) : dnI d (sw H i c) n c := by
  have hi : i < c := by omega
  have g := ga_sw (H := H) (i := i) (j := c) (by omega) (by omega)
  constructor
  · intro k k0 k1 k2
    rw [g k, g ((k - 1) / 2), if_neg k2]
    by_cases e1 : k = c
    · subst e1
      rw [if_pos rfl, if_pos c2]
      exact le_of hs
    · rw [if_neg e1]
      by_cases e2 : (k - 1) / 2 = i
      · rw [if_pos e2, if_neg (by omega)]
        exact hc k k0 k1 e2
      · rw [if_neg e2]
        by_cases e3 : k = i
        · rw [if_pos e3]
          have := h.2 c c0 c1 c2 (by omega)
          rw [e3]
          exact this
        · rw [if_neg e3]
          exact h.1 k k0 k1 e2
  · intro k k0 k1 k2 k3
    rw [g, g, if_neg (by omega), if_pos c2, if_neg (by omega), if_neg (by omega)]
    have h4 := h.1 k k0 k1 (by omega)
    rw [k2] at h4
    exact h4
/-- The root goes to the end, the last comes to the root. -/
theorem dn_start {d : Bool} {H : List Pth} (h : heapN d H H.length) (hl : 0 < H.length) : dnI d (sw H 0 (H.length - 1)) (H.length - 1) 0 := by
  have g := ga_sw (H := H) (i := 0) (j := H.length - 1) (by omega) (by omega)
  constructor
  · intro k k0 k1 k2
    rw [g, g, if_neg (by omega), if_neg (by omega), if_neg (by omega), if_neg (by omega)]
    exact h k k0 (by omega)
  · intro k k0 k1 k2 k3
    omega
theorem heap_root {d : Bool} {H : List Pth} (h : heapN d H H.length) : ∀ k, k < H.length → le d (ga H 0) (ga H k) := by
  intro k
  induction k using Nat.strongRecOn with
  | ind k ih =>
    intro hk
    rcases Nat.eq_zero_or_pos k with h0 | h0
    · subst h0; exact le_refl _ _
    · exact le_trans (ih _ (by omega) (by omega)) (h k h0 hk)
theorem heap_head {d : Bool} {H S : List Pth} {y : Pth} (h : heapN d H H.length) (hp : H.Perm (y :: S)) (hs : (y :: S).Pairwise (le d)) : ga H 0 = y := by
  have hl : 0 < H.length := by rw [hp.length_eq]; simp
  have h1 : ga H 0 ∈ y :: S := hp.mem_iff.1 (by rw [ga_lt hl]; exact List.getElem_mem _)
  have h2 : y ∈ H := hp.mem_iff.2 (by simp)
  obtain ⟨k, hk, he⟩ := List.getElem_of_mem h2
  have h3 := heap_root h k hk
  rw [ga_lt hk, he] at h3
  rcases List.mem_cons.1 h1 with e | e
  · exact e
  · exact le_anti h3 ((List.pairwise_cons.1 hs).1 _ e)
theorem heap_take {d : Bool} {H : List Pth} {n : Nat} (hn : n ≤ H.length) (h : heapN d H n) : heapN d (H.take n) (H.take n).length := by
  intro k k0 k1
  rw [List.length_take] at k1
  have g : ∀ j, j < n → ga (H.take n) j = ga H j := fun j hj => by simp [ga, hj]
  rw [g _ (by omega), g _ (by omega)]
  exact h k k0 (by omega)
/-- What is left behind a pop. -/
theorem pop_perm {H H' S : List Pth} {y : Pth} (hp : H.Perm (y :: S)) (hq : H'.Perm H) (hl : ga H' (H.length - 1) = y) : (H'.take (H.length - 1)).Perm S := by
  have h0 : 0 < H.length := by rw [hp.length_eq]; simp
  have hH : H' = H'.take (H.length - 1) ++ [y] := by
    have h1 : H.length - 1 < H'.length := by rw [hq.length_eq]; omega
    have h2 := List.take_succ_eq_append_getElem h1
    rw [ga_lt h1] at hl
    rw [hl, show H.length - 1 + 1 = H'.length by rw [hq.length_eq]; omega, List.take_length] at h2
    exact h2
  have h3 : (H'.take (H.length - 1) ++ [y]).Perm (y :: S) := by rw [← hH]; exact hq.trans hp
  exact (List.perm_cons y).1 (((List.perm_append_singleton y _).symm).trans h3)
/-- The reference's way in: behind all that stands before x. -/
theorem ins_sorted {d : Bool} {S : List Pth} {x : Pth} {i : Nat} (hi : i ≤ S.length) (hs : S.Pairwise (le d)) (h1 : ∀ k, k < i → bf d (ga S k) x = true) (h2 : i < S.length → bf d (ga S i) x = false) : (S.take i ++ x :: S.drop i).Pairwise (le d) := by
  rw [List.pairwise_append]
  refine ⟨hs.sublist (List.take_sublist _ _), List.pairwise_cons.2 ⟨fun y hy => ?_, hs.sublist (List.drop_sublist _ _)⟩, fun a ha b hb => ?_⟩
  · have hil : i < S.length := by
      rcases Nat.lt_or_ge i S.length with h | h
      · exact h
      · rw [List.drop_eq_nil_of_le h] at hy; cases hy
    rw [List.drop_eq_getElem_cons hil] at hy
    have hx := h2 hil
    rw [ga_lt hil] at hx
    rcases List.mem_cons.1 hy with rfl | hy
    · exact hx
    · refine le_trans (show le d x S[i] from hx) ?_
      have h4 := hs.sublist (List.drop_sublist i S)
      rw [List.drop_eq_getElem_cons hil] at h4
      exact (List.pairwise_cons.1 h4).1 _ hy
  · obtain ⟨k, hk, he⟩ := List.getElem_of_mem ha
    rw [List.length_take] at hk
    have hb1 : bf d a x = true := by
      have := h1 k (by omega)
      rw [List.getElem_take] at he
      rwa [ga_lt (by omega), he] at this
    rcases List.mem_cons.1 hb with rfl | hb
    · exact le_of hb1
    · have h5 : S = S.take i ++ S.drop i := (List.take_append_drop i S).symm
      rw [h5, List.pairwise_append] at hs
      exact hs.2.2 a ha b hb
theorem ins_perm {S : List Pth} {x : Pth} (i : Nat) : (S.take i ++ x :: S.drop i).Perm (x :: S) := by
  have := (List.perm_middle (a := x) (l₁ := S.take i) (l₂ := S.drop i))
  rwa [List.take_append_drop] at this
end Go.Proofs.Ytomhpfgibekmfaa.Pure
