/- The plain law CodeCuts. No condition. -/
import Derived.Test.YtjlhehaagaaihaaDoorPx5
import Derived.Test.YtjlhehaagaaihaaDoorMe
namespace Go.Proofs.YtjlhehaagaaihaaDoor.Pure
open Go.RowKit Go.Proofs.YtjlhehaagaaihaaDoor.P Go.Proofs.YtjlhehaagaaihaaDoorW.PrintWords Go.Proofs.YtjlhehaagaaihaaDoorW.PrintLast
set_option linter.unusedSimpArgs false

theorem awake_ev : Ev (fun k => gessolaw01_awake.f k) true := Ev.of gessolaw01_awake.mono (k := 10) (by decide +kernel)
theorem enc_cont (c : Int) (i : Nat) (h0 : 1 ≤ i) (h1 : i < (enc c).length) : 128 ≤ (enc c).getD i 0 ∧ (enc c).getD i 0 ≤ 191 := by
  revert h1
  unfold enc
  repeat' split
  all_goals intro h1
  all_goals simp only [List.length_cons, List.length_nil] at h1
  all_goals (first | (exfalso; omega) | skip)
  · obtain rfl : i = 1 := by omega
    simp; omega
  · rcases (by omega : i = 1 ∨ i = 2) with rfl | rfl <;> (simp; omega)
  · rcases (by omega : i = 1 ∨ i = 2 ∨ i = 3) with rfl | rfl | rfl <;> (simp; omega)
theorem enc_first (c : Int) (h : isC c) : 0 < (enc c).length ∧ ((enc c).getD 0 0 < 128 ∨ (enc c).getD 0 0 > 191) := by
  have h' := h
  unfold isC at h'
  unfold enc
  rw [if_pos h]
  repeat' split
  all_goals (simp; omega)
/-- A code point's beginning is none. -/
theorem cut_left (c : Int) (h : isC c) (m : Nat) (hm : m < (enc c).length) : one4 ((enc c).take m) = (0, 0) := by
  refine one_none _ ((enc_bytes c).take m) fun d hd r he => ?_
  have e : enc c ++ [] = enc d ++ (r ++ (enc c).drop m) := by
    rw [List.append_nil, ← List.append_assoc, ← he, List.take_append_drop]
  have h1 := one_enc c h []
  have h2 := one_enc d hd (r ++ (enc c).drop m)
  rw [← e, h1] at h2
  have hcd : c = d := by simpa using congrArg Prod.fst h2
  have := congrArg List.length he
  rw [List.length_take, List.length_append, ← hcd] at this
  omega
/-- What begins within a code point begins with none. -/
theorem cut_right (c : Int) (m : Nat) (h0 : 1 ≤ m) (hm : m < (enc c).length) (s : List Int) (hb : Bytes s) : one4 ((enc c).drop m ++ s) = (0, 0) := by
  refine one_none _ (((enc_bytes c).drop m).append hb) fun d hd r he => ?_
  obtain ⟨hp, hh⟩ := enc_first d hd
  have h1 := enc_cont c m h0 hm
  have e1 : ((enc c).drop m ++ s).getD 0 0 = (enc c).getD m 0 := by
    rw [List.getD_eq_getElem?_getD, List.getElem?_append_left (by rw [List.length_drop]; omega), List.getElem?_drop, ← List.getD_eq_getElem?_getD]; rfl
  have e2 : (enc d ++ r).getD 0 0 = (enc d).getD 0 0 := by
    rw [List.getD_eq_getElem?_getD, List.getElem?_append_left hp, ← List.getD_eq_getElem?_getD]
  rw [he, e2] at e1
  omega
theorem encs_append (a b : List Int) : encs (a ++ b) = encs a ++ encs b := by simp [encs]
theorem allC_take {l : List Int} (h : allC l) (n : Nat) : allC (l.take n) := fun x hx => h x (List.mem_of_mem_take hx)
theorem allC_drop {l : List Int} (h : allC l) (n : Nat) : allC (l.drop n) := fun x hx => h x (List.mem_of_mem_drop hx)
/-- A cut lies between two code points, or within one. -/
theorem where_cut : ∀ (l : List Int) (k : Nat), allC l → k ≤ (encs l).length → (∃ j, j ≤ l.length ∧ (encs (l.take j)).length = k) ∨
    ∃ l1 c l2 m, l = l1 ++ c :: l2 ∧ 1 ≤ m ∧ m < (enc c).length ∧ (encs l).take k = encs l1 ++ (enc c).take m ∧ (encs l).drop k = (enc c).drop m ++ encs l2
  | [], k, _, hk => .inl ⟨0, by simp, by simp [encs] at hk; simp [encs, hk]⟩
  | c :: l, k, hc, hk => by
    obtain ⟨h1, h2⟩ := (allC_cons c l).1 hc
    by_cases h0 : k = 0
    · exact .inl ⟨0, by simp, by simp [encs, h0]⟩
    rw [encs_cons] at hk ⊢
    by_cases hlt : k < (enc c).length
    · refine .inr ⟨[], c, l, k, rfl, by omega, hlt, ?_, ?_⟩
      · rw [List.take_append_of_le_length (by omega)]; rfl
      · rw [List.drop_append_of_le_length (by omega)]
    · rw [List.length_append] at hk
      have et : (enc c ++ encs l).take k = enc c ++ (encs l).take (k - (enc c).length) := by
        rw [List.take_append, List.take_of_length_le (by omega)]
      have ed : (enc c ++ encs l).drop k = (encs l).drop (k - (enc c).length) := by
        rw [List.drop_append, List.drop_of_length_le (by omega), List.nil_append]
      rcases where_cut l (k - (enc c).length) h2 (by omega) with ⟨j, hj, e⟩ | ⟨l1, d, l2, m, e, hm0, hm, e1, e2⟩
      · refine .inl ⟨j + 1, by simpa using hj, ?_⟩
        rw [List.take_succ_cons, encs_cons, List.length_append, e]
        omega
      · refine .inr ⟨c :: l1, d, l2, m, by rw [e]; rfl, hm0, hm, ?_, ?_⟩
        · rw [et, e1, encs_cons, List.append_assoc]
        · rw [ed, e2]
theorem take_snoc (l : List Int) (i : Nat) (h : i < l.length) : l.take (i + 1) = l.take i ++ [l.getD i 0] := by
  rw [getD_lt l 0 i h]; exact (List.take_append_getElem h).symm
theorem cuts_end (l : List Int) (hc : allC l) (hl : l.length ≤ 35184372087808) (k : Nat) (hk : k ≤ (encs l).length) (bet : Bool) (hbet : bet = true ↔ ∃ j, j ≤ l.length ∧ (encs (l.take j)).length = k) (n : Int) :
    Ev (fun r => gessolaw01_CodeCuts.l0 r l (encs l) (k : Int) bet n (l.length : Int)) true := by
  have hel := encs_length l
  refine Ev.step (fun r => by rw [gessolaw01_CodeCuts.l0, if_neg (by omega), if_pos (by omega), if_pos (by omega), Int.toNat_natCast]) ?_
  by_cases hb : bet = true
  · subst hb
    obtain ⟨j, hj, e⟩ := hbet.1 rfl
    have hs : encs l = encs (l.take j) ++ encs (l.drop j) := by rw [← encs_append, List.take_append_drop]
    have e1 : (encs l).take k = encs (l.take j) := by rw [hs, ← e, List.take_left]
    have e2 : (encs l).drop k = encs (l.drop j) := by rw [hs, ← e, List.drop_left]
    have h1 := codes_parts (l.take j) [] (allC_take hc j) (.inl rfl) (by rw [List.append_nil]; exact encs_bytes _) (by rw [List.length_take]; omega)
    have h2 := codes_parts (l.drop j) [] (allC_drop hc j) (.inl rfl) (by rw [List.append_nil]; exact encs_bytes _) (by rw [List.length_drop]; omega)
    rw [List.append_nil] at h1 h2
    rw [e1, e2]
    simp only [h1, h2, Option.bind_some, if_true, List.nil_append, List.length_nil, Nat.zero_add, if_pos (show (l.take j).length < 35184372088832 by rw [List.length_take]; omega), if_pos (show (l.take j).length + (l.drop j).length < 35184372088832 by rw [List.length_take, List.length_drop]; omega), List.take_append_drop]
    refine Ev.bind (same_ev l (by omega)) ?_
    simp only [if_true]
    exact Ev.bind awake_ev (Ev.now _)
  · have hbf : bet = false := by simpa using hb
    subst hbf
    rcases where_cut l k hc hk with h | ⟨l1, c, l2, m, e, hm0, hm, e1, e2⟩
    · exact absurd (hbet.2 h) (by simp)
    · have hc1 : allC l1 := fun x hx => hc x (by rw [e]; simp [hx])
      have hcc : isC c := hc c (by rw [e]; simp)
      have hl1 : l1.length ≤ l.length := by rw [e]; simp
      have hne : (enc c).take m ≠ [] := fun h => by have := congrArg List.length h; rw [List.length_take, List.length_nil] at this; omega
      have hnd : (enc c).drop m ++ encs l2 ≠ [] := fun h => by have := congrArg List.length h; rw [List.length_append, List.length_drop, List.length_nil] at this; omega
      have h1 := codes_parts l1 ((enc c).take m) hc1 (.inr ⟨hne, cut_left c hcc m hm⟩) ((encs_bytes _).append ((enc_bytes c).take m)) (by omega)
      have h2 := codes_parts [] ((enc c).drop m ++ encs l2) (by simp [allC]) (.inr ⟨hnd, cut_right c m hm0 hm _ (encs_bytes _)⟩) (((enc_bytes c).drop m).append (encs_bytes _)) (by simp)
      have e3 : encs [] ++ ((enc c).drop m ++ encs l2) = (enc c).drop m ++ encs l2 := rfl
      rw [e3] at h2
      rw [e1, e2]
      simp only [h1, h2, Option.bind_some, if_neg hne, if_neg hnd, Bool.false_eq_true, if_false, if_true]
      exact Ev.bind awake_ev (Ev.now _)
theorem cuts_loop (l : List Int) (hc : allC l) (hl : l.length ≤ 35184372087808) (k : Nat) (hk : k ≤ (encs l).length) : ∀ (m i : Nat) (bet : Bool), l.length - i = m → i ≤ l.length → (bet = true ↔ ∃ j, j ≤ i ∧ (encs (l.take j)).length = k) →
    Ev (fun r => gessolaw01_CodeCuts.l0 r l (encs l) (k : Int) bet ((encs (l.take i)).length : Int) (i : Int)) true
  | 0, i, bet, hm, hi, hb => by
    obtain rfl : i = l.length := by omega
    exact cuts_end l hc hl k hk bet hb _
  | m + 1, i, bet, hm, hi, hb => by
    have hi' : i < l.length := by clear hb; omega
    have hm' : l.length - (i + 1) = m := by clear hb; omega
    have hx : isC (l.getD i 0) := hc _ (by rw [getD_lt l 0 i hi']; exact List.getElem_mem hi')
    have hel := encs_length (l.take i)
    rw [List.length_take] at hel
    have hw := enc_length (l.getD i 0)
    have hws := wid_small (l.getD i 0)
    have hn : ((encs (l.take i)).length : Int) + wid (l.getD i 0) = ((encs (l.take (i + 1))).length : Int) := by
      rw [take_snoc l i hi', encs_append, List.length_append]
      have : encs [l.getD i 0] = enc (l.getD i 0) := by simp [encs]
      rw [this]
      omega
    refine Ev.step (fun r => by rw [gessolaw01_CodeCuts.l0, if_pos (by omega), if_pos (by omega), rd_nat]) ?_
    refine Ev.bind (width_ev _ hx.1) ?_
    rw [w64 (by omega) (by omega), hn, w64 (by omega) (by omega)]
    by_cases hbt : bet = true
    · simp only [if_pos hbt]
      refine cuts_loop l hc hl k hk m (i + 1) true hm' hi' ⟨fun _ => ?_, fun _ => rfl⟩
      obtain ⟨j, hj, e⟩ := hb.1 hbt
      exact ⟨j, by omega, e⟩
    · simp only [if_neg hbt]
      refine cuts_loop l hc hl k hk m (i + 1) _ hm' hi' ⟨fun h => ?_, fun ⟨j, hj, e⟩ => ?_⟩
      · have h' := beq_iff_eq.1 h
        exact ⟨i + 1, by omega, by omega⟩
      · by_cases hji : j ≤ i
        · exact absurd (hb.2 ⟨j, hji, e⟩) hbt
        · obtain rfl : j = i + 1 := by omega
          exact beq_iff_eq.2 (by omega)
theorem CodeCuts : gessolaw01_CodeCuts.Pure := by
  intro l a hm hl hw ha
  have h0 : ∀ x ∈ l, 0 ≤ x := fun x hx => (bounds_u32 (hw x hx)).1
  have hab := bounds_u16 ha
  suffices h : Ev (fun k => gessolaw01_CodeCuts.f k l a) true from h.rounds
  unfold gessolaw01_CodeCuts.f
  refine Ev.bind (cbytes_ev l h0 (by omega)) ?_
  unfold told
  by_cases h : allC l
  · have hel := encs_length l
    obtain ⟨n, rfl⟩ := Int.eq_ofNat_of_zero_le hab.1
    simp only [if_pos h, if_true]
    rw [w64 (show -9223372036854775808 ≤ (((encs l).length : Int) + 1) by omega) (by omega), w64 (i := (n : Int)) (by omega) (by omega)]
    simp only [if_neg (show ¬ ((encs l).length : Int) + 1 = 0 by omega)]
    have e : Int.tmod (n : Int) (((encs l).length : Int) + 1) = ((n % ((encs l).length + 1) : Nat) : Int) := by
      rw [Int.tmod_eq_emod_of_nonneg (by omega), Int.natCast_emod, Int.natCast_add]; rfl
    rw [e]
    have hlt := Nat.mod_lt n (show (encs l).length + 1 > 0 by omega)
    generalize n % ((encs l).length + 1) = k at *
    have := cuts_loop l h (by omega) k (by omega) _ 0 (((k : Nat) : Int) == 0) rfl (by omega) ⟨fun hk => ⟨0, by omega, by have := beq_iff_eq.1 hk; simp [encs]; omega⟩, fun ⟨j, hj, e⟩ => by
      obtain rfl : j = 0 := by omega
      simp [encs] at e
      rw [← e]; rfl⟩
    simpa [encs] using this
  · simp only [if_neg h, show ¬ ((2 : Int) = 0) by decide, if_false, List.length_nil, Int.natCast_zero, if_true]
    exact Ev.bind awake_ev (Ev.now _)
end Go.Proofs.YtjlhehaagaaihaaDoor.Pure
