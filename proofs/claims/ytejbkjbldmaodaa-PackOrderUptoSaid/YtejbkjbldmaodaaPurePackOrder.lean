/- Pack: numbers that are laid are read as they were, the greater one is longer or rises above the other byte by byte, and texts are read as they were laid. Condition: the bulk, as the statement has it. -/
import Derived.Test.YtejbkjbldmaodaaO
import Derived.Test.YtejbkjbldmaodaaPx22
namespace Go.Proofs.Ytejbkjbldmaodaa.Pure
open Go.RowKit Go.Proofs.Ytejbkjbldmaodaa.P Go.Proofs.YtejbkjbldmaodaaW.PrintWords Go.Proofs.YtejbkjbldmaodaaW.PrintLast

theorem be_eq (a b : Int) (ha : 0 ≤ a ∧ a < 18446744073709551616) (hb : 0 ≤ b ∧ b < 18446744073709551616) : ((strOfNums (be a)).toList == (strOfNums (be b)).toList) = (a == b) := by
  by_cases e : a = b
  · subst e; simp
  · rw [beq_eq_false_iff_ne.mpr e, beq_eq_false_iff_ne]
    intro h
    have := (str_inj (be_bytes a) (be_bytes b)).1 h
    apply e
    rw [← be_val a ha.1 ha.2, ← be_val b hb.1 hb.2, this]

theorem strs_back (l : List ByteArray) : (l.map bytesOf).map strOfNums = l := by
  rw [List.map_map]
  conv => rhs; rw [← List.map_id l]
  apply List.map_congr_left
  intro s _
  exact strOf_bytesOf s

theorem order_tail (a b : Int) (ha : 0 ≤ a ∧ a < 18446744073709551616) (hb : 0 ≤ b ∧ b < 18446744073709551616) :
    Ev (fun k => (if ((be a).length : Int) > ((be b).length : Int) then (if (true == (decide (a > b))) = true then (if (((strOfNums (be a)).toList == (strOfNums (be b)).toList) == (a == b)) = true then ((gessolaw11_awake.f k).bind fun t389 => (some t389)) else (none)) else (none)) else (if ((be a).length : Int) = ((be b).length : Int) then (if ((Op.bytesLess ((strOfNums (be b)).toList) ((strOfNums (be a)).toList)) == (decide (a > b))) = true then (if (((strOfNums (be a)).toList == (strOfNums (be b)).toList) == (a == b)) = true then ((gessolaw11_awake.f k).bind fun t390 => (some t390)) else (none)) else (none)) else (if (false == (decide (a > b))) = true then (if (((strOfNums (be a)).toList == (strOfNums (be b)).toList) == (a == b)) = true then ((gessolaw11_awake.f k).bind fun t391 => (some t391)) else (none)) else (none))))) true := by
  have he : (((strOfNums (be a)).toList == (strOfNums (be b)).toList) == (a == b)) = true := by rw [be_eq a b ha hb]; simp
  have last : Ev (fun k => (gessolaw11_awake.f k).bind fun t => some t) true := Ev.bind awake_ev (Ev.now _)
  by_cases h1 : ((be a).length : Int) > ((be b).length : Int)
  · have := be_shorter a b ha hb (by omega)
    refine Ev.congr (fun k => ?_) last
    rw [if_pos h1, if_pos (by simpa using this), if_pos he]
  · by_cases h2 : ((be a).length : Int) = ((be b).length : Int)
    · have hl := less_val (be b) (be a) (by omega) (be_bytes b) (be_bytes a)
      rw [be_val a ha.1 ha.2, be_val b hb.1 hb.2] at hl
      refine Ev.congr (fun k => ?_) last
      rw [if_neg h1, if_pos h2, if_pos, if_pos he]
      rw [toList_str, toList_str, beq_iff_eq, Bool.eq_iff_iff, hl, decide_eq_true_eq]
    · have := be_shorter b a hb ha (by omega)
      refine Ev.congr (fun k => ?_) last
      rw [if_neg h1, if_neg h2, if_pos (by simp; omega), if_pos he]

theorem PackOrder (a0 : Int) (a1 : Int) (a2 : List ByteArray) (w0 : (Lit.int .u64 a0).wf = true) (w1 : (Lit.int .u64 a1).wf = true) (_w2 : ∀ x ∈ a2, x.size ≤ maxLen) (hb : 1 + (1 + ((a2.map (fun s => s.size + 1)).sum + 1)) ≤ 1048576) : ∃ k, gessolaw11_PackOrder.f k a0 a1 a2 = some true := by
  obtain ⟨h1, h2, h3⟩ := bulk_texts a2
  have ha := bounds_u64 w0
  have hb1 := bounds_u64 w1
  have hs : size63 a2 := fun s hs => by have := h3 s hs; omega
  refine Ev.rounds ?_
  unfold gessolaw11_PackOrder.f
  refine Ev.bind (num_ev a0 ha.1 ha.2) (Ev.bind (num_ev a1 hb1.1 hb1.2) (Ev.bind (number_ev (be a0) (be_bytes a0) (by have := be_length a0; omega)) ?_))
  rw [numb_be a0 ha.1 ha.2]
  refine Ev.bind (texts_ev a2 (by omega) hs (by omega)) ?_
  have tail := order_tail a0 a1 ha hb1
  cases hlg : longs (a2.map bytesOf) with
  | true =>
    simp only [if_true]
    refine Ev.bind (strings_ev [] (fun x hx => by simp at hx) (by decide)) ?_
    exact tail
  | false =>
    simp only [Bool.false_eq_true, if_false]
    have hn := no_long hlg
    have hr : ∀ x ∈ a2.map bytesOf, Bytes x := by
      intro x hx
      simp only [List.mem_map] at hx
      obtain ⟨s, _, rfl⟩ := hx
      exact bytesOf_bytes s
    refine Ev.bind (strings_ev (pk (a2.map bytesOf)) (pk_bytes hr hn) (by omega)) ?_
    rw [U_pk' _ hn]
    simp only [told, List.nil_append, if_true, strs_back]
    refine Ev.bind (sames_ev a2 (by omega)) ?_
    simp only [if_true]
    exact tail

end Go.Proofs.Ytejbkjbldmaodaa.Pure
