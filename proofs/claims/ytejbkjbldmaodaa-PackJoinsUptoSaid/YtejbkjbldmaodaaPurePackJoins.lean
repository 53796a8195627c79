/- Pack: what is packed of two lists, one behind the other, is unpacked to both; cut off anywhere else it is not right, or has fewer fields. Condition: the bulk, as the statement has it. -/
import Derived.Test.YtejbkjbldmaodaaN
import Derived.Test.YtejbkjbldmaodaaPx15
namespace Go.Proofs.Ytejbkjbldmaodaa.Pure
open Go.RowKit Go.Proofs.Ytejbkjbldmaodaa.P Go.Proofs.YtejbkjbldmaodaaW.PrintWords Go.Proofs.YtejbkjbldmaodaaW.PrintLast

/-- Cut off ahead of its end, what is laid is not right, or has fewer fields. -/
theorem cut_fewer (l : List (List Int)) (hn : ∀ x ∈ l, x.length ≤ 1024) (hb : ∀ x ∈ l, Bytes x) (k : Nat) (hk : k < (pk l).length) (m : List (List Int)) (h : U ((pk l).take k) = some m) : m.length < l.length := by
  have hB : Bytes (pk l) := pk_bytes hb hn
  obtain ⟨e, hm⟩ := pk_U _ _ m rfl (hB.take k) h
  have e2 : pk l = pk m ++ (pk l).drop k := by rw [e, List.take_append_drop]
  have h1 := U_pk' l hn
  rw [e2, U_pk m _ hm] at h1
  cases hr : U ((pk l).drop k) with
  | none => rw [hr] at h1; cases h1
  | some r =>
    rw [hr] at h1
    have h2 : m ++ r = l := Option.some.inj h1
    have hr0 : r ≠ [] := by
      rintro rfl
      have := (pk_U _ _ [] rfl (hB.drop k) hr).1
      have hl := congrArg List.length this
      rw [List.length_drop] at hl
      simp [pk] at hl
      simp [pk] at hk
      omega
    rw [← h2, List.length_append]
    have := List.length_pos_iff.2 hr0
    omega

theorem bounds_cut {n : Int} (h : (Lit.int .u16 n).wf = true) : 0 ≤ n ∧ n ≤ 65535 := bounds_u16 h

set_option maxRecDepth 100000 in
theorem joins_main (a0 a1 : List (List Int)) (c : Int) (hc : 0 ≤ c ∧ c ≤ 65535) (r0 : ∀ x ∈ a0, Bytes x) (r1 : ∀ x ∈ a1, Bytes x) (n0 : ∀ x ∈ a0, x.length ≤ 1024) (n1 : ∀ x ∈ a1, x.length ≤ 1024)
    (l0 : a0.length ≤ 1048576) (l1 : a1.length ≤ 1048576) (p0 : (pk a0).length ≤ 2097152) (p1 : (pk a1).length ≤ 2097152) :
    Ev (fun k => gessolaw11_PackJoins.j0 k a0 a1 c (pk a0) (pk a1) false) true := by
  apply Ev.step
  · intro k
    simp only [gessolaw11_PackJoins.j0]
    rfl
  · simp only [Bool.false_eq_true, if_false, Option.bind_some, List.length_nil, List.nil_append]
    have hall : pk a0 ++ pk a1 = pk (a0 ++ a1) := (pk_append a0 a1).symm
    have hr : ∀ x ∈ a0 ++ a1, Bytes x := fun x hx => (List.mem_append.1 hx).elim (r0 x) (r1 x)
    have hn : ∀ x ∈ a0 ++ a1, x.length ≤ 1024 := fun x hx => (List.mem_append.1 hx).elim (n0 x) (n1 x)
    have hlen : (pk (a0 ++ a1)).length = (pk a0).length + (pk a1).length := by rw [← hall, List.length_append]
    have hB := pk_bytes hr hn
    simp only [hall]
    have q1 : (0 + (pk a0).length < 140737488355328) := by omega
    have q2 : ((pk a0).length + (pk a1).length < 140737488355328) := by omega
    have q3 : wrap64 (((pk (a0 ++ a1)).length : Int) + 1) = ((pk (a0 ++ a1)).length : Int) + 1 := w64 (by omega) (by omega)
    have q4 : wrap64 c = c := w64 (by omega) (by omega)
    have q5 : Int.tmod c (((pk (a0 ++ a1)).length : Int) + 1) = c % (((pk (a0 ++ a1)).length : Int) + 1) := Int.tmod_eq_emod_of_nonneg hc.1
    have q6 : ¬ ((pk (a0 ++ a1)).length : Int) + 1 = 0 := by omega
    have q7 := Int.emod_nonneg c (b := ((pk (a0 ++ a1)).length : Int) + 1) (by omega)
    have q8 : c % (((pk (a0 ++ a1)).length : Int) + 1) ≤ ((pk (a0 ++ a1)).length : Int) := by
      have := Int.emod_lt_of_pos c (b := ((pk (a0 ++ a1)).length : Int) + 1) (by omega)
      omega
    simp only [if_pos q1, if_pos q2, q3, q4, q5, if_neg q6, if_pos q7, if_pos q8]
    refine Ev.bind (unpack_ev _ hB (by omega)) ?_
    rw [U_pk' _ hn]
    simp only [told, List.nil_append]
    generalize hk : c % (((pk (a0 ++ a1)).length : Int) + 1) = kk at q7 q8 ⊢
    refine Ev.bind (unpack_ev ((pk (a0 ++ a1)).take kk.toNat) (hB.take _) (by rw [List.length_take]; omega)) ?_
    have q9 : 0 + a0.length < 5864062014805 := by omega
    have q10 : a0.length + a1.length < 5864062014805 := by omega
    simp only [if_true, if_pos q9, if_pos q10]
    refine Ev.bind (same_ev (a0 ++ a1) (a0 ++ a1) (by rw [List.length_append]; omega) hr hr) ?_
    simp only [decide_true, if_true]
    have last : Ev (fun k => (gessolaw11_awake.f k).bind fun t => some t) true := Ev.bind awake_ev (Ev.now _)
    by_cases e : kk = ((pk (a0 ++ a1)).length : Int)
    · refine Ev.congr (fun k => ?_) last
      rw [if_pos e]
    · cases h : U ((pk (a0 ++ a1)).take kk.toNat) with
      | none =>
        refine Ev.congr (fun k => ?_) last
        rw [if_neg e, if_pos (by rfl), if_pos (by rfl)]
      | some m =>
        have := cut_fewer (a0 ++ a1) hn hr kk.toNat (by omega) m h
        have q11 : (m.length : Int) < ((a0 ++ a1).length : Int) := by omega
        refine Ev.congr (fun k => ?_) last
        rw [if_neg e, if_neg (show ¬ (told [] (some m)).2 = 4 from (show ¬ (0 : Int) = 4 by decide)), if_pos (by rfl)]
        exact if_pos q11

theorem joins_none (a0 a1 : List (List Int)) (c : Int) (x y : List Int) : Ev (fun k => gessolaw11_PackJoins.j0 k a0 a1 c x y true) true := by
  refine Ev.step (f := fun k => (gessolaw11_awake.f k).bind fun t => some t) (fun k => ?_) (Ev.bind awake_ev (Ev.now _))
  simp only [gessolaw11_PackJoins.j0]
  rw [if_pos trivial]

theorem PackJoins (a0 a1 : List (List Int)) (a2 : Int) (w0 : ∀ x ∈ a0, ∀ y ∈ x, (Lit.int .u8 y).wf = true) (w1 : ∀ x ∈ a1, ∀ y ∈ x, (Lit.int .u8 y).wf = true) (w2 : (Lit.int .u16 a2).wf = true) (hb : (a0.map (fun l => (l.map (fun _ => 1)).sum + 1)).sum + 1 + ((a1.map (fun l => (l.map (fun _ => 1)).sum + 1)).sum + 1 + 1) ≤ 1048576) : ∃ k, gessolaw11_PackJoins.f k a0 a1 a2 = some true := by
  obtain ⟨h1, h2, h3⟩ := bulk_rows a0
  obtain ⟨g1, g2, g3⟩ := bulk_rows a1
  have r0 := rows_bytes w0
  have r1 := rows_bytes w1
  refine Ev.rounds ?_
  unfold gessolaw11_PackJoins.f
  refine Ev.bind (pack_ev a0 (by omega) (fun _ => by omega)) (Ev.bind (pack_ev a1 (by omega) (fun _ => by omega)) ?_)
  cases e0 : longs a0 with
  | true => simpa using joins_none a0 a1 a2 [] _
  | false =>
    cases e1 : longs a1 with
    | true => simpa using joins_none a0 a1 a2 (pk a0) []
    | false => simpa using joins_main a0 a1 a2 (bounds_cut w2) r0 r1 (no_long e0) (no_long e1) (by omega) (by omega) (by omega) (by omega)

end Go.Proofs.Ytejbkjbldmaodaa.Pure
