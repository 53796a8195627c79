/- Plain facts on the first code point of bytes. No condition. -/
import Derived.Test.YtjlhehaagaaihaaDoorMb
import Derived.Test.YtjlhehaagaaihaaDoorEb
namespace Go.Proofs.YtjlhehaagaaihaaDoor.Pure
open Go.RowKit Go.Lib Go.Proofs.YtjlhehaagaaihaaDoor.P Go.Proofs.YtjlhehaagaaihaaDoorW.PrintWords Go.Proofs.YtjlhehaagaaihaaDoorW.PrintLast
set_option linter.unusedSimpArgs false

theorem b4_of {l : List Int} (h : Bytes l) : b4 l = true := by
  unfold b4
  rw [List.all_eq_true]
  intro x hx
  have := h x (List.mem_of_mem_take hx)
  simp [this]
theorem one_f {l : List Int} (h : Bytes l) : code_One.f l = some (one4 l) := by
  unfold code_One.f
  rw [if_pos (b4_of h)]

set_option maxHeartbeats 1000000 in
/-- A code point's bytes are told for it, whatever stands behind them. -/
theorem one_enc (c : Int) (h : isC c) (r : List Int) : one4 (enc c ++ r) = (c, wid c) := by
  have h' := h
  unfold isC at h'
  obtain ⟨n, rfl⟩ := Int.eq_ofNat_of_zero_le h'.1
  suffices hd : dec (enc n ++ r) = (n, (wid n).toNat) by
    unfold one4
    rw [hd]
    have := wid_small n
    have hw : wid n ≥ 1 := by
      unfold wid
      rw [if_pos h]
      repeat' split
      all_goals decide
    simp only
    rw [if_neg]
    · congr 1; omega
    · rintro ⟨e1, e2⟩
      subst e1
      simp [wid, isC] at e2
  unfold enc wid
  simp only [if_pos h]
  repeat' split
  · simp [dec, byteAt, decodeN]; omega
  · have e0 : ((192 : Int) + (n : Int) / 64).toNat = 192 + n / 64 := by omega
    have e1 : ((128 : Int) + (n : Int) % 64).toNat = 128 + n % 64 := by omega
    simp only [dec, byteAt, List.cons_append, List.nil_append, List.length_cons, List.getD_cons_zero, List.getD_cons_succ, e0, e1, decodeN]
    rw [if_neg (by omega), if_neg (by omega), if_pos (by omega), if_pos (by omega)]
    simp; omega
  · have e0 : ((224 : Int) + (n : Int) / 4096).toNat = 224 + n / 4096 := by omega
    have e1 : ((128 : Int) + (n : Int) / 64 % 64).toNat = 128 + n / 64 % 64 := by omega
    have e2 : ((128 : Int) + (n : Int) % 64).toNat = 128 + n % 64 := by omega
    simp only [dec, byteAt, List.cons_append, List.nil_append, List.length_cons, List.getD_cons_zero, List.getD_cons_succ, e0, e1, e2, decodeN]
    rw [if_neg (by omega), if_neg (by omega), if_neg (by omega), if_pos (by omega), if_pos (by omega)]
    simp; omega
  · have e0 : ((240 : Int) + (n : Int) / 262144).toNat = 240 + n / 262144 := by omega
    have e1 : ((128 : Int) + (n : Int) / 4096 % 64).toNat = 128 + n / 4096 % 64 := by omega
    have e2 : ((128 : Int) + (n : Int) / 64 % 64).toNat = 128 + n / 64 % 64 := by omega
    have e3 : ((128 : Int) + (n : Int) % 64).toNat = 128 + n % 64 := by omega
    simp only [dec, byteAt, List.cons_append, List.nil_append, List.length_cons, List.getD_cons_zero, List.getD_cons_succ, e0, e1, e2, e3, decodeN]
    rw [if_neg (by omega), if_neg (by omega), if_neg (by omega), if_neg (by omega), if_pos (by omega), if_pos (by omega)]
    simp; omega
theorem Bytes.cons {x : Int} {l : List Int} (h : Bytes (x :: l)) : ∃ n : Nat, x = (n : Int) ∧ n < 256 ∧ Bytes l := by
  have := h x (by simp)
  exact ⟨x.toNat, by omega, by omega, fun y hy => h y (by simp [hy])⟩
set_option maxHeartbeats 4000000 in
/-- What is told begins with the bytes of the code point that is told. -/
theorem one_back (l : List Int) (hb : Bytes l) (h : (one4 l).2 ≠ 0) : isC (one4 l).1 ∧ (one4 l).2 = wid (one4 l).1 ∧ l = enc (one4 l).1 ++ l.drop (one4 l).2.toNat := by
  cases l with
  | nil => simp [one4, dec] at h
  | cons a l =>
  obtain ⟨a, rfl, ha, hb⟩ := hb.cons
  have key : ∀ d : Nat × Nat, dec ((a : Int) :: l) = d → ¬ (d.1 = 65533 ∧ d.2 < 2) → isC d.1 ∧ (d.2 : Int) = wid d.1 ∧ (a : Int) :: l = enc d.1 ++ ((a : Int) :: l).drop d.2 := by
    intro d hd hn
    simp only [dec, List.length_cons, if_neg (show ¬ l.length + 1 = 0 by omega)] at hd
    have e0 : byteAt ((a : Int) :: l) 0 = a := by simp [byteAt]
    rw [e0] at hd
    match l, hb with
    | [], _ =>
      simp only [byteAt, List.getD_cons_succ, List.getD_nil, List.length_nil, decodeN] at hd
      revert hd
      repeat' split
      all_goals intro hd
      all_goals subst hd
      all_goals first | (exfalso; simp at hn; done) | (exfalso; omega) | skip
      all_goals refine ⟨by unfold isC; omega, ?_, ?_⟩
      all_goals first
        | (unfold wid; rw [if_pos (by unfold isC; omega)]; (repeat' split) <;> first | rfl | (exfalso; omega))
        | (unfold enc; rw [if_pos (by unfold isC; omega)]; (repeat' split) <;> first | (exfalso; omega) | (simp only [List.cons_append, List.nil_append, List.drop_succ_cons, List.drop_zero, List.cons.injEq, and_true]; omega) | (simp; done))
    | b :: l, hb =>
      obtain ⟨b, rfl, hb', hb⟩ := hb.cons
      have e1 : byteAt ((a : Int) :: (b : Int) :: l) 1 = b := by simp [byteAt]
      rw [e1] at hd
      match l, hb with
      | [], _ =>
        simp only [byteAt, List.getD_cons_succ, List.getD_nil, List.length_cons, List.length_nil, decodeN] at hd
        revert hd
        repeat' split
        all_goals intro hd
        all_goals subst hd
        all_goals first | (exfalso; simp at hn; done) | (exfalso; omega) | skip
        all_goals refine ⟨by unfold isC; omega, ?_, ?_⟩
        all_goals first
          | (unfold wid; rw [if_pos (by unfold isC; omega)]; (repeat' split) <;> first | rfl | (exfalso; omega))
          | (unfold enc; rw [if_pos (by unfold isC; omega)]; (repeat' split) <;> first | (exfalso; omega) | (simp only [List.cons_append, List.nil_append, List.drop_succ_cons, List.drop_zero, List.cons.injEq, and_true]; omega) | (simp; done))
      | c :: l, hb =>
        obtain ⟨c, rfl, hc', hb⟩ := hb.cons
        have e2 : byteAt ((a : Int) :: (b : Int) :: (c : Int) :: l) 2 = c := by simp [byteAt]
        rw [e2] at hd
        match l, hb with
        | [], _ =>
          simp only [byteAt, List.getD_cons_succ, List.getD_nil, List.length_cons, List.length_nil, decodeN] at hd
          revert hd
          repeat' split
          all_goals intro hd
          all_goals subst hd
          all_goals first | (exfalso; simp at hn; done) | (exfalso; omega) | skip
          all_goals refine ⟨by unfold isC; omega, ?_, ?_⟩
          all_goals first
            | (unfold wid; rw [if_pos (by unfold isC; omega)]; (repeat' split) <;> first | rfl | (exfalso; omega))
            | (unfold enc; rw [if_pos (by unfold isC; omega)]; (repeat' split) <;> first | (exfalso; omega) | (simp only [List.cons_append, List.nil_append, List.drop_succ_cons, List.drop_zero, List.cons.injEq, and_true]; omega) | (simp; done))
        | e :: l, hb =>
          obtain ⟨e, rfl, he', hb⟩ := hb.cons
          have e3 : byteAt ((a : Int) :: (b : Int) :: (c : Int) :: (e : Int) :: l) 3 = e := by simp [byteAt]
          rw [e3] at hd
          simp only [List.length_cons, decodeN] at hd
          revert hd
          repeat' split
          all_goals intro hd
          all_goals subst hd
          all_goals first | (exfalso; simp at hn; done) | (exfalso; omega) | skip
          all_goals refine ⟨by unfold isC; omega, ?_, ?_⟩
          all_goals first
            | (unfold wid; rw [if_pos (by unfold isC; omega)]; (repeat' split) <;> first | rfl | (exfalso; omega))
            | (unfold enc; rw [if_pos (by unfold isC; omega)]; (repeat' split) <;> first | (exfalso; omega) | (simp only [List.cons_append, List.nil_append, List.drop_succ_cons, List.drop_zero, List.cons.injEq, and_true]; omega) | (simp; done))
  unfold one4 at h ⊢
  by_cases hn : (dec ((a : Int) :: l)).1 = 65533 ∧ (dec ((a : Int) :: l)).2 < 2
  · rw [if_pos hn] at h; exact absurd rfl h
  · rw [if_neg hn]
    simpa using key _ rfl hn
end Go.Proofs.YtjlhehaagaaihaaDoor.Pure
