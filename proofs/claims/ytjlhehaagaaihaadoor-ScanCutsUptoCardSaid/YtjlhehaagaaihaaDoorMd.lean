/- Plain facts on the document's first code point, and on where bytes are not right. No condition. -/
import Derived.Test.YtjlhehaagaaihaaDoorMc
import Derived.Test.YtjlhehaagaaihaaDoorPx8
import Derived.Test.YtjlhehaagaaihaaDoorPx3
namespace Go.Proofs.YtjlhehaagaaihaaDoor.Pure
open Go.RowKit Go.Proofs.YtjlhehaagaaihaaDoor.P Go.Proofs.YtjlhehaagaaihaaDoorW.PrintWords Go.Proofs.YtjlhehaagaaihaaDoorW.PrintLast
set_option linter.unusedSimpArgs false

/-- What the bytes behind the first make of it. -/
def numr : Int → List Int → Int × Bool
  | c, [] => (c, true)
  | c, b :: r => if b < 128 then (0, false) else if b > 191 then (0, false) else numr ((((64 * c) % 4294967296) + ((b - 128) % 256)) % 4294967296) r
theorem numr_bounds : ∀ (l : List Int) (c : Int), 0 ≤ c → c < 4294967296 → 0 ≤ (numr c l).1 ∧ (numr c l).1 < 4294967296
  | [], c, h0, h1 => ⟨h0, h1⟩
  | b :: r, c, h0, h1 => by
    unfold numr
    split
    · exact ⟨by decide, by decide⟩
    · split
      · exact ⟨by decide, by decide⟩
      · exact numr_bounds r _ (by omega) (by omega)
def start (x : Int) (n : Nat) : Int := if n = 2 then (x % 4294967296 - 192) % 4294967296 else if n = 3 then (x % 4294967296 - 224) % 4294967296 else if n = 4 then (x % 4294967296 - 240) % 4294967296 else x % 4294967296
theorem start_bounds (x : Int) (n : Nat) : 0 ≤ start x n ∧ start x n < 4294967296 := by
  unfold start
  repeat' split
  all_goals omega
def num (l : List Int) (n : Nat) : Int × Bool := numr (start (l.getD 0 0) n) ((l.take n).drop 1)

theorem number_loop (l : List Int) (n : Nat) (hn : n ≤ l.length) (hl : l.length < 4611686018427387904) : ∀ (m i : Nat) (c : Int), n - i = m → i ≤ n → Ev (fun k => gessoref01_number.l0 k l (n : Int) c (i : Int)) (numr c ((l.take n).drop i))
  | 0, i, c, hm, hi => by
    obtain rfl : i = n := by omega
    rw [List.drop_of_length_le (by rw [List.length_take]; omega)]
    refine Ev.step (f := fun _ => some (c, true)) (fun k => ?_) (Ev.now _)
    simp only [gessoref01_number.l0]
    rw [if_neg (by omega)]
  | m + 1, i, c, hm, hi => by
    have hi' : i < (l.take n).length := by rw [List.length_take]; omega
    have hin : i < n := by omega
    have e : (l.take n).getD i 0 = l.getD i 0 := by simp [List.getD, List.getElem?_take, hin]
    rw [drop_at (l.take n) 0 i hi', e]
    unfold numr
    by_cases h1 : l.getD i 0 < 128
    · rw [if_pos h1]
      refine Ev.step (f := fun _ => some (0, false)) (fun k => ?_) (Ev.now _)
      simp only [gessoref01_number.l0, rd_nat]
      rw [if_pos (by omega), if_pos (by omega), if_pos (by omega), if_pos h1]
    · rw [if_neg h1]
      by_cases h2 : l.getD i 0 > 191
      · rw [if_pos h2]
        refine Ev.step (f := fun _ => some (0, false)) (fun k => ?_) (Ev.now _)
        simp only [gessoref01_number.l0, rd_nat]
        rw [if_pos (by omega), if_pos (by omega), if_pos (by omega), if_neg h1, if_pos h2]
      · rw [if_neg h2]
        refine Ev.step (fun k => ?_) (number_loop l n hn hl m (i + 1) _ (by omega) (by omega))
        simp only [gessoref01_number.l0, rd_nat]
        rw [if_pos (by omega), if_pos (by omega), if_pos (by omega), if_neg h1, if_neg h2, w64 (by omega) (by omega)]
        rfl
theorem number_ev (l : List Int) (n : Nat) (h1 : 1 ≤ n) (hn : n ≤ l.length) (hl : l.length < 4611686018427387904) : Ev (fun k => gessoref01_number.f k l (n : Int)) (num l n) := by
  have e : ∀ c, Ev (fun k => gessoref01_number.j0 k l (n : Int) c) (numr c ((l.take n).drop 1)) := fun c => Ev.step (fun k => by simp only [gessoref01_number.j0]; rfl) (number_loop l n hn hl _ 1 c rfl h1)
  unfold gessoref01_number.f num start
  have e0 : rd l 0 = l.getD 0 0 := by simp [rd]
  rw [e0]
  simp only [if_pos (show 0 < (l.length : Int) by omega)]
  by_cases h2 : n = 2
  · subst h2; exact e _
  · simp only [if_neg h2, if_neg (show ¬ ((n : Int) = 2) by omega)]
    by_cases h3 : n = 3
    · subst h3; exact e _
    · simp only [if_neg h3, if_neg (show ¬ ((n : Int) = 3) by omega)]
      by_cases h4 : n = 4
      · subst h4; exact e _
      · simp only [if_neg h4, if_neg (show ¬ ((n : Int) = 4) by omega)]
        exact e _
/-- Of a code point's own bytes the number is the code point. -/
theorem num_enc (c : Int) (h : isC c) (l : List Int) (n : Nat) (hn : (n : Int) = wid c) (ht : l.take n = enc c) : num l n = (c, true) := by
  have h' := h
  unfold isC at h'
  have hp : 0 < n := by
    have : wid c ≥ 1 := by
      unfold wid
      rw [if_pos h]
      repeat' split
      all_goals decide
    omega
  have e0 : l.getD 0 0 = (enc c).getD 0 0 := by rw [← ht]; simp [List.getD, List.getElem?_take, hp]
  unfold num
  rw [e0, ht]
  unfold wid at hn
  unfold enc
  simp only [if_pos h] at hn ⊢
  by_cases h1 : c < 128
  · rw [if_pos h1] at hn ⊢
    obtain rfl : n = 1 := by omega
    simp [start, numr]; omega
  · rw [if_neg h1] at hn ⊢
    by_cases h2 : c < 2048
    · rw [if_pos h2] at hn ⊢
      obtain rfl : n = 2 := by omega
      simp only [start, numr, List.getD_cons_zero, List.drop_succ_cons, List.drop_zero, if_true]
      rw [if_neg (by omega), if_neg (by omega)]
      congr 1; omega
    · rw [if_neg h2] at hn ⊢
      by_cases h3 : c < 65536
      · rw [if_pos h3] at hn ⊢
        obtain rfl : n = 3 := by omega
        simp only [start, numr, List.getD_cons_zero, List.drop_succ_cons, List.drop_zero, if_true]
        rw [if_neg (by omega), if_neg (by omega), if_neg (by omega), if_neg (by omega), if_neg (by omega)]
        congr 1; omega
      · rw [if_neg h3] at hn ⊢
        obtain rfl : n = 4 := by omega
        simp only [start, numr, List.getD_cons_zero, List.drop_succ_cons, List.drop_zero, if_true]
        rw [if_neg (by omega), if_neg (by omega), if_neg (by omega), if_neg (by omega), if_neg (by omega), if_neg (by omega), if_neg (by omega), if_neg (by omega)]
        congr 1; omega
theorem wid_pos (c : Int) (h : isC c) : 1 ≤ wid c := by
  unfold wid
  rw [if_pos h]
  repeat' split
  all_goals decide
theorem wid_isC (c : Int) (h : wid c ≠ 0) : isC c := Classical.byContradiction fun hn => h (by unfold wid; rw [if_neg hn])
theorem one_none (l : List Int) (hb : Bytes l) (hno : ∀ c, isC c → ∀ r, l ≠ enc c ++ r) : one4 l = (0, 0) := by
  by_cases h : (one4 l).2 = 0
  · unfold one4 at h ⊢
    split at h
    · rw [if_pos ‹_›]
    · rename_i hn
      simp only at h
      have hd : (dec l).2 = 0 := by omega
      have : (dec l).1 = 65533 := by
        revert hd
        unfold dec Lib.decodeN
        repeat' split
        all_goals simp
      exact absurd ⟨this, by omega⟩ hn
  · obtain ⟨hc, hw, he⟩ := one_back l hb h
    exact absurd he (hno _ hc _)
theorem ref_one_loop (l : List Int) (hb : Bytes l) (hl : l.length < 4611686018427387904) : ∀ (m i : Nat), 5 - i = m → 1 ≤ i → i ≤ 5 → (∀ c, isC c → wid c < i → ∀ r, l ≠ enc c ++ r) →
    Ev (fun k => gessoref01_One.l0 k l (i : Int)) (one4 l) := by
  intro m
  induction m with
  | zero =>
    intro i hm h1 h5 hno
    obtain rfl : i = 5 := by omega
    have hz : one4 l = (0, 0) := one_none l hb fun c hc r he => hno c hc (by have := wid_small c; omega) r he
    rw [hz]
    refine Ev.step (f := fun k => gessoref01_One.j1 k l ((5 : Nat) : Int) false) (fun k => ?_) (Ev.step (f := fun _ => some (0, 0)) (fun k => ?_) (Ev.now _))
    · simp only [gessoref01_One.l0]; rw [if_neg (by omega)]
    · simp only [gessoref01_One.j1, Bool.false_eq_true, if_false]
  | succ m ih =>
    intro i hm h1 h5 hno
    refine Ev.step (f := fun k => gessoref01_One.j1 k l (i : Int) (decide ((i : Int) ≤ (l.length : Int)))) (fun k => ?_) ?_
    · simp only [gessoref01_One.l0]; rw [if_pos (by omega)]
    by_cases hi : i ≤ l.length
    · rw [decide_eq_true (show (i : Int) ≤ (l.length : Int) by omega)]
      refine Ev.step (fun k => by simp only [gessoref01_One.j1, if_true]; rfl) ?_
      refine Ev.bind (number_ev l i h1 hi hl) ?_
      have hbd : 0 ≤ (num l i).1 ∧ (num l i).1 < 4294967296 := numr_bounds ((l.take i).drop 1) (start (l.getD 0 0) i) (start_bounds _ _).1 (start_bounds _ _).2
      have next : (∀ c, isC c → wid c = i → ∀ r, l ≠ enc c ++ r) → Ev (fun k => gessoref01_One.l0 k l (wrap64 ((i : Int) + 1))) (one4 l) := fun hn => by
        rw [w64 (by omega) (by omega)]
        refine ih (i + 1) (by omega) (by omega) (by omega) (fun c hc hw r => ?_)
        by_cases hwi : wid c = i
        · exact hn c hc hwi r
        · exact hno c hc (by omega) r
      have pass : ∀ c, isC c → wid c = i → ∀ r, l = enc c ++ r → num l i = (c, true) ∧ l.take i = enc c := fun c hc hw r he => by
        have ht : l.take i = enc c := by
          have := enc_length c
          rw [he, List.take_append_of_le_length (by omega), List.take_of_length_le (by omega)]
        exact ⟨num_enc c hc l i hw.symm ht, ht⟩
      by_cases h2 : (num l i).2 = true
      · simp only [if_pos h2, wid_f _ hbd.1, put_f _ hbd.1, Option.bind_some, if_pos (show 0 ≤ (i : Int) by omega), if_pos (show (i : Int) ≤ (l.length : Int) by omega), Int.toNat_natCast, str_inj (enc_bytes _) (hb.take i)]
        by_cases hw : wid (num l i).1 = (i : Int)
        · by_cases ht : enc (num l i).1 = l.take i
          · simp only [if_pos hw, if_pos ht]
            have e : l = enc (num l i).1 ++ l.drop i := by rw [ht, List.take_append_drop]
            have := one_enc (num l i).1 (wid_isC _ (by omega)) (l.drop i)
            rw [← e, hw] at this
            rw [this]
            exact Ev.now _
          · simp only [if_pos hw, if_neg ht]
            exact next fun c hc hwc r he => ht (by have hp := pass c hc hwc r he; rw [hp.1]; exact hp.2.symm)
        · simp only [if_neg hw]
          exact next fun c hc hwc r he => hw (by have hp := pass c hc hwc r he; rw [hp.1]; exact hwc)
      · simp only [if_neg h2]
        exact next (fun c hc hw r he => h2 (by rw [(pass c hc hw r he).1]))
    · rw [decide_eq_false (show ¬ (i : Int) ≤ (l.length : Int) by omega)]
      have hz : one4 l = (0, 0) := one_none l hb fun c hc r he => hno c hc (by have := enc_length c; have := congrArg List.length he; rw [List.length_append] at this; omega) r he
      rw [hz]
      refine Ev.step (f := fun _ => some (0, 0)) (fun k => ?_) (Ev.now _)
      simp only [gessoref01_One.j1, Bool.false_eq_true, if_false]
/-- The document's first code point is the program's. -/
theorem ref_one (l : List Int) (hb : Bytes l) (hl : l.length < 4611686018427387904) : Ev (fun k => gessoref01_One.f k l) (one4 l) :=
  ref_one_loop l hb hl _ 1 rfl (by omega) (by omega) fun c hc hw => absurd (wid_pos c hc) (by omega)

/-- Bytes are code points, and behind them nothing, or what is no code point's beginning. -/
theorem parts : ∀ (n : Nat) (l : List Int), l.length ≤ n → Bytes l → ∃ cs r, allC cs ∧ l = encs cs ++ r ∧ (r = [] ∨ (r ≠ [] ∧ one4 r = (0, 0)))
  | n, [], _, _ => ⟨[], [], by simp [allC], by simp [encs], .inl rfl⟩
  | 0, x :: l, h, _ => by simp at h
  | n + 1, x :: l, h, hb => by
    by_cases hz : one4 (x :: l) = (0, 0)
    · exact ⟨[], x :: l, by simp [allC], by simp [encs], .inr ⟨by simp, hz⟩⟩
    · have h2 : (one4 (x :: l)).2 ≠ 0 := fun e => by
        have hn : ∀ c, isC c → ∀ r, x :: l ≠ enc c ++ r := fun c hc r he => by
          have := one_enc c hc r
          rw [← he] at this
          rw [this] at e
          exact absurd (wid_pos c hc) (by simp only at e; omega)
        exact hz (one_none _ hb hn)
      obtain ⟨hc, hw, he⟩ := one_back _ hb h2
      have hp := wid_pos _ hc
      obtain ⟨cs, r, h1, h3, h4⟩ := parts n ((x :: l).drop (one4 (x :: l)).2.toNat) (by rw [List.length_drop]; simp at h ⊢; omega) (hb.drop _)
      refine ⟨(one4 (x :: l)).1 :: cs, r, (allC_cons _ _).2 ⟨hc, h1⟩, ?_, h4⟩
      rw [encs_cons, List.append_assoc, ← h3]
      exact he
/-- Where bytes are not right. -/
def flt (cs r : List Int) : Int := if r = [] then -1 else ((encs cs).length : Int)
theorem fault_loop (g : Nat → List Int → Int → Option Int) (one : Nat → List Int → Option (Int × Int)) (l : List Int) (hb : Bytes l) (hl : l.length < 4611686018427387904)
    (hone : ∀ l', Bytes l' → l'.length < 4611686018427387904 → Ev (fun k => one k l') (one4 l'))
    (hg : ∀ k at_, g (k + 1) l at_ = if at_ < (l.length : Int) then (if 0 ≤ at_ then (if at_ ≤ (l.length : Int) then ((one k (l.drop at_.toNat)).bind fun b => (if b.2 = 0 then (some at_) else (g k l (wrap64 (at_ + b.2))))) else none) else none) else some (-1)) :
    ∀ (cs r : List Int) (i : Nat), i ≤ l.length → allC cs → l.drop i = encs cs ++ r → (r = [] ∨ (r ≠ [] ∧ one4 r = (0, 0))) → Ev (fun k => g k l (i : Int)) (if r = [] then -1 else (i : Int) + (encs cs).length)
  | [], r, i, hi, hc, he, hr => by
    have hlen := congrArg List.length he
    rw [List.length_drop] at hlen
    simp only [encs, List.flatMap_nil, List.nil_append] at he hlen
    rcases hr with rfl | ⟨hr, h1⟩
    · rw [if_pos rfl]
      refine Ev.step (f := fun _ => some (-1)) (fun k => ?_) (Ev.now _)
      simp at hlen
      rw [hg, if_neg (by omega)]
    · rw [if_neg hr]
      have hpos : 0 < r.length := by cases r <;> simp_all
      refine Ev.step (fun k => by rw [hg, if_pos (by omega), if_pos (by omega), if_pos (by omega), Int.toNat_natCast, he]) ?_
      refine Ev.bind (hone r (by rw [← he]; exact hb.drop i) (by omega)) ?_
      rw [h1]
      simp only [if_true, encs, List.flatMap_nil, List.length_nil, Int.natCast_zero, Int.add_zero]
      exact Ev.now _
  | c :: cs, r, i, hi, hc, he, hr => by
    obtain ⟨hc1, hc2⟩ := (allC_cons c cs).1 hc
    rw [encs_cons, List.append_assoc] at he
    have hlen := congrArg List.length he
    rw [List.length_drop, List.length_append] at hlen
    have hw := enc_length c
    have hp := wid_pos c hc1
    refine Ev.step (fun k => by rw [hg, if_pos (by omega), if_pos (by omega), if_pos (by omega), Int.toNat_natCast]) ?_
    refine Ev.bind (hone (l.drop i) (hb.drop i) (by rw [List.length_drop]; omega)) ?_
    rw [he, one_enc c hc1]
    simp only [if_neg (show ¬ wid c = 0 by omega)]
    rw [w64 (by omega) (by omega), ← hw]
    have hd : l.drop (i + (enc c).length) = encs cs ++ r := by rw [← List.drop_drop, he, List.drop_left]
    have := fault_loop g one l hb hl hone hg cs r (i + (enc c).length) (by omega) hc2 hd hr
    rw [encs_cons, List.length_append]
    have e : (i : Int) + ((enc c).length + (encs cs).length : Nat) = ((i + (enc c).length : Nat) : Int) + (encs cs).length := by omega
    rw [e]
    exact this
theorem cfault_ev (cs r : List Int) (hc : allC cs) (hr : r = [] ∨ (r ≠ [] ∧ one4 r = (0, 0))) (hb : Bytes (encs cs ++ r)) (hl : (encs cs ++ r).length < 4611686018427387904) : Ev (fun k => code_Fault.f k (encs cs ++ r)) (flt cs r) := by
  have := fault_loop code_Fault.l0 (fun _ l => code_One.f l) (encs cs ++ r) hb hl (fun l' h' _ => by simp only [one_f h']; exact Ev.now _) (fun k a => by simp only [code_Fault.l0]) cs r 0 (by omega) hc rfl hr
  simpa [flt, code_Fault.f] using this
theorem rfault_ev (cs r : List Int) (hc : allC cs) (hr : r = [] ∨ (r ≠ [] ∧ one4 r = (0, 0))) (hb : Bytes (encs cs ++ r)) (hl : (encs cs ++ r).length < 4611686018427387904) : Ev (fun k => gessoref01_Fault.f k (encs cs ++ r)) (flt cs r) := by
  have := fault_loop gessoref01_Fault.l0 gessoref01_One.f (encs cs ++ r) hb hl (fun l' h' hl' => ref_one l' h' hl') (fun k a => by simp only [gessoref01_Fault.l0]) cs r 0 (by omega) hc rfl hr
  simpa [flt, gessoref01_Fault.f] using this
end Go.Proofs.YtjlhehaagaaihaaDoor.Pure
