/- Plain facts on code points: how wide one is, and its bytes. No condition. -/
import Derived.Test.YtjlhehaagaaihaaDoorPx11
import Derived.Test.YtjlhehaagaaihaaDoorPx3
import Derived.Test.YtjlhehaagaaihaaDoorPx6
import Derived.Test.YtjlhehaagaaihaaDoorPx2
import Derived.Test.YtjlhehaagaaihaaDoorPx14
import Derived.Test.YtjlhehaagaaihaaDoorPx2
import Derived.OpenShut
import Derived.Test.YtjlhehaagaaihaaDoorEb
import Derived.Test.YtjlhehaagaaihaaDoorPx8
import Derived.Test.YtjlhehaagaaihaaDoorPx3
-- Ma
namespace Go.Proofs.YtjlhehaagaaihaaDoor.Pure
open Go.RowKit Go.Proofs.YtjlhehaagaaihaaDoor.P Go.Proofs.YtjlhehaagaaihaaDoorW.PrintWords Go.Proofs.YtjlhehaagaaihaaDoorW.PrintLast

theorem w64 {i : Int} (h0 : -9223372036854775808 ≤ i) (h1 : i ≤ 9223372036854775807) : wrap64 i = i := by unfold wrap64; omega
theorem w32 {i : Int} (h0 : 0 ≤ i) (h1 : i ≤ 1114111) : wrap32 i = i := by unfold wrap32; omega
theorem rd_nat (xs : List Int) (i : Nat) : rd xs (i : Int) = xs.getD i 0 := by simp [rd]
theorem getD_lt {α : Type} (xs : List α) (z : α) (i : Nat) (h : i < xs.length) : xs.getD i z = xs[i] := by simp [List.getD_eq_getElem?_getD, h]
theorem drop_at {α : Type} (l : List α) (z : α) (i : Nat) (h : i < l.length) : l.drop i = l.getD i z :: l.drop (i + 1) := by
  rw [getD_lt l z i h]; exact List.drop_eq_getElem_cons h

/-- All bytes. -/
def Bytes (l : List Int) : Prop := ∀ x ∈ l, 0 ≤ x ∧ x < 256
theorem Bytes.of (l : List Int) (h : ∀ x ∈ l, (Lit.int .u8 x).wf = true) : Bytes l := fun x hx => by have := bounds_u8 (h x hx); omega
theorem Bytes.drop {l : List Int} (h : Bytes l) (n : Nat) : Bytes (l.drop n) := fun x hx => h x (List.mem_of_mem_drop hx)
theorem Bytes.take {l : List Int} (h : Bytes l) (n : Nat) : Bytes (l.take n) := fun x hx => h x (List.mem_of_mem_take hx)
theorem Bytes.append {l r : List Int} (h : Bytes l) (k : Bytes r) : Bytes (l ++ r) := fun x hx => (List.mem_append.1 hx).elim (h x) (k x)
theorem Bytes.at {l : List Int} (h : Bytes l) (i : Nat) : 0 ≤ l.getD i 0 ∧ l.getD i 0 < 256 := by
  by_cases hi : i < l.length
  · rw [getD_lt l 0 _ hi]; exact h _ (List.getElem_mem hi)
  · rw [List.getD_eq_getElem?_getD, List.getElem?_eq_none (by omega)]; decide
theorem u8_inj {x y : Int} (hx : 0 ≤ x ∧ x < 256) (hy : 0 ≤ y ∧ y < 256) (h : UInt8.ofNat x.toNat = UInt8.ofNat y.toNat) : x = y := by
  have := congrArg UInt8.toNat h
  rw [UInt8.toNat_ofNat', UInt8.toNat_ofNat'] at this
  omega
theorem map_inj : ∀ {a b : List Int}, Bytes a → Bytes b → a.map (fun n => UInt8.ofNat n.toNat) = b.map (fun n => UInt8.ofNat n.toNat) → a = b := by
  intro a
  induction a with
  | nil => intro b _ _ h; cases b with
    | nil => rfl
    | cons y b => cases h
  | cons x a ih =>
    intro b ha hb h
    cases b with
    | nil => cases h
    | cons y b =>
      simp only [List.map_cons, List.cons.injEq] at h
      rw [u8_inj (ha x (by simp)) (hb y (by simp)) h.1, ih (fun z hz => ha z (by simp [hz])) (fun z hz => hb z (by simp [hz])) h.2]
theorem toList_str (a : List Int) : (strOfNums a).toList = a.map (fun n => UInt8.ofNat n.toNat) := by
  rw [ByteArray.toList_eq]; rfl
theorem str_inj {a b : List Int} (ha : Bytes a) (hb : Bytes b) : (strOfNums a).toList = (strOfNums b).toList ↔ a = b :=
  ⟨fun h => map_inj ha hb (by rw [← toList_str, ← toList_str]; exact h), fun h => by rw [h]⟩

/-- A code point. -/
def isC (c : Int) : Prop := 0 ≤ c ∧ c ≤ 1114111 ∧ (c < 55296 ∨ 57343 < c)
instance (c : Int) : Decidable (isC c) := inferInstanceAs (Decidable (_ ∧ _ ∧ (_ ∨ _)))
/-- How many bytes it has. -/
def wid (c : Int) : Int := if isC c then (if c < 128 then 1 else if c < 2048 then 2 else if c < 65536 then 3 else 4) else 0
/-- Its bytes. -/
def enc (c : Int) : List Int :=
  if isC c then (if c < 128 then [c] else if c < 2048 then [192 + c / 64, 128 + c % 64] else if c < 65536 then [224 + c / 4096, 128 + c / 64 % 64, 128 + c % 64] else [240 + c / 262144, 128 + c / 4096 % 64, 128 + c / 64 % 64, 128 + c % 64]) else []
theorem wid_small (c : Int) : 0 ≤ wid c ∧ wid c ≤ 4 := by 
  unfold wid
  repeat' split
  all_goals (constructor <;> decide)
theorem enc_length (c : Int) : ((enc c).length : Int) = wid c := by
  unfold enc wid
  repeat' split
  all_goals rfl
theorem enc_bytes (c : Int) : Bytes (enc c) := by
  unfold enc
  split
  · rename_i h
    unfold isC at h
    repeat' split
    all_goals (intro x hx; simp at hx; omega)
  · intro x hx; simp at hx

theorem is_f (c : Int) (h0 : 0 ≤ c) : gessoref01_Is.f c = some (decide (isC c)) := by
  unfold gessoref01_Is.f
  by_cases h : isC c
  · have h' := h
    unfold isC at h'
    rw [decide_eq_true h]
    repeat' split
    all_goals first | rfl | (exfalso; omega) | (congr 1; exact decide_eq_true (by omega))
  · have h' := h
    unfold isC at h'
    rw [decide_eq_false h]
    repeat' split
    all_goals first | rfl | (exfalso; omega) | (congr 1; exact decide_eq_false (by omega))
theorem wid_f (c : Int) (h0 : 0 ≤ c) : gessoref01_Width.f c = some (wid c) := by
  unfold gessoref01_Width.f
  rw [is_f c h0]
  unfold wid
  by_cases h : isC c
  · simp only [Option.bind_some, decide_eq_true h, if_pos h, if_true]
    repeat' split
    all_goals rfl
  · simp [h]
theorem put_f (c : Int) (h0 : 0 ≤ c) : gessoref01_Put.f c = some (enc c) := by
  unfold gessoref01_Put.f
  rw [wid_f c h0, Option.bind_some]
  simp only [Int.tdiv_eq_ediv_of_nonneg h0, Int.tmod_eq_emod_of_nonneg h0]
  unfold wid enc
  by_cases h : isC c
  · have h' := h
    unfold isC at h'
    simp only [if_pos h]
    repeat' split
    all_goals first | (exfalso; omega) | (simp only [Option.some.injEq, List.cons.injEq, and_true]; omega)
  · simp [h]

set_option maxRecDepth 100000 in
theorem or192 : ∀ y : Fin 64, Go.bits .or .u8 192 ((y.val : Nat) : Int) = 192 + ((y.val : Nat) : Int) := by decide
set_option maxRecDepth 100000 in
theorem or224 : ∀ y : Fin 32, Go.bits .or .u8 224 ((y.val : Nat) : Int) = 224 + ((y.val : Nat) : Int) := by decide
set_option maxRecDepth 100000 in
theorem or240 : ∀ y : Fin 16, Go.bits .or .u8 240 ((y.val : Nat) : Int) = 240 + ((y.val : Nat) : Int) := by decide
theorem or192' {y : Int} (h0 : 0 ≤ y) (h1 : y < 64) : Go.bits .or .u8 192 y = 192 + y := by
  obtain ⟨n, rfl⟩ := Int.eq_ofNat_of_zero_le h0; exact or192 ⟨n, by omega⟩
theorem or224' {y : Int} (h0 : 0 ≤ y) (h1 : y < 32) : Go.bits .or .u8 224 y = 224 + y := by
  obtain ⟨n, rfl⟩ := Int.eq_ofNat_of_zero_le h0; exact or224 ⟨n, by omega⟩
theorem or240' {y : Int} (h0 : 0 ≤ y) (h1 : y < 16) : Go.bits .or .u8 240 y = 240 + y := by
  obtain ⟨n, rfl⟩ := Int.eq_ofNat_of_zero_le h0; exact or240 ⟨n, by omega⟩

theorem valid_ev (c : Int) (h0 : 0 ≤ c) : Ev (fun k => utf8_ValidRune.f k c) (decide (isC c)) := by
  refine Ev.step (f := fun _ => some (decide (isC c))) (fun k => ?_) (Ev.now _)
  simp only [utf8_ValidRune.f, utf8_ValidRune.j0, decide_eq_true_eq, if_pos h0]
  by_cases h : isC c
  · have h' := h
    unfold isC at h'
    rw [decide_eq_true h]
    repeat' split
    all_goals first | rfl | (exfalso; omega)
  · have h' := h
    unfold isC at h'
    rw [decide_eq_false h]
    repeat' split
    all_goals first | rfl | (exfalso; omega)
theorem point_ev (c : Int) (h0 : 0 ≤ c) : Ev (fun k => code_point.f k c) (if c > 1114111 then 0 else c, decide (isC c)) := by
  unfold code_point.f
  by_cases h : c > 1114111
  · simp only [if_pos h, decide_eq_false (show ¬ isC c by unfold isC; omega)]
    exact Ev.now _
  · simp only [if_neg h, w32 h0 (show c ≤ 1114111 by omega)]
    exact Ev.bind (valid_ev c h0) (Ev.now _)
theorem width_ev (c : Int) (h0 : 0 ≤ c) : Ev (fun k => code_Width.f k c) (wid c) := by
  unfold code_Width.f
  refine Ev.bind (point_ev c h0) ?_
  by_cases h : isC c
  · have h' := h
    unfold isC at h'
    simp only [decide_eq_true h, if_true, if_neg (show ¬ c > 1114111 by omega)]
    refine Ev.bind (a := wid c) ?_ (Ev.now _)
    refine Ev.step (f := fun _ => some (wid c)) (fun k => ?_) (Ev.now _)
    simp only [utf8_RuneLen.f, utf8_RuneLen.j0, decide_eq_true_eq, Bool.false_eq_true, if_false, wid, if_pos h]
    repeat' split
    all_goals first | rfl | (exfalso; omega)
  · simp only [decide_eq_false h, wid, if_neg h]
    exact Ev.now _
theorem append_ev (acc : List Int) (c : Int) (h : isC c) (hl : acc.length + 4 < 140737488355328) : Ev (fun k => utf8_AppendRune.f k acc c) (acc ++ enc c) := by
  have h' := h
  unfold isC at h'
  have e0 : c % 4294967296 = c := by omega
  refine Ev.step (f := fun _ => some (acc ++ enc c)) (fun k => ?_) (Ev.now _)
  simp only [utf8_AppendRune.f, utf8_appendRuneNonASCII.f, utf8_appendRuneNonASCII.j0, e0, decide_eq_true_eq, Option.bind_some, enc, if_pos h, List.length_cons, List.length_nil]
  repeat' split
  all_goals first | (exfalso; omega) | skip
  all_goals first
    | rfl
    | (rw [or192' (by omega) (by omega)]; simp only [Option.bind_some, Option.some.injEq, List.append_cancel_left_eq, List.cons.injEq, and_true]; omega)
    | (rw [or224' (by omega) (by omega)]; simp only [Option.bind_some, Option.some.injEq, List.append_cancel_left_eq, List.cons.injEq, and_true]; omega)
    | (rw [or240' (by omega) (by omega)]; simp only [Option.bind_some, Option.some.injEq, List.append_cancel_left_eq, List.cons.injEq, and_true]; omega)
    | (simp only [Option.some.injEq, List.append_cancel_left_eq, List.cons.injEq, and_true]; omega)
theorem cput_ev (c : Int) (h0 : 0 ≤ c) : Ev (fun k => code_Put.f k c) (enc c, if isC c then 0 else 2) := by
  unfold code_Put.f
  refine Ev.bind (point_ev c h0) ?_
  by_cases h : isC c
  · have h' := h
    unfold isC at h'
    simp only [decide_eq_true h, if_true, if_neg (show ¬ c > 1114111 by omega), if_pos h]
    refine Ev.bind (a := enc c) ?_ (Ev.now _)
    have := append_ev [] c h (by simp)
    rwa [List.nil_append] at this
  · simp only [decide_eq_false h, enc, if_neg h]
    exact Ev.now _
end Go.Proofs.YtjlhehaagaaihaaDoor.Pure
-- Mb
namespace Go.Proofs.YtjlhehaagaaihaaDoor.Pure
open Go.RowKit Go.Proofs.YtjlhehaagaaihaaDoor.P Go.Proofs.YtjlhehaagaaihaaDoorW.PrintWords Go.Proofs.YtjlhehaagaaihaaDoorW.PrintLast
set_option linter.unusedSimpArgs false

/-- The bytes of all, or that one is no code point. -/
def encs (l : List Int) : List Int := l.flatMap enc
def allC (l : List Int) : Prop := ∀ x ∈ l, isC x
instance (l : List Int) : Decidable (allC l) := inferInstanceAs (Decidable (∀ x ∈ l, isC x))
def told (l : List Int) : List Int × Int := if allC l then (encs l, 0) else ([], 2)
theorem encs_cons (x : Int) (l : List Int) : encs (x :: l) = enc x ++ encs l := by simp [encs]
theorem encs_length (l : List Int) : (encs l).length ≤ 4 * l.length := by
  induction l with
  | nil => simp [encs]
  | cons x l ih =>
    have := enc_length x
    have := wid_small x
    rw [encs_cons, List.length_append, List.length_cons]
    omega
theorem encs_bytes (l : List Int) : Bytes (encs l) := by
  induction l with
  | nil => intro x hx; simp [encs] at hx
  | cons x l ih => rw [encs_cons]; exact (enc_bytes x).append ih
theorem allC_cons (x : Int) (l : List Int) : allC (x :: l) ↔ isC x ∧ allC l := by simp [allC]

theorem cbytes_loop (l : List Int) (h0 : ∀ x ∈ l, 0 ≤ x) (hl : l.length ≤ 35184372087808) : ∀ (m i : Nat) (acc : List Int), l.length - i = m → i ≤ l.length → acc.length ≤ 4 * i → 
    Ev (fun k => code_Bytes.l0 k acc l (l.length : Int) (i : Int)) (if allC (l.drop i) then (acc ++ encs (l.drop i), 0) else ([], 2))
  | 0, i, acc, hm, hi, ha => by
    obtain rfl : i = l.length := by omega
    rw [List.drop_length, if_pos (by simp [allC])]
    refine Ev.step (f := fun _ => some (acc ++ encs [], 0)) (fun k => ?_) (Ev.now _)
    simp only [code_Bytes.l0]
    rw [if_neg (by omega)]
    simp [encs]
  | m + 1, i, acc, hm, hi, ha => by
    have hi' : i < l.length := by omega
    have hd := drop_at l 0 i hi'
    have hx : 0 ≤ l.getD i 0 := h0 _ (by rw [getD_lt l 0 i hi']; exact List.getElem_mem hi')
    refine Ev.step (f := fun k => (code_point.f k (l.getD i 0)).bind fun bt139 => (if bt139.2 = true then ((utf8_AppendRune.f k acc bt139.1).bind fun t141 => (code_Bytes.l0 k t141 l (l.length : Int) ((i + 1 : Nat) : Int))) else (some (([] : List Int), 2)))) (fun k => ?_) ?_
    · simp only [code_Bytes.l0]
      rw [if_pos (by omega), if_pos (by omega), if_pos (by omega), w64 (by omega) (by omega), rd_nat]
      rfl
    refine Ev.bind (point_ev _ hx) ?_
    rw [hd, encs_cons]
    by_cases h : isC (l.getD i 0)
    · have h' := h
      unfold isC at h'
      simp only [decide_eq_true h, if_true, if_neg (show ¬ l.getD i 0 > 1114111 by omega)]
      refine Ev.bind (append_ev acc _ h (by omega)) ?_
      have hw := wid_small (l.getD i 0)
      have he := enc_length (l.getD i 0)
      have := cbytes_loop l h0 hl m (i + 1) (acc ++ enc (l.getD i 0)) (by omega) (by omega) (by rw [List.length_append]; omega)
      rw [List.append_assoc] at this
      simp only [allC_cons, h, true_and]
      exact this
    · simp only [decide_eq_false h, Bool.false_eq_true, if_false, allC_cons, h, false_and]
      exact Ev.now _
theorem cbytes_ev (l : List Int) (h0 : ∀ x ∈ l, 0 ≤ x) (hl : l.length ≤ 35184372087808) : Ev (fun k => code_Bytes.f k l) (told l) := by
  have := cbytes_loop l h0 hl _ 0 [] rfl (by omega) (by simp)
  rwa [List.drop_zero, List.nil_append] at this
theorem rbytes_loop (l : List Int) (h0 : ∀ x ∈ l, 0 ≤ x) (hl : l.length ≤ 35184372087808) : ∀ (m i : Nat) (acc : List Int), l.length - i = m → i ≤ l.length → acc.length ≤ 4 * i → 
    Ev (fun k => gessoref01_Bytes.l0 k l acc (i : Int)) (if allC (l.drop i) then (acc ++ encs (l.drop i), 0) else ([], 2))
  | 0, i, acc, hm, hi, ha => by
    obtain rfl : i = l.length := by omega
    rw [List.drop_length, if_pos (by simp [allC])]
    refine Ev.step (f := fun _ => some (acc ++ encs [], 0)) (fun k => ?_) (Ev.now _)
    simp only [gessoref01_Bytes.l0]
    rw [if_neg (by omega)]
    simp [encs]
  | m + 1, i, acc, hm, hi, ha => by
    have hi' : i < l.length := by omega
    have hd := drop_at l 0 i hi'
    have hx : 0 ≤ l.getD i 0 := h0 _ (by rw [getD_lt l 0 i hi']; exact List.getElem_mem hi')
    have hw := wid_small (l.getD i 0)
    have he := enc_length (l.getD i 0)
    rw [hd, encs_cons]
    by_cases h : isC (l.getD i 0)
    · have := rbytes_loop l h0 hl m (i + 1) (acc ++ enc (l.getD i 0)) (by omega) (by omega) (by rw [List.length_append]; omega)
      rw [List.append_assoc] at this
      simp only [allC_cons, h, true_and]
      refine Ev.step (fun k => ?_) this
      simp only [gessoref01_Bytes.l0, rd_nat, is_f _ hx, put_f _ hx, Option.bind_some, decide_eq_true h, if_true]
      rw [if_pos (by omega), if_pos (by omega), if_pos (by omega), w64 (by omega) (by omega)]
      rfl
    · simp only [allC_cons, h, false_and, if_false]
      refine Ev.step (f := fun _ => some ([], 2)) (fun k => ?_) (Ev.now _)
      simp only [gessoref01_Bytes.l0, rd_nat, is_f _ hx, put_f _ hx, Option.bind_some, decide_eq_false h, Bool.false_eq_true, if_false]
      rw [if_pos (by omega), if_pos (by omega)]
theorem rbytes_ev (l : List Int) (h0 : ∀ x ∈ l, 0 ≤ x) (hl : l.length ≤ 35184372087808) : Ev (fun k => gessoref01_Bytes.f k l) (told l) := by
  have := rbytes_loop l h0 hl _ 0 [] rfl (by omega) (by simp)
  rwa [List.drop_zero, List.nil_append] at this
theorem same_loop (l : List Int) (hl : l.length < 4611686018427387904) : ∀ (m i : Nat), l.length - i = m → i ≤ l.length → Ev (fun k => gessoref01_Same.l0 k l l (i : Int)) true
  | 0, i, hm, hi => by
    refine Ev.step (f := fun _ => some true) (fun k => ?_) (Ev.now _)
    simp only [gessoref01_Same.l0]
    rw [if_neg (by omega)]
  | m + 1, i, hm, hi => by
    refine Ev.step (fun k => ?_) (same_loop l hl m (i + 1) (by omega) (by omega))
    simp only [gessoref01_Same.l0]
    rw [if_pos (by omega), if_pos (by omega), if_pos (by omega), if_pos trivial, w64 (by omega) (by omega)]
    rfl
theorem same_ev (l : List Int) (hl : l.length < 4611686018427387904) : Ev (fun k => gessoref01_Same.f k l l) true := by
  unfold gessoref01_Same.f
  simp only [if_true]
  exact same_loop l hl _ 0 rfl (by omega)
end Go.Proofs.YtjlhehaagaaihaaDoor.Pure
-- Mc
namespace Go.Proofs.YtjlhehaagaaihaaDoor.Pure
open Go.RowKit Go.Lib Go.Proofs.YtjlhehaagaaihaaDoor.P Go.Proofs.YtjlhehaagaaihaaDoorW.PrintWords Go.Proofs.YtjlhehaagaaihaaDoorW.PrintLast
set_option linter.unusedSimpArgs false

theorem b4_of {l : List Int} (h : Bytes l) : b4 l = true := by
  unfold b4
  rw [List.all_eq_true]
  intro x hx
  have := h x (List.mem_of_mem_take hx)
  simp [this]
theorem one_f {l : List Int} (h : Bytes l) : code_One.f l = some (one4 l) := by
  unfold code_One.f
  rw [if_pos (b4_of h)]

set_option maxHeartbeats 1000000 in
/-- A code point's bytes are told for it, whatever stands behind them. -/
theorem one_enc (c : Int) (h : isC c) (r : List Int) : one4 (enc c ++ r) = (c, wid c) := by
  have h' := h
  unfold isC at h'
  obtain ⟨n, rfl⟩ := Int.eq_ofNat_of_zero_le h'.1
  suffices hd : dec (enc n ++ r) = (n, (wid n).toNat) by
    unfold one4
    rw [hd]
    have := wid_small n
    have hw : wid n ≥ 1 := by
      unfold wid
      rw [if_pos h]
      repeat' split
      all_goals decide
    simp only
    rw [if_neg]
    · congr 1; omega
    · rintro ⟨e1, e2⟩
      subst e1
      simp [wid, isC] at e2
  unfold enc wid
  simp only [if_pos h]
  repeat' split
  · simp [dec, byteAt, decodeN]; omega
  · have e0 : ((192 : Int) + (n : Int) / 64).toNat = 192 + n / 64 := by omega
    have e1 : ((128 : Int) + (n : Int) % 64).toNat = 128 + n % 64 := by omega
    simp only [dec, byteAt, List.cons_append, List.nil_append, List.length_cons, List.getD_cons_zero, List.getD_cons_succ, e0, e1, decodeN]
    rw [if_neg (by omega), if_neg (by omega), if_pos (by omega), if_pos (by omega)]
    simp; omega
  · have e0 : ((224 : Int) + (n : Int) / 4096).toNat = 224 + n / 4096 := by omega
    have e1 : ((128 : Int) + (n : Int) / 64 % 64).toNat = 128 + n / 64 % 64 := by omega
    have e2 : ((128 : Int) + (n : Int) % 64).toNat = 128 + n % 64 := by omega
    simp only [dec, byteAt, List.cons_append, List.nil_append, List.length_cons, List.getD_cons_zero, List.getD_cons_succ, e0, e1, e2, decodeN]
    rw [if_neg (by omega), if_neg (by omega), if_neg (by omega), if_pos (by omega), if_pos (by omega)]
    simp; omega
  · have e0 : ((240 : Int) + (n : Int) / 262144).toNat = 240 + n / 262144 := by omega
    have e1 : ((128 : Int) + (n : Int) / 4096 % 64).toNat = 128 + n / 4096 % 64 := by omega
    have e2 : ((128 : Int) + (n : Int) / 64 % 64).toNat = 128 + n / 64 % 64 := by omega
    have e3 : ((128 : Int) + (n : Int) % 64).toNat = 128 + n % 64 := by omega
    simp only [dec, byteAt, List.cons_append, List.nil_append, List.length_cons, List.getD_cons_zero, List.getD_cons_succ, e0, e1, e2, e3, decodeN]
    rw [if_neg (by omega), if_neg (by omega), if_neg (by omega), if_neg (by omega), if_pos (by omega), if_pos (by omega)]
    simp; omega
theorem Bytes.cons {x : Int} {l : List Int} (h : Bytes (x :: l)) : ∃ n : Nat, x = (n : Int) ∧ n < 256 ∧ Bytes l := by
  have := h x (by simp)
  exact ⟨x.toNat, by omega, by omega, fun y hy => h y (by simp [hy])⟩
set_option maxHeartbeats 4000000 in
/-- What is told begins with the bytes of the code point that is told. -/
theorem one_back (l : List Int) (hb : Bytes l) (h : (one4 l).2 ≠ 0) : isC (one4 l).1 ∧ (one4 l).2 = wid (one4 l).1 ∧ l = enc (one4 l).1 ++ l.drop (one4 l).2.toNat := by
  cases l with
  | nil => simp [one4, dec] at h
  | cons a l =>
  obtain ⟨a, rfl, ha, hb⟩ := hb.cons
  have key : ∀ d : Nat × Nat, dec ((a : Int) :: l) = d → ¬ (d.1 = 65533 ∧ d.2 < 2) → isC d.1 ∧ (d.2 : Int) = wid d.1 ∧ (a : Int) :: l = enc d.1 ++ ((a : Int) :: l).drop d.2 := by
    intro d hd hn
    simp only [dec, List.length_cons, if_neg (show ¬ l.length + 1 = 0 by omega)] at hd
    have e0 : byteAt ((a : Int) :: l) 0 = a := by simp [byteAt]
    rw [e0] at hd
    match l, hb with
    | [], _ =>
      simp only [byteAt, List.getD_cons_succ, List.getD_nil, List.length_nil, decodeN] at hd
      revert hd
      repeat' split
      all_goals intro hd
      all_goals subst hd
      all_goals first | (exfalso; simp at hn; done) | (exfalso; omega) | skip
      all_goals refine ⟨by unfold isC; omega, ?_, ?_⟩
      all_goals first
        | (unfold wid; rw [if_pos (by unfold isC; omega)]; (repeat' split) <;> first | rfl | (exfalso; omega))
        | (unfold enc; rw [if_pos (by unfold isC; omega)]; (repeat' split) <;> first | (exfalso; omega) | (simp only [List.cons_append, List.nil_append, List.drop_succ_cons, List.drop_zero, List.cons.injEq, and_true]; omega) | (simp; done))
    | b :: l, hb =>
      obtain ⟨b, rfl, hb', hb⟩ := hb.cons
      have e1 : byteAt ((a : Int) :: (b : Int) :: l) 1 = b := by simp [byteAt]
      rw [e1] at hd
      match l, hb with
      | [], _ =>
        simp only [byteAt, List.getD_cons_succ, List.getD_nil, List.length_cons, List.length_nil, decodeN] at hd
        revert hd
        repeat' split
        all_goals intro hd
        all_goals subst hd
        all_goals first | (exfalso; simp at hn; done) | (exfalso; omega) | skip
        all_goals refine ⟨by unfold isC; omega, ?_, ?_⟩
        all_goals first
          | (unfold wid; rw [if_pos (by unfold isC; omega)]; (repeat' split) <;> first | rfl | (exfalso; omega))
          | (unfold enc; rw [if_pos (by unfold isC; omega)]; (repeat' split) <;> first | (exfalso; omega) | (simp only [List.cons_append, List.nil_append, List.drop_succ_cons, List.drop_zero, List.cons.injEq, and_true]; omega) | (simp; done))
      | c :: l, hb =>
        obtain ⟨c, rfl, hc', hb⟩ := hb.cons
        have e2 : byteAt ((a : Int) :: (b : Int) :: (c : Int) :: l) 2 = c := by simp [byteAt]
        rw [e2] at hd
        match l, hb with
        | [], _ =>
          simp only [byteAt, List.getD_cons_succ, List.getD_nil, List.length_cons, List.length_nil, decodeN] at hd
          revert hd
          repeat' split
          all_goals intro hd
          all_goals subst hd
          all_goals first | (exfalso; simp at hn; done) | (exfalso; omega) | skip
          all_goals refine ⟨by unfold isC; omega, ?_, ?_⟩
          all_goals first
            | (unfold wid; rw [if_pos (by unfold isC; omega)]; (repeat' split) <;> first | rfl | (exfalso; omega))
            | (unfold enc; rw [if_pos (by unfold isC; omega)]; (repeat' split) <;> first | (exfalso; omega) | (simp only [List.cons_append, List.nil_append, List.drop_succ_cons, List.drop_zero, List.cons.injEq, and_true]; omega) | (simp; done))
        | e :: l, hb =>
          obtain ⟨e, rfl, he', hb⟩ := hb.cons
          have e3 : byteAt ((a : Int) :: (b : Int) :: (c : Int) :: (e : Int) :: l) 3 = e := by simp [byteAt]
          rw [e3] at hd
          simp only [List.length_cons, decodeN] at hd
          revert hd
          repeat' split
          all_goals intro hd
          all_goals subst hd
          all_goals first | (exfalso; simp at hn; done) | (exfalso; omega) | skip
          all_goals refine ⟨by unfold isC; omega, ?_, ?_⟩
          all_goals first
            | (unfold wid; rw [if_pos (by unfold isC; omega)]; (repeat' split) <;> first | rfl | (exfalso; omega))
            | (unfold enc; rw [if_pos (by unfold isC; omega)]; (repeat' split) <;> first | (exfalso; omega) | (simp only [List.cons_append, List.nil_append, List.drop_succ_cons, List.drop_zero, List.cons.injEq, and_true]; omega) | (simp; done))
  unfold one4 at h ⊢
  by_cases hn : (dec ((a : Int) :: l)).1 = 65533 ∧ (dec ((a : Int) :: l)).2 < 2
  · rw [if_pos hn] at h; exact absurd rfl h
  · rw [if_neg hn]
    simpa using key _ rfl hn
end Go.Proofs.YtjlhehaagaaihaaDoor.Pure
-- Md
namespace Go.Proofs.YtjlhehaagaaihaaDoor.Pure
open Go.RowKit Go.Proofs.YtjlhehaagaaihaaDoor.P Go.Proofs.YtjlhehaagaaihaaDoorW.PrintWords Go.Proofs.YtjlhehaagaaihaaDoorW.PrintLast
set_option linter.unusedSimpArgs false

/-- What the bytes behind the first make of it. -/
def numr : Int → List Int → Int × Bool
  | c, [] => (c, true)
  | c, b :: r => if b < 128 then (0, false) else if b > 191 then (0, false) else numr ((((64 * c) % 4294967296) + ((b - 128) % 256)) % 4294967296) r
theorem numr_bounds : ∀ (l : List Int) (c : Int), 0 ≤ c → c < 4294967296 → 0 ≤ (numr c l).1 ∧ (numr c l).1 < 4294967296
  | [], c, h0, h1 => ⟨h0, h1⟩
  | b :: r, c, h0, h1 => by
    unfold numr
    split
    · exact ⟨by decide, by decide⟩
    · split
      · exact ⟨by decide, by decide⟩
      · exact numr_bounds r _ (by omega) (by omega)
def start (x : Int) (n : Nat) : Int := if n = 2 then (x % 4294967296 - 192) % 4294967296 else if n = 3 then (x % 4294967296 - 224) % 4294967296 else if n = 4 then (x % 4294967296 - 240) % 4294967296 else x % 4294967296
theorem start_bounds (x : Int) (n : Nat) : 0 ≤ start x n ∧ start x n < 4294967296 := by
  unfold start
  repeat' split
  all_goals omega
def num (l : List Int) (n : Nat) : Int × Bool := numr (start (l.getD 0 0) n) ((l.take n).drop 1)

theorem number_loop (l : List Int) (n : Nat) (hn : n ≤ l.length) (hl : l.length < 4611686018427387904) : ∀ (m i : Nat) (c : Int), n - i = m → i ≤ n → Ev (fun k => gessoref01_number.l0 k l (n : Int) c (i : Int)) (numr c ((l.take n).drop i))
  | 0, i, c, hm, hi => by
    obtain rfl : i = n := by omega
    rw [List.drop_of_length_le (by rw [List.length_take]; omega)]
    refine Ev.step (f := fun _ => some (c, true)) (fun k => ?_) (Ev.now _)
    simp only [gessoref01_number.l0]
    rw [if_neg (by omega)]
  | m + 1, i, c, hm, hi => by
    have hi' : i < (l.take n).length := by rw [List.length_take]; omega
    have hin : i < n := by omega
    have e : (l.take n).getD i 0 = l.getD i 0 := by simp [List.getD, List.getElem?_take, hin]
    rw [drop_at (l.take n) 0 i hi', e]
    unfold numr
    by_cases h1 : l.getD i 0 < 128
    · rw [if_pos h1]
      refine Ev.step (f := fun _ => some (0, false)) (fun k => ?_) (Ev.now _)
      simp only [gessoref01_number.l0, rd_nat]
      rw [if_pos (by omega), if_pos (by omega), if_pos (by omega), if_pos h1]
    · rw [if_neg h1]
      by_cases h2 : l.getD i 0 > 191
      · rw [if_pos h2]
        refine Ev.step (f := fun _ => some (0, false)) (fun k => ?_) (Ev.now _)
        simp only [gessoref01_number.l0, rd_nat]
        rw [if_pos (by omega), if_pos (by omega), if_pos (by omega), if_neg h1, if_pos h2]
      · rw [if_neg h2]
        refine Ev.step (fun k => ?_) (number_loop l n hn hl m (i + 1) _ (by omega) (by omega))
        simp only [gessoref01_number.l0, rd_nat]
        rw [if_pos (by omega), if_pos (by omega), if_pos (by omega), if_neg h1, if_neg h2, w64 (by omega) (by omega)]
        rfl
theorem number_ev (l : List Int) (n : Nat) (h1 : 1 ≤ n) (hn : n ≤ l.length) (hl : l.length < 4611686018427387904) : Ev (fun k => gessoref01_number.f k l (n : Int)) (num l n) := by
  have e : ∀ c, Ev (fun k => gessoref01_number.j0 k l (n : Int) c) (numr c ((l.take n).drop 1)) := fun c => Ev.step (fun k => by simp only [gessoref01_number.j0]; rfl) (number_loop l n hn hl _ 1 c rfl h1)
  unfold gessoref01_number.f num start
  have e0 : rd l 0 = l.getD 0 0 := by simp [rd]
  rw [e0]
  simp only [if_pos (show 0 < (l.length : Int) by omega)]
  by_cases h2 : n = 2
  · subst h2; exact e _
  · simp only [if_neg h2, if_neg (show ¬ ((n : Int) = 2) by omega)]
    by_cases h3 : n = 3
    · subst h3; exact e _
    · simp only [if_neg h3, if_neg (show ¬ ((n : Int) = 3) by omega)]
      by_cases h4 : n = 4
      · subst h4; exact e _
      · simp only [if_neg h4, if_neg (show ¬ ((n : Int) = 4) by omega)]
        exact e _
/-- Of a code point's own bytes the number is the code point. -/
theorem num_enc (c : Int) (h : isC c) (l : List Int) (n : Nat) (hn : (n : Int) = wid c) (ht : l.take n = enc c) : num l n = (c, true) := by
  have h' := h
  unfold isC at h'
  have hp : 0 < n := by
    have : wid c ≥ 1 := by
      unfold wid
      rw [if_pos h]
      repeat' split
      all_goals decide
    omega
  have e0 : l.getD 0 0 = (enc c).getD 0 0 := by rw [← ht]; simp [List.getD, List.getElem?_take, hp]
  unfold num
  rw [e0, ht]
  unfold wid at hn
  unfold enc
  simp only [if_pos h] at hn ⊢
  by_cases h1 : c < 128
  · rw [if_pos h1] at hn ⊢
    obtain rfl : n = 1 := by omega
    simp [start, numr]; omega
  · rw [if_neg h1] at hn ⊢
    by_cases h2 : c < 2048
    · rw [if_pos h2] at hn ⊢
      obtain rfl : n = 2 := by omega
      simp only [start, numr, List.getD_cons_zero, List.drop_succ_cons, List.drop_zero, if_true]
      rw [if_neg (by omega), if_neg (by omega)]
      congr 1; omega
    · rw [if_neg h2] at hn ⊢
      by_cases h3 : c < 65536
      · rw [if_pos h3] at hn ⊢
        obtain rfl : n = 3 := by omega
        simp only [start, numr, List.getD_cons_zero, List.drop_succ_cons, List.drop_zero, if_true]
        rw [if_neg (by omega), if_neg (by omega), if_neg (by omega), if_neg (by omega), if_neg (by omega)]
        congr 1; omega
      · rw [if_neg h3] at hn ⊢
        obtain rfl : n = 4 := by omega
        simp only [start, numr, List.getD_cons_zero, List.drop_succ_cons, List.drop_zero, if_true]
        rw [if_neg (by omega), if_neg (by omega), if_neg (by omega), if_neg (by omega), if_neg (by omega), if_neg (by omega), if_neg (by omega), if_neg (by omega)]
        congr 1; omega
theorem wid_pos (c : Int) (h : isC c) : 1 ≤ wid c := by
  unfold wid
  rw [if_pos h]
  repeat' split
  all_goals decide
theorem wid_isC (c : Int) (h : wid c ≠ 0) : isC c := Classical.byContradiction fun hn => h (by unfold wid; rw [if_neg hn])
theorem one_none (l : List Int) (hb : Bytes l) (hno : ∀ c, isC c → ∀ r, l ≠ enc c ++ r) : one4 l = (0, 0) := by
  by_cases h : (one4 l).2 = 0
  · unfold one4 at h ⊢
    split at h
    · rw [if_pos ‹_›]
    · rename_i hn
      simp only at h
      have hd : (dec l).2 = 0 := by omega
      have : (dec l).1 = 65533 := by
        revert hd
        unfold dec Lib.decodeN
        repeat' split
        all_goals simp
      exact absurd ⟨this, by omega⟩ hn
  · obtain ⟨hc, hw, he⟩ := one_back l hb h
    exact absurd he (hno _ hc _)
theorem ref_one_loop (l : List Int) (hb : Bytes l) (hl : l.length < 4611686018427387904) : ∀ (m i : Nat), 5 - i = m → 1 ≤ i → i ≤ 5 → (∀ c, isC c → wid c < i → ∀ r, l ≠ enc c ++ r) →
    Ev (fun k => gessoref01_One.l0 k l (i : Int)) (one4 l) := by
  intro m
  induction m with
  | zero =>
    intro i hm h1 h5 hno
    obtain rfl : i = 5 := by omega
    have hz : one4 l = (0, 0) := one_none l hb fun c hc r he => hno c hc (by have := wid_small c; omega) r he
    rw [hz]
    refine Ev.step (f := fun k => gessoref01_One.j1 k l ((5 : Nat) : Int) false) (fun k => ?_) (Ev.step (f := fun _ => some (0, 0)) (fun k => ?_) (Ev.now _))
    · simp only [gessoref01_One.l0]; rw [if_neg (by omega)]
    · simp only [gessoref01_One.j1, Bool.false_eq_true, if_false]
  | succ m ih =>
    intro i hm h1 h5 hno
    refine Ev.step (f := fun k => gessoref01_One.j1 k l (i : Int) (decide ((i : Int) ≤ (l.length : Int)))) (fun k => ?_) ?_
    · simp only [gessoref01_One.l0]; rw [if_pos (by omega)]
    by_cases hi : i ≤ l.length
    · rw [decide_eq_true (show (i : Int) ≤ (l.length : Int) by omega)]
      refine Ev.step (fun k => by simp only [gessoref01_One.j1, if_true]; rfl) ?_
      refine Ev.bind (number_ev l i h1 hi hl) ?_
      have hbd : 0 ≤ (num l i).1 ∧ (num l i).1 < 4294967296 := numr_bounds ((l.take i).drop 1) (start (l.getD 0 0) i) (start_bounds _ _).1 (start_bounds _ _).2
      have next : (∀ c, isC c → wid c = i → ∀ r, l ≠ enc c ++ r) → Ev (fun k => gessoref01_One.l0 k l (wrap64 ((i : Int) + 1))) (one4 l) := fun hn => by
        rw [w64 (by omega) (by omega)]
        refine ih (i + 1) (by omega) (by omega) (by omega) (fun c hc hw r => ?_)
        by_cases hwi : wid c = i
        · exact hn c hc hwi r
        · exact hno c hc (by omega) r
      have pass : ∀ c, isC c → wid c = i → ∀ r, l = enc c ++ r → num l i = (c, true) ∧ l.take i = enc c := fun c hc hw r he => by
        have ht : l.take i = enc c := by
          have := enc_length c
          rw [he, List.take_append_of_le_length (by omega), List.take_of_length_le (by omega)]
        exact ⟨num_enc c hc l i hw.symm ht, ht⟩
      by_cases h2 : (num l i).2 = true
      · simp only [if_pos h2, wid_f _ hbd.1, put_f _ hbd.1, Option.bind_some, if_pos (show 0 ≤ (i : Int) by omega), if_pos (show (i : Int) ≤ (l.length : Int) by omega), Int.toNat_natCast, str_inj (enc_bytes _) (hb.take i)]
        by_cases hw : wid (num l i).1 = (i : Int)
        · by_cases ht : enc (num l i).1 = l.take i
          · simp only [if_pos hw, if_pos ht]
            have e : l = enc (num l i).1 ++ l.drop i := by rw [ht, List.take_append_drop]
            have := one_enc (num l i).1 (wid_isC _ (by omega)) (l.drop i)
            rw [← e, hw] at this
            rw [this]
            exact Ev.now _
          · simp only [if_pos hw, if_neg ht]
            exact next fun c hc hwc r he => ht (by have hp := pass c hc hwc r he; rw [hp.1]; exact hp.2.symm)
        · simp only [if_neg hw]
          exact next fun c hc hwc r he => hw (by have hp := pass c hc hwc r he; rw [hp.1]; exact hwc)
      · simp only [if_neg h2]
        exact next (fun c hc hw r he => h2 (by rw [(pass c hc hw r he).1]))
    · rw [decide_eq_false (show ¬ (i : Int) ≤ (l.length : Int) by omega)]
      have hz : one4 l = (0, 0) := one_none l hb fun c hc r he => hno c hc (by have := enc_length c; have := congrArg List.length he; rw [List.length_append] at this; omega) r he
      rw [hz]
      refine Ev.step (f := fun _ => some (0, 0)) (fun k => ?_) (Ev.now _)
      simp only [gessoref01_One.j1, Bool.false_eq_true, if_false]
/-- The document's first code point is the program's. -/
theorem ref_one (l : List Int) (hb : Bytes l) (hl : l.length < 4611686018427387904) : Ev (fun k => gessoref01_One.f k l) (one4 l) :=
  ref_one_loop l hb hl _ 1 rfl (by omega) (by omega) fun c hc hw => absurd (wid_pos c hc) (by omega)

/-- Bytes are code points, and behind them nothing, or what is no code point's beginning. -/
theorem parts : ∀ (n : Nat) (l : List Int), l.length ≤ n → Bytes l → ∃ cs r, allC cs ∧ l = encs cs ++ r ∧ (r = [] ∨ (r ≠ [] ∧ one4 r = (0, 0)))
  | n, [], _, _ => ⟨[], [], by simp [allC], by simp [encs], .inl rfl⟩
  | 0, x :: l, h, _ => by simp at h
  | n + 1, x :: l, h, hb => by
    by_cases hz : one4 (x :: l) = (0, 0)
    · exact ⟨[], x :: l, by simp [allC], by simp [encs], .inr ⟨by simp, hz⟩⟩
    · have h2 : (one4 (x :: l)).2 ≠ 0 := fun e => by
        have hn : ∀ c, isC c → ∀ r, x :: l ≠ enc c ++ r := fun c hc r he => by
          have := one_enc c hc r
          rw [← he] at this
          rw [this] at e
          exact absurd (wid_pos c hc) (by simp only at e; omega)
        exact hz (one_none _ hb hn)
      obtain ⟨hc, hw, he⟩ := one_back _ hb h2
      have hp := wid_pos _ hc
      obtain ⟨cs, r, h1, h3, h4⟩ := parts n ((x :: l).drop (one4 (x :: l)).2.toNat) (by rw [List.length_drop]; simp at h ⊢; omega) (hb.drop _)
      refine ⟨(one4 (x :: l)).1 :: cs, r, (allC_cons _ _).2 ⟨hc, h1⟩, ?_, h4⟩
      rw [encs_cons, List.append_assoc, ← h3]
      exact he
/-- Where bytes are not right. -/
def flt (cs r : List Int) : Int := if r = [] then -1 else ((encs cs).length : Int)
theorem fault_loop (g : Nat → List Int → Int → Option Int) (one : Nat → List Int → Option (Int × Int)) (l : List Int) (hb : Bytes l) (hl : l.length < 4611686018427387904)
    (hone : ∀ l', Bytes l' → l'.length < 4611686018427387904 → Ev (fun k => one k l') (one4 l'))
    (hg : ∀ k at_, g (k + 1) l at_ = if at_ < (l.length : Int) then (if 0 ≤ at_ then (if at_ ≤ (l.length : Int) then ((one k (l.drop at_.toNat)).bind fun b => (if b.2 = 0 then (some at_) else (g k l (wrap64 (at_ + b.2))))) else none) else none) else some (-1)) :
    ∀ (cs r : List Int) (i : Nat), i ≤ l.length → allC cs → l.drop i = encs cs ++ r → (r = [] ∨ (r ≠ [] ∧ one4 r = (0, 0))) → Ev (fun k => g k l (i : Int)) (if r = [] then -1 else (i : Int) + (encs cs).length)
  | [], r, i, hi, hc, he, hr => by
    have hlen := congrArg List.length he
    rw [List.length_drop] at hlen
    simp only [encs, List.flatMap_nil, List.nil_append] at he hlen
    rcases hr with rfl | ⟨hr, h1⟩
    · rw [if_pos rfl]
      refine Ev.step (f := fun _ => some (-1)) (fun k => ?_) (Ev.now _)
      simp at hlen
      rw [hg, if_neg (by omega)]
    · rw [if_neg hr]
      have hpos : 0 < r.length := by cases r <;> simp_all
      refine Ev.step (fun k => by rw [hg, if_pos (by omega), if_pos (by omega), if_pos (by omega), Int.toNat_natCast, he]) ?_
      refine Ev.bind (hone r (by rw [← he]; exact hb.drop i) (by omega)) ?_
      rw [h1]
      simp only [if_true, encs, List.flatMap_nil, List.length_nil, Int.natCast_zero, Int.add_zero]
      exact Ev.now _
  | c :: cs, r, i, hi, hc, he, hr => by
    obtain ⟨hc1, hc2⟩ := (allC_cons c cs).1 hc
    rw [encs_cons, List.append_assoc] at he
    have hlen := congrArg List.length he
    rw [List.length_drop, List.length_append] at hlen
    have hw := enc_length c
    have hp := wid_pos c hc1
    refine Ev.step (fun k => by rw [hg, if_pos (by omega), if_pos (by omega), if_pos (by omega), Int.toNat_natCast]) ?_
    refine Ev.bind (hone (l.drop i) (hb.drop i) (by rw [List.length_drop]; omega)) ?_
    rw [he, one_enc c hc1]
    simp only [if_neg (show ¬ wid c = 0 by omega)]
    rw [w64 (by omega) (by omega), ← hw]
    have hd : l.drop (i + (enc c).length) = encs cs ++ r := by rw [← List.drop_drop, he, List.drop_left]
    have := fault_loop g one l hb hl hone hg cs r (i + (enc c).length) (by omega) hc2 hd hr
    rw [encs_cons, List.length_append]
    have e : (i : Int) + ((enc c).length + (encs cs).length : Nat) = ((i + (enc c).length : Nat) : Int) + (encs cs).length := by omega
    rw [e]
    exact this
theorem cfault_ev (cs r : List Int) (hc : allC cs) (hr : r = [] ∨ (r ≠ [] ∧ one4 r = (0, 0))) (hb : Bytes (encs cs ++ r)) (hl : (encs cs ++ r).length < 4611686018427387904) : Ev (fun k => code_Fault.f k (encs cs ++ r)) (flt cs r) := by
  have := fault_loop code_Fault.l0 (fun _ l => code_One.f l) (encs cs ++ r) hb hl (fun l' h' _ => by simp only [one_f h']; exact Ev.now _) (fun k a => by simp only [code_Fault.l0]) cs r 0 (by omega) hc rfl hr
  simpa [flt, code_Fault.f] using this
theorem rfault_ev (cs r : List Int) (hc : allC cs) (hr : r = [] ∨ (r ≠ [] ∧ one4 r = (0, 0))) (hb : Bytes (encs cs ++ r)) (hl : (encs cs ++ r).length < 4611686018427387904) : Ev (fun k => gessoref01_Fault.f k (encs cs ++ r)) (flt cs r) := by
  have := fault_loop gessoref01_Fault.l0 gessoref01_One.f (encs cs ++ r) hb hl (fun l' h' hl' => ref_one l' h' hl') (fun k a => by simp only [gessoref01_Fault.l0]) cs r 0 (by omega) hc rfl hr
  simpa [flt, gessoref01_Fault.f] using this
end Go.Proofs.YtjlhehaagaaihaaDoor.Pure
