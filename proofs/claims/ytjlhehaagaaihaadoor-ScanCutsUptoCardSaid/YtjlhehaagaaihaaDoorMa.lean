/- Plain facts on code points: how wide one is, and its bytes. No condition. -/
import Derived.Test.YtjlhehaagaaihaaDoorPx11
import Derived.Test.YtjlhehaagaaihaaDoorPx3
import Derived.Test.YtjlhehaagaaihaaDoorPx6
import Derived.Test.YtjlhehaagaaihaaDoorPx2
import Derived.Test.YtjlhehaagaaihaaDoorPx14
import Derived.Test.YtjlhehaagaaihaaDoorPx2
import Derived.OpenShut
namespace Go.Proofs.YtjlhehaagaaihaaDoor.Pure
open Go.RowKit Go.Proofs.YtjlhehaagaaihaaDoor.P Go.Proofs.YtjlhehaagaaihaaDoorW.PrintWords Go.Proofs.YtjlhehaagaaihaaDoorW.PrintLast

theorem w64 {i : Int} (h0 : -9223372036854775808 ≤ i) (h1 : i ≤ 9223372036854775807) : wrap64 i = i := by unfold wrap64; omega
theorem w32 {i : Int} (h0 : 0 ≤ i) (h1 : i ≤ 1114111) : wrap32 i = i := by unfold wrap32; omega
theorem rd_nat (xs : List Int) (i : Nat) : rd xs (i : Int) = xs.getD i 0 := by simp [rd]
theorem getD_lt {α : Type} (xs : List α) (z : α) (i : Nat) (h : i < xs.length) : xs.getD i z = xs[i] := by simp [List.getD_eq_getElem?_getD, h]
theorem drop_at {α : Type} (l : List α) (z : α) (i : Nat) (h : i < l.length) : l.drop i = l.getD i z :: l.drop (i + 1) := by
  rw [getD_lt l z i h]; exact List.drop_eq_getElem_cons h

/-- All bytes. -/
def Bytes (l : List Int) : Prop := ∀ x ∈ l, 0 ≤ x ∧ x < 256
theorem Bytes.of (l : List Int) (h : ∀ x ∈ l, (Lit.int .u8 x).wf = true) : Bytes l := fun x hx => by have := bounds_u8 (h x hx); omega
theorem Bytes.drop {l : List Int} (h : Bytes l) (n : Nat) : Bytes (l.drop n) := fun x hx => h x (List.mem_of_mem_drop hx)
theorem Bytes.take {l : List Int} (h : Bytes l) (n : Nat) : Bytes (l.take n) := fun x hx => h x (List.mem_of_mem_take hx)
theorem Bytes.append {l r : List Int} (h : Bytes l) (k : Bytes r) : Bytes (l ++ r) := fun x hx => (List.mem_append.1 hx).elim (h x) (k x)
theorem Bytes.at {l : List Int} (h : Bytes l) (i : Nat) : 0 ≤ l.getD i 0 ∧ l.getD i 0 < 256 := by
  by_cases hi : i < l.length
  · rw [getD_lt l 0 _ hi]; exact h _ (List.getElem_mem hi)
  · rw [List.getD_eq_getElem?_getD, List.getElem?_eq_none (by omega)]; decide
theorem u8_inj {x y : Int} (hx : 0 ≤ x ∧ x < 256) (hy : 0 ≤ y ∧ y < 256) (h : UInt8.ofNat x.toNat = UInt8.ofNat y.toNat) : x = y := by
  have := congrArg UInt8.toNat h
  rw [UInt8.toNat_ofNat', UInt8.toNat_ofNat'] at this
  omega
theorem map_inj : ∀ {a b : List Int}, Bytes a → Bytes b → a.map (fun n => UInt8.ofNat n.toNat) = b.map (fun n => UInt8.ofNat n.toNat) → a = b := by
  intro a
  induction a with
  | nil => intro b _ _ h; cases b with
    | nil => rfl
    | cons y b => cases h
  | cons x a ih =>
    intro b ha hb h
    cases b with
    | nil => cases h
    | cons y b =>
      simp only [List.map_cons, List.cons.injEq] at h
      rw [u8_inj (ha x (by simp)) (hb y (by simp)) h.1, ih (fun z hz => ha z (by simp [hz])) (fun z hz => hb z (by simp [hz])) h.2]
theorem toList_str (a : List Int) : (strOfNums a).toList = a.map (fun n => UInt8.ofNat n.toNat) := by
  rw [ByteArray.toList_eq]; rfl
theorem str_inj {a b : List Int} (ha : Bytes a) (hb : Bytes b) : (strOfNums a).toList = (strOfNums b).toList ↔ a = b :=
  ⟨fun h => map_inj ha hb (by rw [← toList_str, ← toList_str]; exact h), fun h => by rw [h]⟩

/-- A code point. -/
def isC (c : Int) : Prop := 0 ≤ c ∧ c ≤ 1114111 ∧ (c < 55296 ∨ 57343 < c)
instance (c : Int) : Decidable (isC c) := inferInstanceAs (Decidable (_ ∧ _ ∧ (_ ∨ _)))
/-- How many bytes it has. -/
def wid (c : Int) : Int := if isC c then (if c < 128 then 1 else if c < 2048 then 2 else if c < 65536 then 3 else 4) else 0
/-- Its bytes. -/
def enc (c : Int) : List Int :=
  if isC c then (if c < 128 then [c] else if c < 2048 then [192 + c / 64, 128 + c % 64] else if c < 65536 then [224 + c / 4096, 128 + c / 64 % 64, 128 + c % 64] else [240 + c / 262144, 128 + c / 4096 % 64, 128 + c / 64 % 64, 128 + c % 64]) else []
theorem wid_small (c : Int) : 0 ≤ wid c ∧ wid c ≤ 4 := by 
  unfold wid
  repeat' split
  all_goals (constructor <;> decide)
theorem enc_length (c : Int) : ((enc c).length : Int) = wid c := by
  unfold enc wid
  repeat' split
  all_goals rfl
theorem enc_bytes (c : Int) : Bytes (enc c) := by
  unfold enc
  split
  · rename_i h
    unfold isC at h
    repeat' split
    all_goals (intro x hx; simp at hx; omega)
  · intro x hx; simp at hx

theorem is_f (c : Int) (h0 : 0 ≤ c) : gessoref01_Is.f c = some (decide (isC c)) := by
  unfold gessoref01_Is.f
  by_cases h : isC c
  · have h' := h
    unfold isC at h'
    rw [decide_eq_true h]
    repeat' split
    all_goals first | rfl | (exfalso; omega) | (congr 1; exact decide_eq_true (by omega))
  · have h' := h
    unfold isC at h'
    rw [decide_eq_false h]
    repeat' split
    all_goals first | rfl | (exfalso; omega) | (congr 1; exact decide_eq_false (by omega))
theorem wid_f (c : Int) (h0 : 0 ≤ c) : gessoref01_Width.f c = some (wid c) := by
  unfold gessoref01_Width.f
  rw [is_f c h0]
  unfold wid
  by_cases h : isC c
  · simp only [Option.bind_some, decide_eq_true h, if_pos h, if_true]
    repeat' split
    all_goals rfl
  · simp [h]
theorem put_f (c : Int) (h0 : 0 ≤ c) : gessoref01_Put.f c = some (enc c) := by
  unfold gessoref01_Put.f
  rw [wid_f c h0, Option.bind_some]
  simp only [Int.tdiv_eq_ediv_of_nonneg h0, Int.tmod_eq_emod_of_nonneg h0]
  unfold wid enc
  by_cases h : isC c
  · have h' := h
    unfold isC at h'
    simp only [if_pos h]
    repeat' split
    all_goals first | (exfalso; omega) | (simp only [Option.some.injEq, List.cons.injEq, and_true]; omega)
  · simp [h]

set_option maxRecDepth 100000 in
theorem or192 : ∀ y : Fin 64, Go.bits .or .u8 192 ((y.val : Nat) : Int) = 192 + ((y.val : Nat) : Int) := by decide
set_option maxRecDepth 100000 in
theorem or224 : ∀ y : Fin 32, Go.bits .or .u8 224 ((y.val : Nat) : Int) = 224 + ((y.val : Nat) : Int) := by decide
set_option maxRecDepth 100000 in
theorem or240 : ∀ y : Fin 16, Go.bits .or .u8 240 ((y.val : Nat) : Int) = 240 + ((y.val : Nat) : Int) := by decide
theorem or192' {y : Int} (h0 : 0 ≤ y) (h1 : y < 64) : Go.bits .or .u8 192 y = 192 + y := by
  obtain ⟨n, rfl⟩ := Int.eq_ofNat_of_zero_le h0; exact or192 ⟨n, by omega⟩
theorem or224' {y : Int} (h0 : 0 ≤ y) (h1 : y < 32) : Go.bits .or .u8 224 y = 224 + y := by
  obtain ⟨n, rfl⟩ := Int.eq_ofNat_of_zero_le h0; exact or224 ⟨n, by omega⟩
theorem or240' {y : Int} (h0 : 0 ≤ y) (h1 : y < 16) : Go.bits .or .u8 240 y = 240 + y := by
  obtain ⟨n, rfl⟩ := Int.eq_ofNat_of_zero_le h0; exact or240 ⟨n, by omega⟩

theorem valid_ev (c : Int) (h0 : 0 ≤ c) : Ev (fun k => utf8_ValidRune.f k c) (decide (isC c)) := by
  refine Ev.step (f := fun _ => some (decide (isC c))) (fun k => ?_) (Ev.now _)
  simp only [utf8_ValidRune.f, utf8_ValidRune.j0, decide_eq_true_eq, if_pos h0]
  by_cases h : isC c
  · have h' := h
    unfold isC at h'
    rw [decide_eq_true h]
    repeat' split
    all_goals first | rfl | (exfalso; omega)
  · have h' := h
    unfold isC at h'
    rw [decide_eq_false h]
    repeat' split
    all_goals first | rfl | (exfalso; omega)
theorem point_ev (c : Int) (h0 : 0 ≤ c) : Ev (fun k => code_point.f k c) (if c > 1114111 then 0 else c, decide (isC c)) := by
  unfold code_point.f
  by_cases h : c > 1114111
  · simp only [if_pos h, decide_eq_false (show ¬ isC c by unfold isC; omega)]
    exact Ev.now _
  · simp only [if_neg h, w32 h0 (show c ≤ 1114111 by omega)]
    exact Ev.bind (valid_ev c h0) (Ev.now _)
theorem width_ev (c : Int) (h0 : 0 ≤ c) : Ev (fun k => code_Width.f k c) (wid c) := by
  unfold code_Width.f
  refine Ev.bind (point_ev c h0) ?_
  by_cases h : isC c
  · have h' := h
    unfold isC at h'
    simp only [decide_eq_true h, if_true, if_neg (show ¬ c > 1114111 by omega)]
    refine Ev.bind (a := wid c) ?_ (Ev.now _)
    refine Ev.step (f := fun _ => some (wid c)) (fun k => ?_) (Ev.now _)
    simp only [utf8_RuneLen.f, utf8_RuneLen.j0, decide_eq_true_eq, Bool.false_eq_true, if_false, wid, if_pos h]
    repeat' split
    all_goals first | rfl | (exfalso; omega)
  · simp only [decide_eq_false h, wid, if_neg h]
    exact Ev.now _
theorem append_ev (acc : List Int) (c : Int) (h : isC c) (hl : acc.length + 4 < 140737488355328) : Ev (fun k => utf8_AppendRune.f k acc c) (acc ++ enc c) := by
  have h' := h
  unfold isC at h'
  have e0 : c % 4294967296 = c := by omega
  refine Ev.step (f := fun _ => some (acc ++ enc c)) (fun k => ?_) (Ev.now _)
  simp only [utf8_AppendRune.f, utf8_appendRuneNonASCII.f, utf8_appendRuneNonASCII.j0, e0, decide_eq_true_eq, Option.bind_some, enc, if_pos h, List.length_cons, List.length_nil]
  repeat' split
  all_goals first | (exfalso; omega) | skip
  all_goals first
    | rfl
    | (rw [or192' (by omega) (by omega)]; simp only [Option.bind_some, Option.some.injEq, List.append_cancel_left_eq, List.cons.injEq, and_true]; omega)
    | (rw [or224' (by omega) (by omega)]; simp only [Option.bind_some, Option.some.injEq, List.append_cancel_left_eq, List.cons.injEq, and_true]; omega)
    | (rw [or240' (by omega) (by omega)]; simp only [Option.bind_some, Option.some.injEq, List.append_cancel_left_eq, List.cons.injEq, and_true]; omega)
    | (simp only [Option.some.injEq, List.append_cancel_left_eq, List.cons.injEq, and_true]; omega)
theorem cput_ev (c : Int) (h0 : 0 ≤ c) : Ev (fun k => code_Put.f k c) (enc c, if isC c then 0 else 2) := by
  unfold code_Put.f
  refine Ev.bind (point_ev c h0) ?_
  by_cases h : isC c
  · have h' := h
    unfold isC at h'
    simp only [decide_eq_true h, if_true, if_neg (show ¬ c > 1114111 by omega), if_pos h]
    refine Ev.bind (a := enc c) ?_ (Ev.now _)
    have := append_ev [] c h (by simp)
    rwa [List.nil_append] at this
  · simp only [decide_eq_false h, enc, if_neg h]
    exact Ev.now _
end Go.Proofs.YtjlhehaagaaihaaDoor.Pure
