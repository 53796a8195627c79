/- Plain facts on packing: what Pack, Unpack, Num, Number and their fellows come to, as functions of lists. No condition. -/
import Derived.Test.YtejbkjbldmaodaaPx1
import Derived.Test.YtejbkjbldmaodaaEd
import Derived.Test.YtejbkjbldmaodaaPx11
import Derived.Test.YtejbkjbldmaodaaPx12
import Derived.Test.YtejbkjbldmaodaaPx2
import Derived.OpenShut
namespace Go.Proofs.Ytejbkjbldmaodaa.Pure
open Go.RowKit Go.Proofs.Ytejbkjbldmaodaa.P Go.Proofs.YtejbkjbldmaodaaW.PrintWords Go.Proofs.YtejbkjbldmaodaaW.PrintLast

theorem w64 {i : Int} (h0 : -9223372036854775808 ≤ i) (h1 : i ≤ 9223372036854775807) : wrap64 i = i := by unfold wrap64; omega
theorem rd_nat (xs : List Int) (i : Nat) : rd xs (i : Int) = xs.getD i 0 := by simp [rd]
theorem rd1_nat (xs : List (List Int)) (i : Nat) : rd_L1 xs (i : Int) = xs.getD i [] := by simp [rd_L1]
theorem getD_lt {α : Type} (xs : List α) (z : α) (i : Nat) (h : i < xs.length) : xs.getD i z = xs[i] := by simp [List.getD_eq_getElem?_getD, h]

theorem wrap_u64 (n : Int) : IntKind.u64.wrap n = n % 18446744073709551616 := by simp [IntKind.wrap, IntKind.bits, IntKind.signed]
theorem p62 : (2 : Int) ^ 62 = 4611686018427387904 := by decide
theorem p64 : (2 : Int) ^ 64 = 18446744073709551616 := by decide
theorem p8 : (2 : Int) ^ 8 = 256 := by decide
theorem or_i64 (x y : Int) (h0 : 0 ≤ x) (h1 : x < 4611686018427387904) (hm : x % 256 = 0) (h2 : 0 ≤ y) (h3 : y < 256) : Go.bits .or .i64 x y = x + y := by
  refine bits_join .i64 62 (by decide) (fun n h0 h1 => ?_) 8 x y h0 ?_ ?_ h2 ?_ ?_
  · rw [p62] at h1; rw [IntKind.wrap_i64]; omega
  · rw [p8]; exact hm
  · rw [p62]; exact h1
  · rw [p8]; exact h3
  · rw [p62]; omega
theorem or_u64 (x y : Int) (h0 : 0 ≤ x) (h1 : x < 18446744073709551616) (hm : x % 256 = 0) (h2 : 0 ≤ y) (h3 : y < 256) : Go.bits .or .u64 x y = x + y := by
  refine bits_join .u64 64 (by decide) (fun n h0 h1 => ?_) 8 x y h0 ?_ ?_ h2 ?_ ?_
  · rw [p64] at h1; rw [wrap_u64]; omega
  · rw [p8]; exact hm
  · rw [p64]; exact h1
  · rw [p8]; exact h3
  · rw [p64]; omega

/-- All bytes. -/
def Bytes (l : List Int) : Prop := ∀ x ∈ l, 0 ≤ x ∧ x < 256
theorem Bytes.of (l : List Int) (h : ∀ x ∈ l, (Lit.int .u8 x).wf = true) : Bytes l := fun x hx => by have := bounds_u8 (h x hx); omega
theorem Bytes.drop {l : List Int} (h : Bytes l) (n : Nat) : Bytes (l.drop n) := fun x hx => h x (List.mem_of_mem_drop hx)
theorem Bytes.take {l : List Int} (h : Bytes l) (n : Nat) : Bytes (l.take n) := fun x hx => h x (List.mem_of_mem_take hx)
theorem Bytes.append {l r : List Int} (h : Bytes l) (k : Bytes r) : Bytes (l ++ r) := fun x hx => (List.mem_append.1 hx).elim (h x) (k x)
theorem Bytes.at {l : List Int} (h : Bytes l) (i : Int) : 0 ≤ rd l i ∧ rd l i < 256 := by
  unfold rd
  by_cases hi : i.toNat < l.length
  · rw [getD_lt l 0 _ hi]; exact h _ (List.getElem_mem hi)
  · rw [List.getD_eq_getElem?_getD, List.getElem?_eq_none (by omega)]; decide
theorem u8_inj {x y : Int} (hx : 0 ≤ x ∧ x < 256) (hy : 0 ≤ y ∧ y < 256) (h : UInt8.ofNat x.toNat = UInt8.ofNat y.toNat) : x = y := by
  have := congrArg UInt8.toNat h
  rw [UInt8.toNat_ofNat', UInt8.toNat_ofNat'] at this
  omega
theorem map_inj : ∀ {a b : List Int}, Bytes a → Bytes b → a.map (fun n => UInt8.ofNat n.toNat) = b.map (fun n => UInt8.ofNat n.toNat) → a = b := by
  intro a
  induction a with
  | nil => intro b _ _ h; cases b with
    | nil => rfl
    | cons y b => cases h
  | cons x a ih =>
    intro b ha hb h
    cases b with
    | nil => cases h
    | cons y b =>
      simp only [List.map_cons, List.cons.injEq] at h
      rw [u8_inj (ha x (by simp)) (hb y (by simp)) h.1, ih (fun z hz => ha z (by simp [hz])) (fun z hz => hb z (by simp [hz])) h.2]
theorem toList_str (a : List Int) : (strOfNums a).toList = a.map (fun n => UInt8.ofNat n.toNat) := by
  rw [ByteArray.toList_eq]; rfl
theorem str_inj {a b : List Int} (ha : Bytes a) (hb : Bytes b) : (strOfNums a).toList = (strOfNums b).toList ↔ a = b :=
  ⟨fun h => map_inj ha hb (by rw [← toList_str, ← toList_str]; exact h), fun h => by rw [h]⟩

/-! ### Pack -/
/-- One field, laid. -/
def lay (x : List Int) : List Int := (x.length : Int) / 256 :: (x.length : Int) % 256 :: x
def pk (l : List (List Int)) : List Int := l.flatMap lay
theorem pk_cons (x : List Int) (l : List (List Int)) : pk (x :: l) = lay x ++ pk l := by simp [pk]
theorem pk_append (l r : List (List Int)) : pk (l ++ r) = pk l ++ pk r := by simp [pk]
theorem lay_length (x : List Int) : (lay x).length = x.length + 2 := by simp [lay]
def longs (l : List (List Int)) : Bool := l.any (fun x => longB x.length)
theorem drop_at {α : Type} (l : List α) (z : α) (i : Nat) (h : i < l.length) : l.drop i = l.getD i z :: l.drop (i + 1) := by
  rw [getD_lt l z i h]; exact List.drop_eq_getElem_cons h

theorem u16_small (n : Nat) (h : n ≤ 1024) : IntKind.u16.wrap (n : Int) = n := by simp [IntKind.wrap, IntKind.bits, IntKind.signed]; omega

theorem pack_loop (l : List (List Int)) (hl : l.length < 4611686018427387904) (hn : ∀ x ∈ l, x.length ≤ 1024) : ∀ (d i : Nat) (acc : List Int), l.length - i = d → i ≤ l.length → acc.length + (pk (l.drop i)).length < 140737488355328 →
    Ev (fun k => pack_Pack.l0 k acc l (l.length : Int) (i : Int)) (acc ++ pk (l.drop i), 0) := by
  intro d
  induction d with
  | zero =>
    intro i acc hd hi hs
    refine Ev.step (f := fun _ => some (acc ++ pk (l.drop i), 0)) (fun k => ?_) (Ev.now _)
    simp only [pack_Pack.l0]
    rw [if_neg (by omega), List.drop_of_length_le (by omega)]
    simp [pk]
  | succ d ih =>
    intro i acc hd hi hs
    have hlt : i < l.length := by omega
    have hx := hn (l.getD i []) (by rw [getD_lt l [] i hlt]; exact List.getElem_mem hlt)
    have hdr := drop_at l [] i hlt
    rw [hdr, pk_cons] at hs
    simp only [List.length_append, lay_length] at hs
    have ih' := ih (i + 1) (acc ++ lay (l.getD i [])) (by omega) (by omega) (by simp only [List.length_append, lay_length]; omega)
    refine Ev.step (f := fun k => pack_Pack.l0 k (acc ++ lay (l.getD i [])) l (l.length : Int) ((i + 1 : Nat) : Int)) (fun k => ?_) (by rw [hdr, pk_cons, ← List.append_assoc]; exact ih')
    have hw := u16_small (l.getD i []).length hx
    simp only [pack_Pack.l0]
    rw [rd1_nat, if_pos (by omega), if_pos (by omega), if_pos (by omega), hw]
    simp only [Option.bind_some, List.length_append, List.length_cons, List.length_nil]
    rw [if_pos (by omega), if_pos (by omega), w64 (by omega) (by omega)]
    have e : (((l.getD i []).length : Int)) / 256 % 256 = ((l.getD i []).length : Int) / 256 := by omega
    simp only [lay, e, List.append_assoc, List.cons_append, List.nil_append, Int.natCast_add, Int.cast_ofNat_Int]

theorem no_long {l : List (List Int)} (h : longs l = false) : ∀ x ∈ l, x.length ≤ 1024 := by
  intro x hx
  unfold longs at h
  rw [List.any_eq_false] at h
  have := h x hx
  simpa [longB] using this

theorem pack_ev (l : List (List Int)) (hl : l.length < 4611686018427387904) (hs : longs l = false → (pk l).length < 140737488355328) :
    Ev (fun k => pack_Pack.f k l) (if longs l = true then ([], 5) else (pk l, 0)) := by
  refine Ev.congr (f := fun k => if longs l = true then some ([], 5) else pack_Pack.l0 k [] l (l.length : Int) 0) (fun k => rfl) ?_
  cases h : longs l with
  | true => exact Ev.now _
  | false =>
    have := pack_loop l hl (no_long h) l.length 0 [] (by omega) (by omega) (by simpa using hs h)
    simpa using this

theorem refpack_loop (l : List (List Int)) (hl : l.length < 4611686018427387904) : ∀ (d i : Nat) (acc : List Int), l.length - i = d → i ≤ l.length → acc.length + (pk (l.drop i)).length < 140737488355328 →
    Ev (fun k => gessoref11_Pack.l0 k l acc (i : Int)) (if longs (l.drop i) = true then ([], 5) else (acc ++ pk (l.drop i), 0)) := by
  intro d
  induction d with
  | zero =>
    intro i acc hd hi hs
    have e : l.drop i = [] := List.drop_of_length_le (by omega)
    rw [e]
    refine Ev.step (f := fun _ => some (acc ++ pk [], 0)) (fun k => ?_) (by simpa [longs] using Ev.now _)
    simp only [gessoref11_Pack.l0]
    rw [if_neg (by omega)]
    simp [pk]
  | succ d ih =>
    intro i acc hd hi hs
    have hlt : i < l.length := by omega
    have hdr := drop_at l [] i hlt
    rw [hdr, pk_cons] at hs
    simp only [List.length_append, lay_length] at hs
    have hlg : longs (l.drop i) = (longB (l.getD i []).length || longs (l.drop (i + 1))) := by rw [hdr]; simp [longs]
    by_cases hx : (l.getD i []).length ≤ 1024
    · have hb : longB (l.getD i []).length = false := decide_eq_false (by omega)
      have ih' := ih (i + 1) (acc ++ lay (l.getD i [])) (by omega) (by omega) (by simp only [List.length_append, lay_length]; omega)
      rw [hlg, hb, Bool.false_or]
      refine Ev.step (f := fun k => gessoref11_Pack.l0 k l (acc ++ lay (l.getD i [])) ((i + 1 : Nat) : Int)) (fun k => ?_) (by rw [hdr, pk_cons, ← List.append_assoc]; exact ih')
      simp only [gessoref11_Pack.l0]
      rw [rd1_nat, if_pos (by omega), if_pos (by omega), if_neg (by omega)]
      simp only [Option.bind_some, List.length_append, List.length_cons, List.length_nil]
      rw [if_pos (by omega), if_pos (by omega), w64 (by omega) (by omega), w64 (by omega) (by omega), IntKind.wrap_u8, IntKind.wrap_u8, Int.tmod_eq_emod_of_nonneg (by omega)]
      have e : (((l.getD i []).length : Int)) / 256 % 256 = ((l.getD i []).length : Int) / 256 := by omega
      have e2 : (((l.getD i []).length : Int)) % 256 % 256 = ((l.getD i []).length : Int) % 256 := by omega
      simp only [lay, e, e2, List.append_assoc, List.cons_append, List.nil_append, Int.natCast_add, Int.cast_ofNat_Int]
    · have hb : longB (l.getD i []).length = true := decide_eq_true (by omega)
      rw [hlg, hb, Bool.true_or, if_pos rfl]
      refine Ev.step (f := fun _ => some ([], 5)) (fun k => ?_) (Ev.now _)
      simp only [gessoref11_Pack.l0]
      rw [rd1_nat, if_pos (by omega), if_pos (by omega), if_pos (by omega)]

theorem refpack_ev (l : List (List Int)) (hl : l.length < 4611686018427387904) (hs : (pk l).length < 140737488355328) :
    Ev (fun k => gessoref11_Pack.f k l) (if longs l = true then ([], 5) else (pk l, 0)) := by
  have := refpack_loop l hl l.length 0 [] (by omega) (by omega) (by simpa using hs)
  exact Ev.congr (f := fun k => gessoref11_Pack.l0 k l [] 0) (fun k => rfl) (by simpa using this)

/-! ### sameFields, Same -/
theorem same_loop (a b : List (List Int)) (hl : a.length < 4611686018427387904) (he : a.length = b.length) (ha : ∀ x ∈ a, Bytes x) (hb : ∀ x ∈ b, Bytes x) : ∀ (d i : Nat), a.length - i = d → i ≤ a.length →
    Ev (fun k => gessolaw11_sameFields.l0 k a b (i : Int)) (decide (a.drop i = b.drop i)) := by
  intro d
  induction d with
  | zero =>
    intro i hd hi
    refine Ev.step (f := fun _ => some true) (fun k => ?_) (by rw [List.drop_of_length_le (show a.length ≤ i by omega), List.drop_of_length_le (show b.length ≤ i by omega)]; exact Ev.now _)
    simp only [gessolaw11_sameFields.l0]
    rw [if_neg (by omega)]
  | succ d ih =>
    intro i hd hi
    have hlt : i < a.length := by omega
    have hlt2 : i < b.length := by omega
    have h1 := drop_at a [] i hlt
    have h2 := drop_at b [] i hlt2
    have ba : Bytes (a.getD i []) := ha _ (by rw [getD_lt a [] i hlt]; exact List.getElem_mem hlt)
    have bb : Bytes (b.getD i []) := hb _ (by rw [getD_lt b [] i hlt2]; exact List.getElem_mem hlt2)
    by_cases e : a.getD i [] = b.getD i []
    · have e2 : decide (a.drop i = b.drop i) = decide (a.drop (i + 1) = b.drop (i + 1)) := by rw [h1, h2, e]; simp
      rw [e2]
      refine Ev.step (f := fun k => gessolaw11_sameFields.l0 k a b ((i + 1 : Nat) : Int)) (fun k => ?_) (ih (i + 1) (by omega) (by omega))
      simp only [gessolaw11_sameFields.l0]
      rw [if_pos (by omega), if_pos (by omega), if_pos (by omega), rd1_nat, rd1_nat, if_pos (by rw [e]), w64 (by omega) (by omega)]
      rfl
    · have e2 : decide (a.drop i = b.drop i) = false := decide_eq_false (by rw [h1, h2]; exact fun h => e (List.cons.inj h).1)
      rw [e2]
      refine Ev.step (f := fun _ => some false) (fun k => ?_) (Ev.now _)
      simp only [gessolaw11_sameFields.l0]
      rw [if_pos (by omega), if_pos (by omega), if_pos (by omega), rd1_nat, rd1_nat, if_neg (fun h => e ((str_inj ba bb).1 h))]

theorem same_ev (a b : List (List Int)) (hl : a.length < 4611686018427387904) (ha : ∀ x ∈ a, Bytes x) (hb : ∀ x ∈ b, Bytes x) : Ev (fun k => gessolaw11_sameFields.f k a b) (decide (a = b)) := by
  by_cases he : a.length = b.length
  · refine Ev.congr (f := fun k => gessolaw11_sameFields.l0 k a b ((0 : Nat) : Int)) (fun k => ?_) (same_loop a b hl he ha hb a.length 0 (by omega) (by omega))
    unfold gessolaw11_sameFields.f
    rw [if_pos (by omega)]
    rfl
  · rw [decide_eq_false (fun h => he (by rw [h]))]
    refine Ev.congr (f := fun k => some false) (fun k => ?_) (Ev.now _)
    unfold gessolaw11_sameFields.f
    rw [if_neg (by omega)]

/-! ### Unpack -/
def num2 (b : List Int) : Int := 256 * rd b 0 + rd b 1
/-- The fields that bytes are. -/
def unp : Nat → List Int → Option (List (List Int))
  | 0, b => if b.length = 0 then some [] else none
  | d + 1, b => if b.length = 0 then some [] else if b.length < 2 then none else if num2 b > 1024 ∨ num2 b > (b.length : Int) - 2 then none else (unp d (b.drop (2 + (num2 b).toNat))).map (fun l => (b.drop 2).take (num2 b).toNat :: l)
def told (acc : List (List Int)) : Option (List (List Int)) → List (List Int) × Int
  | some l => (acc ++ l, 0)
  | none => ([], 4)
theorem told_map (acc : List (List Int)) (x : List Int) (o : Option (List (List Int))) : told acc (o.map (fun l => x :: l)) = told (acc ++ [x]) o := by cases o <;> simp [told]
theorem num2_at {b : List Int} (h : Bytes b) : 0 ≤ num2 b ∧ num2 b < 65536 := by
  have h0 := h.at 0
  have h1 := h.at 1
  unfold num2
  omega

theorem unpack_loop : ∀ (d : Nat) (b : List Int) (acc : List (List Int)), b.length ≤ d → Bytes b → b.length < 140737488355328 → acc.length + b.length < 5864062014805 →
    Ev (fun k => pack_Unpack.l0 k b acc) (told acc (unp d b)) := by
  intro d
  induction d with
  | zero =>
    intro b acc hd hb h1 h2
    refine Ev.step (f := fun _ => some (acc, 0)) (fun k => ?_) ?_
    · simp only [pack_Unpack.l0]
      rw [if_neg (by omega), if_neg (by omega)]
    · rw [unp, if_pos (by omega)]
      simpa [told] using Ev.now _
  | succ d ih =>
    intro b acc hd hb h1 h2
    rw [unp]
    by_cases e0 : b.length = 0
    · rw [if_pos e0]
      refine Ev.step (f := fun _ => some (acc, 0)) (fun k => ?_) (by simpa [told] using Ev.now _)
      simp only [pack_Unpack.l0]
      rw [if_neg (by omega), if_neg (by omega)]
    · rw [if_neg e0]
      by_cases e1 : b.length < 2
      · rw [if_pos e1]
        refine Ev.step (f := fun _ => some ([], 4)) (fun k => ?_) (by simpa [told] using Ev.now _)
        simp only [pack_Unpack.l0]
        rw [if_neg (by omega), if_pos (by omega)]
      · rw [if_neg e1]
        have b0 := hb.at 0
        have b1 := hb.at 1
        have hor : Go.bits .or .i64 (wrap64 ((wrap64 (rd b 0)) * 256)) (wrap64 (rd b 1)) = num2 b := by
          rw [w64 (i := rd b 0) (by omega) (by omega), w64 (by omega) (by omega), w64 (by omega) (by omega), or_i64 _ _ (by omega) (by omega) (by omega) (by omega) (by omega)]
          unfold num2
          omega
        have hn := num2_at hb
        by_cases e2 : num2 b > 1024 ∨ num2 b > (b.length : Int) - 2
        · rw [if_pos e2]
          refine Ev.step (f := fun _ => some ([], 4)) (fun k => ?_) (by simpa [told] using Ev.now _)
          simp only [pack_Unpack.l0, hor]
          rw [if_pos (by omega), if_pos (by omega), if_pos (by omega), if_pos (by omega)]
          simp only [Option.bind_some, List.length_drop]
          by_cases e3 : num2 b > 1024
          · rw [if_pos e3]
          · rw [if_neg e3, if_pos (by omega)]
        · rw [if_neg e2, told_map]
          refine Ev.step (f := fun k => pack_Unpack.l0 k (b.drop (2 + (num2 b).toNat)) (acc ++ [(b.drop 2).take (num2 b).toNat])) (fun k => ?_) (ih _ _ (by rw [List.length_drop]; omega) (hb.drop _) (by rw [List.length_drop]; omega) (by rw [List.length_drop, List.length_append]; simp only [List.length_cons, List.length_nil]; omega))
          simp only [pack_Unpack.l0, hor]
          rw [if_pos (by omega), if_pos (by omega), if_pos (by omega), if_pos (by omega)]
          simp only [Option.bind_some, List.length_drop]
          rw [if_neg (by omega), if_neg (by omega), if_pos (by omega), if_pos (by omega)]
          unfold slices_Clone_byte_byte.f
          rw [if_pos (by rw [List.length_take, List.length_drop]; omega)]
          simp only [Option.bind_some]
          rw [if_pos (by omega), List.drop_drop]

theorem refunpack_loop : ∀ (d : Nat) (b : List Int) (acc : List (List Int)), b.length ≤ d → Bytes b → b.length < 140737488355328 → acc.length + b.length < 5864062014805 →
    Ev (fun k => gessoref11_Unpack.l0 k b acc) (told acc (unp d b)) := by
  intro d
  induction d with
  | zero =>
    intro b acc hd hb h1 h2
    refine Ev.step (f := fun _ => some (acc, 0)) (fun k => ?_) ?_
    · simp only [gessoref11_Unpack.l0]
      rw [if_neg (by omega)]
    · rw [unp, if_pos (by omega)]
      simpa [told] using Ev.now _
  | succ d ih =>
    intro b acc hd hb h1 h2
    rw [unp]
    by_cases e0 : b.length = 0
    · rw [if_pos e0]
      refine Ev.step (f := fun _ => some (acc, 0)) (fun k => ?_) (by simpa [told] using Ev.now _)
      simp only [gessoref11_Unpack.l0]
      rw [if_neg (by omega)]
    · rw [if_neg e0]
      by_cases e1 : b.length < 2
      · rw [if_pos e1]
        refine Ev.step (f := fun _ => some ([], 4)) (fun k => ?_) (by simpa [told] using Ev.now _)
        simp only [gessoref11_Unpack.l0]
        rw [if_pos (by omega), if_pos (by omega)]
      · rw [if_neg e1]
        have b0 := hb.at 0
        have b1 := hb.at 1
        have hnum : wrap64 ((wrap64 (256 * (wrap64 (rd b 0)))) + (wrap64 (rd b 1))) = num2 b := by
          rw [w64 (i := rd b 0) (by omega) (by omega), w64 (i := 256 * rd b 0) (by omega) (by omega), w64 (i := rd b 1) (by omega) (by omega), w64 (by omega) (by omega)]
          rfl
        have hn := num2_at hb
        have h2n : wrap64 (2 + num2 b) = 2 + num2 b := w64 (by omega) (by omega)
        have hl2 : wrap64 ((b.length : Int) - 2) = (b.length : Int) - 2 := w64 (by omega) (by omega)
        by_cases e2 : num2 b > 1024 ∨ num2 b > (b.length : Int) - 2
        · rw [if_pos e2]
          refine Ev.step (f := fun _ => some ([], 4)) (fun k => ?_) (by simpa [told] using Ev.now _)
          simp only [gessoref11_Unpack.l0, hnum, hl2]
          rw [if_pos (by omega), if_neg (by omega), if_pos (by omega), if_pos (by omega)]
          by_cases e3 : num2 b > 1024
          · rw [if_pos e3]
          · rw [if_neg e3, if_pos (by omega)]
        · rw [if_neg e2, told_map]
          refine Ev.step (f := fun k => gessoref11_Unpack.l0 k (b.drop (2 + (num2 b).toNat)) (acc ++ [(b.drop 2).take (num2 b).toNat])) (fun k => ?_) (ih _ _ (by rw [List.length_drop]; omega) (hb.drop _) (by rw [List.length_drop]; omega) (by rw [List.length_drop, List.length_append]; simp only [List.length_cons, List.length_nil]; omega))
          simp only [gessoref11_Unpack.l0, hnum, hl2, h2n]
          have e4 : (2 + num2 b).toNat = 2 + (num2 b).toNat := by omega
          rw [if_pos (by omega), if_neg (by omega), if_pos (by omega), if_pos (by omega), if_neg (by omega), if_neg (by omega)]
          simp only [Option.bind_some, List.length_nil, List.nil_append, e4]
          rw [if_pos (by omega), if_pos (by omega), if_pos (by simp only [List.length_drop, List.length_take]; omega), if_pos (by omega), if_pos (by omega)]
          have e5 : (b.take (2 + (num2 b).toNat)).drop 2 = (b.drop 2).take (num2 b).toNat := by
            rw [List.drop_take]
            congr 1
            omega
          rw [e5]

def U (b : List Int) : Option (List (List Int)) := unp b.length b
theorem unpack_ev (b : List Int) (hb : Bytes b) (hl : b.length < 5864062014805) : Ev (fun k => pack_Unpack.f k b) (told [] (U b)) :=
  unpack_loop b.length b [] (Nat.le_refl _) hb (by omega) (by simpa using hl)
theorem refunpack_ev (b : List Int) (hb : Bytes b) (hl : b.length < 5864062014805) : Ev (fun k => gessoref11_Unpack.f k b) (told [] (U b)) :=
  refunpack_loop b.length b [] (Nat.le_refl _) hb (by omega) (by simpa using hl)

/-! ### Laid and read -/
theorem lay_bytes {x : List Int} (h : Bytes x) (hl : x.length ≤ 1024) : Bytes (lay x) := by
  intro y hy
  simp only [lay, List.mem_cons] at hy
  rcases hy with rfl | rfl | hy
  · omega
  · omega
  · exact h y hy
theorem pk_bytes {l : List (List Int)} (h : ∀ x ∈ l, Bytes x) (hl : ∀ x ∈ l, x.length ≤ 1024) : Bytes (pk l) := by
  intro y hy
  simp only [pk, List.mem_flatMap] at hy
  obtain ⟨x, hx, hy⟩ := hy
  exact lay_bytes (h x hx) (hl x hx) y hy
theorem num2_lay (x r : List Int) : num2 (lay x ++ r) = x.length := by
  simp only [num2, lay, rd, List.cons_append]
  simp
  omega
/-- More fuel than bytes changes nothing. -/
theorem unp_more : ∀ (d d' : Nat) (b : List Int), b.length ≤ d → b.length ≤ d' → unp d b = unp d' b := by
  intro d
  induction d with
  | zero =>
    intro d' b h h'
    cases d' with
    | zero => rfl
    | succ d' => rw [unp, unp, if_pos (by omega), if_pos (by omega)]
  | succ d ih =>
    intro d' b h h'
    cases d' with
    | zero => rw [unp, unp, if_pos (by omega), if_pos (by omega)]
    | succ d' =>
      rw [unp, unp]
      by_cases e0 : b.length = 0
      · rw [if_pos e0, if_pos e0]
      · rw [if_neg e0, if_neg e0, ih d' (b.drop (2 + (num2 b).toNat)) (by rw [List.length_drop]; omega) (by rw [List.length_drop]; omega)]
theorem U_eq (b : List Int) : U b = if b.length = 0 then some [] else if b.length < 2 then none else if num2 b > 1024 ∨ num2 b > (b.length : Int) - 2 then none else (U (b.drop (2 + (num2 b).toNat))).map (fun l => (b.drop 2).take (num2 b).toNat :: l) := by
  by_cases e0 : b.length = 0
  · rw [if_pos e0, U, e0, unp, if_pos e0]
  · rw [if_neg e0, U]
    obtain ⟨d, hd⟩ : ∃ d, b.length = d + 1 := ⟨b.length - 1, by omega⟩
    rw [hd, unp, if_neg e0, U, unp_more d (b.drop (2 + (num2 b).toNat)).length _ (by rw [List.length_drop]; omega) (Nat.le_refl _), ← hd]
theorem U_nil : U [] = some [] := rfl
theorem U_lay (x r : List Int) (hl : x.length ≤ 1024) : U (lay x ++ r) = (U r).map (fun l => x :: l) := by
  rw [U_eq, num2_lay]
  have hlen : (lay x ++ r).length = x.length + 2 + r.length := by rw [List.length_append, lay_length]
  rw [if_neg (by omega), if_neg (by omega), if_neg (by omega)]
  have e1 : (lay x ++ r).drop (2 + (x.length : Int).toNat) = r := by
    simp only [Int.toNat_natCast, lay, List.cons_append, Nat.add_comm 2, List.drop_succ_cons, List.drop_left]
  have e2 : ((lay x ++ r).drop 2).take (x.length : Int).toNat = x := by
    simp only [Int.toNat_natCast, lay, List.cons_append, List.drop_succ_cons, List.drop_zero, List.take_left]
  rw [e1, e2]
theorem U_pk (l : List (List Int)) (r : List Int) (hl : ∀ x ∈ l, x.length ≤ 1024) : U (pk l ++ r) = (U r).map (fun m => l ++ m) := by
  induction l with
  | nil => simp [pk]
  | cons x l ih =>
    rw [pk_cons, List.append_assoc, U_lay x _ (hl x (by simp)), ih (fun y hy => hl y (by simp [hy]))]
    cases U r <;> simp
theorem U_pk' (l : List (List Int)) (hl : ∀ x ∈ l, x.length ≤ 1024) : U (pk l) = some l := by
  have := U_pk l [] hl
  simpa [U_nil] using this
theorem pk_U : ∀ (n : Nat) (b : List Int) (l : List (List Int)), b.length = n → Bytes b → U b = some l → pk l = b ∧ ∀ x ∈ l, x.length ≤ 1024 := by
  intro n
  induction n using Nat.strongRecOn with
  | _ n ih =>
    intro b l hn hb h
    rw [U_eq] at h
    by_cases e0 : b.length = 0
    · rw [if_pos e0] at h
      obtain rfl := Option.some.inj h
      exact ⟨by simp [pk, List.eq_nil_of_length_eq_zero e0], by simp⟩
    · rw [if_neg e0] at h
      by_cases e1 : b.length < 2
      · rw [if_pos e1] at h; cases h
      · rw [if_neg e1] at h
        by_cases e2 : num2 b > 1024 ∨ num2 b > (b.length : Int) - 2
        · rw [if_pos e2] at h; cases h
        · rw [if_neg e2] at h
          have hn2 := num2_at hb
          cases hu : U (b.drop (2 + (num2 b).toNat)) with
          | none => rw [hu] at h; cases h
          | some m =>
            rw [hu] at h
            obtain rfl := Option.some.inj h
            obtain ⟨h3, h4⟩ := ih (b.drop (2 + (num2 b).toNat)).length (by rw [List.length_drop]; omega) _ m rfl (hb.drop _) hu
            have hlen : ((b.drop 2).take (num2 b).toNat).length = (num2 b).toNat := by rw [List.length_take, List.length_drop]; omega
            refine ⟨?_, fun x hx => ?_⟩
            · rw [pk_cons, h3, lay, hlen]
              match b, e0, e1 with
              | [], e0, _ => exact absurd rfl e0
              | [_], _, e1 => exact absurd (by simp) e1
              | x :: y :: r, _, _ =>
                have hx := hb x (by simp)
                have hy := hb y (by simp)
                have hv : num2 (x :: y :: r) = 256 * x + y := by simp [num2, rd]
                rw [hv]
                have q1 : ((256 * x + y).toNat : Int) / 256 = x := by omega
                have q2 : ((256 * x + y).toNat : Int) % 256 = y := by omega
                rw [q1, q2]
                simp only [List.drop_succ_cons, List.drop_zero, Nat.add_comm 2, List.cons_append, List.take_append_drop]
            · rcases List.mem_cons.1 hx with rfl | hx
              · rw [hlen]; omega
              · exact h4 x hx
theorem longs_of {l : List (List Int)} (h : ∀ x ∈ l, x.length ≤ 1024) : longs l = false := by
  unfold longs
  rw [List.any_eq_false]
  intro x hx
  have := h x hx
  simp [longB]
  omega
theorem U_bytes {b : List Int} {l : List (List Int)} (hb : Bytes b) (h : U b = some l) : ∀ x ∈ l, Bytes x := by
  have e := (pk_U _ b l rfl hb h).1
  intro x hx y hy
  refine hb y ?_
  rw [← e]
  simp only [pk, List.mem_flatMap]
  exact ⟨x, hx, by simp [lay, hy]⟩

end Go.Proofs.Ytejbkjbldmaodaa.Pure
