/- Plain facts on packing: texts, strings, and which of two numbers is the greater. No condition. -/
import Derived.Test.YtejbkjbldmaodaaN
import Derived.Test.YtejbkjbldmaodaaPx16
import Derived.Test.YtejbkjbldmaodaaPx17
import Derived.Test.YtejbkjbldmaodaaPx18
import Derived.Test.YtejbkjbldmaodaaPx19
import Derived.Test.YtejbkjbldmaodaaPx20
namespace Go.Proofs.Ytejbkjbldmaodaa.Pure
open Go.RowKit Go.Proofs.Ytejbkjbldmaodaa.P Go.Proofs.YtejbkjbldmaodaaW.PrintWords Go.Proofs.YtejbkjbldmaodaaW.PrintLast

theorem bytesOf_bytes (s : ByteArray) : Bytes (bytesOf s) := by
  intro x hx
  simp only [bytesOf, List.mem_map] at hx
  obtain ⟨b, _, rfl⟩ := hx
  have := b.toNat_lt
  omega
theorem strOf_bytesOf (s : ByteArray) : strOfNums (bytesOf s) = s := by
  have : (strOfNums (bytesOf s)).data = s.data := by
    apply Array.ext'
    rw [strOfNums_data, bytesOf, List.map_map]
    conv => rhs; rw [← List.map_id s.data.toList]
    apply List.map_congr_left
    intro b _
    simp
  exact ByteArray.ext this
theorem toList_inj {a b : ByteArray} (h : a.toList = b.toList) : a = b := by
  rw [ByteArray.toList_eq, ByteArray.toList_eq] at h
  cases a; cases b
  simp_all
theorem rdOf_nat (xs : List ByteArray) (i : Nat) : rdOf ByteArray.empty xs (i : Int) = xs.getD i ByteArray.empty := by simp [rdOf]
def size63 (l : List ByteArray) : Prop := ∀ s ∈ l, s.size ≤ 9223372036854775807

theorem texts_loop (l : List ByteArray) (hl : l.length < 4611686018427387904) (hs : size63 l) (hp : (pk (l.map bytesOf)).length < 140737488355328) : ∀ (d i : Nat), l.length - i = d → i ≤ l.length →
    Ev (fun k => pack_Texts.l0 k ((l.take i).map bytesOf ++ List.replicate (l.length - i) []) l (l.length : Int) (i : Int)) (if longs (l.map bytesOf) = true then ([], 5) else (pk (l.map bytesOf), 0)) := by
  intro d
  induction d with
  | zero =>
    intro i hd hi
    refine Ev.step (f := fun k => (pack_Pack.f k (l.map bytesOf)).bind fun bt321 => some (bt321.1, bt321.2)) (fun k => ?_) ?_
    · rw [List.take_of_length_le (by omega), show l.length - i = 0 by omega, List.replicate_zero, List.append_nil]
      simp only [pack_Texts.l0]
      rw [if_neg (by omega)]
    · refine Ev.bind (pack_ev _ (by simpa using hl) (fun _ => hp)) ?_
      exact Ev.now _
  | succ d ih =>
    intro i hd hi
    have hlt : i < l.length := by omega
    have hx := hs (l.getD i ByteArray.empty) (by rw [getD_lt l _ i hlt]; exact List.getElem_mem hlt)
    refine Ev.step (f := fun k => pack_Texts.l0 k ((l.take (i + 1)).map bytesOf ++ List.replicate (l.length - (i + 1)) []) l (l.length : Int) ((i + 1 : Nat) : Int)) (fun k => ?_) (ih (i + 1) (by omega) (by omega))
    simp only [pack_Texts.l0]
    rw [if_pos (by omega), if_pos (by omega), if_pos (by omega), rdOf_nat]
    unfold conv_bytes.f
    rw [if_pos hx]
    simp only [Option.bind_some]
    rw [if_pos (by simp only [List.length_append, List.length_map, List.length_take, List.length_replicate]; omega), w64 (by omega) (by omega)]
    have e : ((l.take i).map bytesOf ++ List.replicate (l.length - i) []).set (i : Int).toNat (bytesOf (l.getD i ByteArray.empty)) = (l.take (i + 1)).map bytesOf ++ List.replicate (l.length - (i + 1)) [] := by
      rw [show l.length - i = (l.length - (i + 1)) + 1 by omega, List.replicate_succ, Int.toNat_natCast]
      rw [List.set_append_right _ _ (by simp only [List.length_map, List.length_take]; omega)]
      have e0 : i - ((l.take i).map bytesOf).length = 0 := by simp only [List.length_map, List.length_take]; omega
      rw [e0, List.set_cons_zero, List.take_succ_eq_append_getElem hlt, List.map_append, List.append_assoc, getD_lt l _ i hlt]
      rfl
    rw [e]
    rfl

theorem texts_ev (l : List ByteArray) (hl : l.length ≤ 11728124029610) (hs : size63 l) (hp : (pk (l.map bytesOf)).length < 140737488355328) :
    Ev (fun k => pack_Texts.f k l) (if longs (l.map bytesOf) = true then ([], 5) else (pk (l.map bytesOf), 0)) := by
  have := texts_loop l (by omega) hs hp l.length 0 (by omega) (by omega)
  refine Ev.congr (f := fun k => pack_Texts.l0 k (List.replicate l.length []) l (l.length : Int) 0) (fun k => ?_) (by simpa using this)
  unfold pack_Texts.f
  rw [if_pos (by omega), if_pos (by simpa using hl), Int.toNat_natCast]

theorem reftexts_loop (l : List ByteArray) (hl : l.length < 5864062014805) (hs : size63 l) (hp : (pk (l.map bytesOf)).length < 140737488355328) : ∀ (d i : Nat), l.length - i = d → i ≤ l.length →
    Ev (fun k => gessoref11_Texts.l0 k l ((l.take i).map bytesOf) (i : Int)) (if longs (l.map bytesOf) = true then ([], 5) else (pk (l.map bytesOf), 0)) := by
  intro d
  induction d with
  | zero =>
    intro i hd hi
    refine Ev.step (f := fun k => (gessoref11_Pack.f k (l.map bytesOf)).bind fun bt321 => some (bt321.1, bt321.2)) (fun k => ?_) ?_
    · rw [List.take_of_length_le (by omega)]
      simp only [gessoref11_Texts.l0]
      rw [if_neg (by omega)]
    · refine Ev.bind (refpack_ev _ (by simp only [List.length_map]; omega) hp) ?_
      exact Ev.now _
  | succ d ih =>
    intro i hd hi
    have hlt : i < l.length := by omega
    have hx := hs (l.getD i ByteArray.empty) (by rw [getD_lt l _ i hlt]; exact List.getElem_mem hlt)
    refine Ev.step (f := fun k => gessoref11_Texts.l0 k l ((l.take (i + 1)).map bytesOf) ((i + 1 : Nat) : Int)) (fun k => ?_) (ih (i + 1) (by omega) (by omega))
    simp only [gessoref11_Texts.l0]
    rw [if_pos (by omega), if_pos (by omega), rdOf_nat]
    unfold conv_bytes.f
    rw [if_pos hx]
    simp only [Option.bind_some]
    rw [if_pos (by simp only [List.length_map, List.length_take]; omega), w64 (by omega) (by omega)]
    rw [List.take_succ_eq_append_getElem hlt, List.map_append, getD_lt l _ i hlt]
    rfl
theorem reftexts_ev (l : List ByteArray) (hl : l.length < 5864062014805) (hs : size63 l) (hp : (pk (l.map bytesOf)).length < 140737488355328) :
    Ev (fun k => gessoref11_Texts.f k l) (if longs (l.map bytesOf) = true then ([], 5) else (pk (l.map bytesOf), 0)) := by
  have := reftexts_loop l hl hs hp l.length 0 (by omega) (by omega)
  exact Ev.congr (f := fun k => gessoref11_Texts.l0 k l [] 0) (fun k => rfl) (by simpa using this)

theorem strings_loop (m : List (List Int)) (e : Int) (hl : m.length < 8796093022208) : ∀ (d i : Nat), m.length - i = d → i ≤ m.length →
    Ev (fun k => pack_Strings.l0 k e ((m.take i).map strOfNums) m (m.length : Int) (i : Int)) (m.map strOfNums, e) := by
  intro d
  induction d with
  | zero =>
    intro i hd hi
    refine Ev.step (f := fun k => some (m.map strOfNums, e)) (fun k => ?_) (Ev.now _)
    rw [List.take_of_length_le (by omega)]
    simp only [pack_Strings.l0]
    rw [if_neg (by omega)]
  | succ d ih =>
    intro i hd hi
    have hlt : i < m.length := by omega
    refine Ev.step (f := fun k => pack_Strings.l0 k e ((m.take (i + 1)).map strOfNums) m (m.length : Int) ((i + 1 : Nat) : Int)) (fun k => ?_) (ih (i + 1) (by omega) (by omega))
    simp only [pack_Strings.l0]
    rw [if_pos (by omega), if_pos (by omega), if_pos (by omega), rd1_nat, if_pos (by simp only [List.length_map, List.length_take]; omega), w64 (by omega) (by omega)]
    rw [List.take_succ_eq_append_getElem hlt, List.map_append, getD_lt m _ i hlt]
    rfl
theorem refstrings_loop (m : List (List Int)) (e : Int) (hl : m.length < 8796093022208) : ∀ (d i : Nat), m.length - i = d → i ≤ m.length →
    Ev (fun k => gessoref11_Strings.l0 k m e ((m.take i).map strOfNums) (i : Int)) (m.map strOfNums, e) := by
  intro d
  induction d with
  | zero =>
    intro i hd hi
    refine Ev.step (f := fun k => some (m.map strOfNums, e)) (fun k => ?_) (Ev.now _)
    rw [List.take_of_length_le (by omega)]
    simp only [gessoref11_Strings.l0]
    rw [if_neg (by omega)]
  | succ d ih =>
    intro i hd hi
    have hlt : i < m.length := by omega
    refine Ev.step (f := fun k => gessoref11_Strings.l0 k m e ((m.take (i + 1)).map strOfNums) ((i + 1 : Nat) : Int)) (fun k => ?_) (ih (i + 1) (by omega) (by omega))
    simp only [gessoref11_Strings.l0]
    rw [if_pos (by omega), if_pos (by omega), rd1_nat, if_pos (by simp only [List.length_map, List.length_take]; omega), w64 (by omega) (by omega)]
    rw [List.take_succ_eq_append_getElem hlt, List.map_append, getD_lt m _ i hlt]
    rfl
/-- How many fields bytes may be. -/
theorem unp_length : ∀ (d : Nat) (b : List Int) (l : List (List Int)), unp d b = some l → l.length ≤ b.length := by
  intro d
  induction d with
  | zero =>
    intro b l h
    rw [unp] at h
    split at h
    · obtain rfl := Option.some.inj h; simp
    · cases h
  | succ d ih =>
    intro b l h
    rw [unp] at h
    by_cases e0 : b.length = 0
    · rw [if_pos e0] at h; obtain rfl := Option.some.inj h; simp
    · rw [if_neg e0] at h
      by_cases e1 : b.length < 2
      · rw [if_pos e1] at h; cases h
      · rw [if_neg e1] at h
        split at h
        · cases h
        · cases hu : unp d (b.drop (2 + (num2 b).toNat)) with
          | none => rw [hu] at h; cases h
          | some m =>
            rw [hu] at h
            obtain rfl := Option.some.inj h
            have := ih _ _ hu
            rw [List.length_drop] at this
            simp only [List.length_cons]
            omega
theorem told_length (b : List Int) : (told [] (U b)).1.length ≤ b.length := by
  cases h : U b with
  | none => simp [told]
  | some l => simpa [told] using unp_length _ _ _ h
theorem strings_ev (b : List Int) (hb : Bytes b) (hl : b.length < 5864062014805) : Ev (fun k => pack_Strings.f k b) ((told [] (U b)).1.map strOfNums, (told [] (U b)).2) := by
  unfold pack_Strings.f
  refine Ev.bind (unpack_ev b hb hl) ?_
  have h := told_length b
  have := strings_loop (told [] (U b)).1 (told [] (U b)).2 (by omega) (told [] (U b)).1.length 0 (by omega) (by omega)
  simpa using this
theorem refstrings_ev (b : List Int) (hb : Bytes b) (hl : b.length < 5864062014805) : Ev (fun k => gessoref11_Strings.f k b) ((told [] (U b)).1.map strOfNums, (told [] (U b)).2) := by
  unfold gessoref11_Strings.f
  refine Ev.bind (refunpack_ev b hb hl) ?_
  have h := told_length b
  have := refstrings_loop (told [] (U b)).1 (told [] (U b)).2 (by omega) (told [] (U b)).1.length 0 (by omega) (by omega)
  simpa using this

theorem sames_loop (a : List ByteArray) (hl : a.length < 4611686018427387904) : ∀ (d i : Nat), a.length - i = d → i ≤ a.length → Ev (fun k => gessoref11_Same.l0 k a a (i : Int)) true := by
  intro d
  induction d with
  | zero =>
    intro i hd hi
    refine Ev.step (f := fun _ => some true) (fun k => ?_) (Ev.now _)
    simp only [gessoref11_Same.l0]
    rw [if_neg (by omega)]
  | succ d ih =>
    intro i hd hi
    refine Ev.step (f := fun k => gessoref11_Same.l0 k a a ((i + 1 : Nat) : Int)) (fun k => ?_) (ih (i + 1) (by omega) (by omega))
    simp only [gessoref11_Same.l0]
    rw [if_pos (by omega), if_pos (by omega), if_pos (by omega), if_pos trivial, w64 (by omega) (by omega)]
    rfl
theorem sames_ev (a : List ByteArray) (hl : a.length < 4611686018427387904) : Ev (fun k => gessoref11_Same.f k a a) true := by
  refine Ev.congr (f := fun k => gessoref11_Same.l0 k a a ((0 : Nat) : Int)) (fun k => ?_) (sames_loop a hl a.length 0 (by omega) (by omega))
  unfold gessoref11_Same.f
  rw [if_pos rfl]
  rfl

/-! ### The greater number -/
theorem le_val (d : Nat) : ∀ (n : Int), 0 ≤ n → n < top d → val (le d n).reverse = n := by
  induction d with
  | zero => intro n h0 h1; simp [top] at h1; simp [le, val]; omega
  | succ d ih =>
    intro n h0 h1
    simp only [top] at h1
    rw [le]
    by_cases h : n > 0
    · rw [if_pos h, List.reverse_cons, val_snoc, ih (n / 256) (by omega) (by omega)]; omega
    · rw [if_neg h]; simp [val]; omega
theorem be_val (n : Int) (h0 : 0 ≤ n) (h1 : n < 18446744073709551616) : val (be n) = n := le_val 8 n h0 (by rw [top8]; exact h1)
theorem be_bytes (n : Int) : Bytes (be n) := fun x hx => le_bytes 8 n x (List.mem_reverse.1 hx)
theorem be_length (n : Int) : (be n).length ≤ 8 := by rw [be, List.length_reverse]; exact le_length 8 n
/-- The first byte is none that is 0. -/
theorem le_last (d : Nat) : ∀ (n : Int), 0 ≤ n → n < top d → ∀ x, (le d n).getLast? = some x → x ≠ 0 := by
  induction d with
  | zero => intro n _ _ x h; simp [le] at h
  | succ d ih =>
    intro n h0 h1 x h
    simp only [top] at h1
    rw [le] at h
    by_cases hp : n > 0
    · rw [if_pos hp] at h
      by_cases hq : n / 256 > 0
      · have hne : le d (n / 256) ≠ [] := by
          cases d with
          | zero => simp [top] at h1; omega
          | succ d => rw [le, if_pos hq]; simp
        rw [List.getLast?_cons_of_ne_nil hne] at h
        exact ih (n / 256) (by omega) (by omega) x h
      · have : n / 256 = 0 := by omega
        rw [this, le_zero] at h
        simp at h
        omega
    · rw [if_neg hp] at h; simp at h
theorem be_first (n : Int) (h0 : 0 ≤ n) (h1 : n < 18446744073709551616) (hl : 0 < (be n).length) : rd (be n) 0 ≠ 0 := by
  have hh : (be n).head? = some (rd (be n) 0) := by
    cases hb : be n with
    | nil => rw [hb] at hl; simp at hl
    | cons x l => simp [rd]
  rw [be, List.head?_reverse] at hh
  exact le_last 8 n h0 (by rw [top8]; exact h1) _ hh
theorem numb_be (n : Int) (h0 : 0 ≤ n) (h1 : n < 18446744073709551616) : numb (be n) = (n, 0) := by
  unfold numb
  rw [if_neg, be_val n h0 h1]
  have := be_length n
  rintro (h | ⟨h, h'⟩)
  · omega
  · exact be_first n h0 h1 h h'
theorem top_le {d e : Nat} (h : d ≤ e) : top d ≤ top e := by
  induction e with
  | zero => obtain rfl : d = 0 := by omega
            exact Int.le_refl _
  | succ e ih =>
    by_cases h' : d = e + 1
    · rw [h']; exact Int.le_refl _
    · have := ih (by omega)
      have p : 0 < top e := by clear ih this h h'; induction e with
        | zero => decide
        | succ e ih => simp only [top]; omega
      simp only [top]
      omega
theorem val_bounds (l : List Int) (hb : Bytes l) : 0 ≤ val l ∧ val l < top l.length := by
  have all : ∀ (l : List Int), Bytes l.reverse → 0 ≤ val l.reverse ∧ val l.reverse < top l.length := by
    intro l
    induction l with
    | nil => intro _; simp [val, top]
    | cons x l ih =>
      intro h
      rw [List.reverse_cons] at h ⊢
      have := ih (fun y hy => h y (by simp at hy ⊢; exact .inl hy))
      have hx := h x (by simp)
      rw [val_snoc, List.length_cons, top]
      omega
  have := all l.reverse (by rw [List.reverse_reverse]; exact hb)
  rwa [List.reverse_reverse, List.length_reverse] at this
theorem val_cons (x : Int) (l : List Int) : val (x :: l) = x * top l.length + val l := by
  have all : ∀ (l : List Int), val (x :: l.reverse) = x * top l.length + val l.reverse := by
    intro l
    induction l with
    | nil => simp [val, top]
    | cons y l ih =>
      rw [List.reverse_cons, ← List.cons_append, val_snoc, val_snoc, ih, List.length_cons, top]
      rw [Int.mul_add, ← Int.mul_assoc, Int.mul_comm 256 x, Int.mul_assoc]
      omega
  have := all l.reverse
  rwa [List.reverse_reverse, List.length_reverse] at this
theorem be_lower (n : Int) (h0 : 0 ≤ n) (h1 : n < 18446744073709551616) (hl : 0 < (be n).length) : top ((be n).length - 1) ≤ n := by
  have hv := be_val n h0 h1
  have hf := be_first n h0 h1 hl
  have hby := be_bytes n
  cases hb : be n with
  | nil => rw [hb] at hl; simp at hl
  | cons x l =>
    rw [hb] at hv hf hby
    rw [val_cons] at hv
    have hx := hby x (by simp)
    have hx0 : x ≠ 0 := by simpa [rd] using hf
    have hvl := val_bounds l (fun y hy => hby y (by simp [hy]))
    rw [List.length_cons, Nat.add_sub_cancel]
    have : 1 * top l.length ≤ x * top l.length := Int.mul_le_mul_of_nonneg_right (by omega) (by omega)
    omega
theorem be_shorter (a b : Int) (ha : 0 ≤ a ∧ a < 18446744073709551616) (hb : 0 ≤ b ∧ b < 18446744073709551616) (h : (be b).length < (be a).length) : b < a := by
  have h1 := be_lower a ha.1 ha.2 (by omega)
  have h2 := (val_bounds (be b) (be_bytes b)).2
  rw [be_val b hb.1 hb.2] at h2
  have h3 := top_le (d := (be b).length) (e := (be a).length - 1) (by omega)
  omega
/-- Byte by byte, as by the number. -/
theorem less_val : ∀ (x y : List Int), x.length = y.length → Bytes x → Bytes y → (Op.bytesLess (x.map fun n => UInt8.ofNat n.toNat) (y.map fun n => UInt8.ofNat n.toNat) = true ↔ val x < val y) := by
  intro x
  induction x with
  | nil => intro y h _ _; cases y with
    | nil => simp [Op.bytesLess]
    | cons y l => simp at h
  | cons a x ih =>
    intro y h hx hy
    cases y with
    | nil => simp at h
    | cons b y =>
      simp only [List.length_cons, Nat.add_right_cancel_iff] at h
      have ha := hx a (by simp)
      have hb := hy b (by simp)
      have hx' : Bytes x := fun z hz => hx z (by simp [hz])
      have hy' : Bytes y := fun z hz => hy z (by simp [hz])
      have i := ih y h hx' hy'
      have bx := val_bounds x hx'
      have by' := val_bounds y hy'
      rw [val_cons, val_cons, h]
      rw [h] at bx
      have lt : (UInt8.ofNat a.toNat < UInt8.ofNat b.toNat) ↔ a < b := by
        rw [UInt8.lt_iff_toNat_lt, UInt8.toNat_ofNat', UInt8.toNat_ofNat']; omega
      have eq : (UInt8.ofNat a.toNat = UInt8.ofNat b.toNat) ↔ a = b := ⟨fun h => u8_inj ha hb h, fun h => by rw [h]⟩
      simp only [List.map_cons, Op.bytesLess, Bool.or_eq_true, Bool.and_eq_true, decide_eq_true_eq, beq_iff_eq, lt, eq, i]
      rcases Int.lt_trichotomy a b with l | l | l
      · have : (a + 1) * top y.length ≤ b * top y.length := Int.mul_le_mul_of_nonneg_right (by omega) (by omega)
        rw [Int.add_mul] at this
        constructor
        · intro _; omega
        · intro _; exact .inl l
      · subst l; constructor
        · rintro (h | ⟨_, h⟩) <;> omega
        · intro h; exact .inr ⟨rfl, by omega⟩
      · have : (b + 1) * top y.length ≤ a * top y.length := Int.mul_le_mul_of_nonneg_right (by omega) (by omega)
        rw [Int.add_mul] at this
        constructor
        · rintro (h | ⟨h, _⟩) <;> omega
        · intro h; omega

theorem bulk_texts (l : List ByteArray) : (pk (l.map bytesOf)).length ≤ 2 * (l.map (fun s => s.size + 1)).sum ∧ l.length ≤ (l.map (fun s => s.size + 1)).sum ∧ ∀ s ∈ l, s.size ≤ (l.map (fun s => s.size + 1)).sum := by
  induction l with
  | nil => simp [pk]
  | cons x l ih =>
    obtain ⟨h1, h2, h3⟩ := ih
    simp only [List.map_cons, List.sum_cons, pk_cons, List.length_append, lay_length, List.length_cons, bytesOf_length] at *
    refine ⟨by omega, by omega, fun y hy => ?_⟩
    rcases List.mem_cons.1 hy with rfl | hy
    · omega
    · have := h3 y hy; omega


end Go.Proofs.Ytejbkjbldmaodaa.Pure
