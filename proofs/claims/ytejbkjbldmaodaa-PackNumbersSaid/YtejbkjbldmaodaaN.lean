/- Plain facts on packing: numbers and texts. No condition. -/
import Derived.Test.YtejbkjbldmaodaaM
import Derived.Test.YtejbkjbldmaodaaPx5
import Derived.Test.YtejbkjbldmaodaaPx9
import Derived.Test.YtejbkjbldmaodaaPx3
import Derived.Test.YtejbkjbldmaodaaPx8
import Derived.Test.YtejbkjbldmaodaaPx4
import Derived.Test.YtejbkjbldmaodaaPx6
namespace Go.Proofs.Ytejbkjbldmaodaa.Pure
open Go.RowKit Go.Proofs.Ytejbkjbldmaodaa.P Go.Proofs.YtejbkjbldmaodaaW.PrintWords Go.Proofs.YtejbkjbldmaodaaW.PrintLast

/-! ### Num -/
/-- A number's bytes, the least one first. -/
def le : Nat → Int → List Int
  | 0, _ => []
  | d + 1, n => if n > 0 then n % 256 :: le d (n / 256) else []
theorem le_zero (d : Nat) : le d 0 = [] := by cases d <;> simp [le]
theorem le_length (d : Nat) (n : Int) : (le d n).length ≤ d := by
  induction d generalizing n with
  | zero => simp [le]
  | succ d ih =>
    rw [le]
    split
    · have := ih (n / 256); simp only [List.length_cons]; omega
    · simp
theorem le_bytes (d : Nat) (n : Int) : Bytes (le d n) := by
  induction d generalizing n with
  | zero => intro x hx; simp [le] at hx
  | succ d ih =>
    rw [le]
    split
    · intro x hx
      rcases List.mem_cons.1 hx with rfl | hx
      · omega
      · exact ih _ x hx
    · intro x hx; simp at hx
def top : Nat → Int
  | 0 => 1
  | d + 1 => 256 * top d

theorem rev_step (k : Nat) (x : List Int) (i j : Nat) (h : i < j) (hj : j < x.length) (hl : x.length ≤ 8) : slices_Reverse_byte_byte.l0 (k + 1) x (i : Int) (j : Int) = slices_Reverse_byte_byte.l0 k ((x.set i (x.getD j 0)).set j (x.getD i 0)) ((i + 1 : Nat) : Int) ((j : Int) - 1) := by
  simp only [slices_Reverse_byte_byte.l0]
  rw [if_pos (by omega), if_pos (by omega), if_pos (by omega), if_pos (by omega), if_pos (by omega), w64 (by omega) (by omega), w64 (by omega) (by omega), rd_nat, rd_nat]
  rfl
theorem rev_end (k : Nat) (x : List Int) (i j : Int) (h : ¬ i < j) : slices_Reverse_byte_byte.l0 (k + 1) x i j = some x := by
  simp only [slices_Reverse_byte_byte.l0]
  rw [if_neg h]
theorem rev_ev (l : List Int) (h : l.length ≤ 8) : Ev (fun k => slices_Reverse_byte_byte.f k l) l.reverse := by
  refine ⟨5, fun k hk => ?_⟩
  obtain ⟨k, rfl⟩ : ∃ m, k = m + 5 := ⟨k - 5, by omega⟩
  show slices_Reverse_byte_byte.l0 (k + 5) l 0 (wrap64 ((l.length : Int) - 1)) = _
  rw [w64 (by omega) (by omega)]
  match l, h with
  | [], _ => rw [rev_end _ _ _ _ (by decide)]; rfl
  | [a], _ => rw [rev_end _ _ _ _ (by simp)]; rfl
  | [a, b], _ => rw [show (([a, b] : List Int).length : Int) - 1 = ((1 : Nat) : Int) from rfl, show (0 : Int) = ((0 : Nat) : Int) from rfl, rev_step _ _ _ _ (by decide) (by simp) (by simp), rev_end _ _ _ _ (by decide)]; rfl
  | [a, b, c], _ => rw [show (([a, b, c] : List Int).length : Int) - 1 = ((2 : Nat) : Int) from rfl, show (0 : Int) = ((0 : Nat) : Int) from rfl, rev_step _ _ _ _ (by decide) (by simp) (by simp), rev_end _ _ _ _ (by decide)]; rfl
  | [a, b, c, d], _ => rw [show (([a, b, c, d] : List Int).length : Int) - 1 = ((3 : Nat) : Int) from rfl, show (0 : Int) = ((0 : Nat) : Int) from rfl, rev_step _ _ _ _ (by decide) (by simp) (by simp), show ((3 : Nat) : Int) - 1 = ((2 : Nat) : Int) from rfl, rev_step _ _ _ _ (by decide) (by simp) (by simp), rev_end _ _ _ _ (by decide)]; rfl
  | [a, b, c, d, e], _ => rw [show (([a, b, c, d, e] : List Int).length : Int) - 1 = ((4 : Nat) : Int) from rfl, show (0 : Int) = ((0 : Nat) : Int) from rfl, rev_step _ _ _ _ (by decide) (by simp) (by simp), show ((4 : Nat) : Int) - 1 = ((3 : Nat) : Int) from rfl, rev_step _ _ _ _ (by decide) (by simp) (by simp), rev_end _ _ _ _ (by decide)]; rfl
  | [a, b, c, d, e, f], _ => rw [show (([a, b, c, d, e, f] : List Int).length : Int) - 1 = ((5 : Nat) : Int) from rfl, show (0 : Int) = ((0 : Nat) : Int) from rfl, rev_step _ _ _ _ (by decide) (by simp) (by simp), show ((5 : Nat) : Int) - 1 = ((4 : Nat) : Int) from rfl, rev_step _ _ _ _ (by decide) (by simp) (by simp), show ((4 : Nat) : Int) - 1 = ((3 : Nat) : Int) from rfl, rev_step _ _ _ _ (by decide) (by simp) (by simp), rev_end _ _ _ _ (by decide)]; rfl
  | [a, b, c, d, e, f, g], _ => rw [show (([a, b, c, d, e, f, g] : List Int).length : Int) - 1 = ((6 : Nat) : Int) from rfl, show (0 : Int) = ((0 : Nat) : Int) from rfl, rev_step _ _ _ _ (by decide) (by simp) (by simp), show ((6 : Nat) : Int) - 1 = ((5 : Nat) : Int) from rfl, rev_step _ _ _ _ (by decide) (by simp) (by simp), show ((5 : Nat) : Int) - 1 = ((4 : Nat) : Int) from rfl, rev_step _ _ _ _ (by decide) (by simp) (by simp), rev_end _ _ _ _ (by decide)]; rfl
  | [a, b, c, d, e, f, g, i], _ => rw [show (([a, b, c, d, e, f, g, i] : List Int).length : Int) - 1 = ((7 : Nat) : Int) from rfl, show (0 : Int) = ((0 : Nat) : Int) from rfl, rev_step _ _ _ _ (by decide) (by simp) (by simp), show ((7 : Nat) : Int) - 1 = ((6 : Nat) : Int) from rfl, rev_step _ _ _ _ (by decide) (by simp) (by simp), show ((6 : Nat) : Int) - 1 = ((5 : Nat) : Int) from rfl, rev_step _ _ _ _ (by decide) (by simp) (by simp), show ((5 : Nat) : Int) - 1 = ((4 : Nat) : Int) from rfl, rev_step _ _ _ _ (by decide) (by simp) (by simp), rev_end _ _ _ _ (by decide)]; rfl
  | _ :: _ :: _ :: _ :: _ :: _ :: _ :: _ :: _ :: _, h => simp at h

theorem num_loop : ∀ (d : Nat) (n : Int) (acc : List Int), 0 ≤ n → n < top d → acc.length + d ≤ 8 → Ev (fun k => pack_Num.l0 k n acc) (acc ++ le d n).reverse := by
  intro d
  induction d with
  | zero =>
    intro n acc h0 h1 h2
    have hn : n = 0 := by simp [top] at h1; omega
    subst hn
    refine Ev.step (f := fun k => (slices_Reverse_byte_byte.f k acc).bind fun t => some t) (fun k => ?_) ?_
    · simp only [pack_Num.l0]
      rw [if_neg (by omega)]
    · rw [le, List.append_nil]
      exact Ev.bind (rev_ev acc (by omega)) (Ev.now _)
  | succ d ih =>
    intro n acc h0 h1 h2
    simp only [top] at h1
    rw [le]
    by_cases hp : n > 0
    · rw [if_pos hp]
      refine Ev.step (f := fun k => pack_Num.l0 k (n / 256) (acc ++ [n % 256])) (fun k => ?_) ?_
      · simp only [pack_Num.l0]
        rw [if_pos hp, if_pos (by omega)]
      · have := ih (n / 256) (acc ++ [n % 256]) (by omega) (by omega) (by rw [List.length_append]; simp; omega)
        simpa using this
    · rw [if_neg hp]
      refine Ev.step (f := fun k => (slices_Reverse_byte_byte.f k acc).bind fun t => some t) (fun k => ?_) ?_
      · simp only [pack_Num.l0]
        rw [if_neg hp]
      · rw [List.append_nil]
        exact Ev.bind (rev_ev acc (by omega)) (Ev.now _)
theorem top8 : top 8 = 18446744073709551616 := by decide
def be (n : Int) : List Int := (le 8 n).reverse
theorem num_ev (n : Int) (h0 : 0 ≤ n) (h1 : n < 18446744073709551616) : Ev (fun k => pack_Num.f k n) (be n) := by
  have := num_loop 8 n [] h0 (by rw [top8]; exact h1) (by simp)
  exact Ev.congr (f := fun k => pack_Num.l0 k n []) (fun k => rfl) (by simpa [be] using this)

theorem refnum_loop : ∀ (d : Nat) (n : Int) (acc : List Int), 0 ≤ n → n < 18446744073709551616 → n < top d → acc.length + d ≤ 8 → Ev (fun k => gessoref11_Num.l0 k n acc) ((le d n).reverse ++ acc) := by
  intro d
  induction d with
  | zero =>
    intro n acc h0 h3 h1 h2
    have hn : n = 0 := by simp [top] at h1; omega
    subst hn
    refine Ev.step (f := fun k => some acc) (fun k => ?_) (by simpa [le] using Ev.now acc)
    simp only [gessoref11_Num.l0]
    rw [if_neg (by omega)]
  | succ d ih =>
    intro n acc h0 h3 h1 h2
    simp only [top] at h1
    rw [le]
    by_cases hp : n > 0
    · rw [if_pos hp]
      refine Ev.step (f := fun k => gessoref11_Num.l0 k (n / 256) (n % 256 :: acc)) (fun k => ?_) ?_
      · simp only [gessoref11_Num.l0]
        rw [if_pos hp]
        simp only [Option.bind_some, List.length_cons, List.length_nil]
        rw [if_pos (by omega), wrap_u64, Int.tdiv_eq_ediv_of_nonneg h0, Int.tmod_eq_emod_of_nonneg h0]
        have e1 : n % 256 % 256 = n % 256 := by omega
        have e2 : n / 256 % 18446744073709551616 = n / 256 := by omega
        rw [e1, e2]
        rfl
      · have := ih (n / 256) (n % 256 :: acc) (by omega) (by omega) (by omega) (by simp only [List.length_cons]; omega)
        simpa using this
    · rw [if_neg hp]
      refine Ev.step (f := fun k => some acc) (fun k => ?_) (by simpa using Ev.now acc)
      simp only [gessoref11_Num.l0]
      rw [if_neg hp]
theorem refnum_ev (n : Int) (h0 : 0 ≤ n) (h1 : n < 18446744073709551616) : Ev (fun k => gessoref11_Num.f k n) (be n) := by
  have := refnum_loop 8 n [] h0 h1 (by rw [top8]; exact h1) (by simp)
  exact Ev.congr (f := fun k => gessoref11_Num.l0 k n []) (fun k => rfl) (by simpa [be] using this)

/-! ### Number -/
def val (l : List Int) : Int := l.foldl (fun n c => 256 * n + c) 0
theorem val_snoc (l : List Int) (c : Int) : val (l ++ [c]) = 256 * val l + c := by simp [val]
def numb (b : List Int) : Int × Int := if b.length > 8 ∨ (0 < b.length ∧ rd b 0 = 0) then (0, 4) else (val b, 0)
theorem take_snoc (b : List Int) (i : Nat) (h : i < b.length) : b.take (i + 1) = b.take i ++ [b.getD i 0] := by
  rw [getD_lt b 0 i h]; exact List.take_succ_eq_append_getElem h
def lo : Nat → Int
  | 0 => 0
  | 1 => 1
  | d + 2 => 256 * lo (d + 1)

theorem number_loop (b : List Int) (hb : Bytes b) (hl : b.length < 4611686018427387904) : ∀ (d i : Nat) (n : Int), b.length - i = d → i ≤ b.length → i ≤ 8 → n = val (b.take i) → lo i ≤ n → n < top i → (i = 0 → n = 0) → (0 < i → rd b 0 ≠ 0) →
    Ev (fun k => pack_Number.l0 k n b (b.length : Int) (i : Int)) (numb b) := by
  intro d
  induction d with
  | zero =>
    intro i n hd hi h8 hn h1 h2 h3 h4
    refine Ev.step (f := fun k => some (n, 0)) (fun k => ?_) ?_
    · simp only [pack_Number.l0]
      rw [if_neg (by omega)]
    · have e : numb b = (n, 0) := by
        unfold numb
        rw [if_neg]
        · rw [hn, List.take_of_length_le (by omega)]
        · rintro (h | ⟨h, h'⟩)
          · omega
          · exact h4 (by omega) h'
      rw [e]
      exact Ev.now _
  | succ d ih =>
    intro i n hd hi h8 hn h1 h2 h3 h4
    have hlt : i < b.length := by omega
    have hc := hb.at (i : Int)
    have ih' := ih
    by_cases e0 : n = 0 ∧ rd b (i : Int) = 0
    · have hi0 : i = 0 := by
        by_cases h : i = 0
        · exact h
        · exfalso
          have : 1 ≤ lo i := by
            obtain rfl | rfl | rfl | rfl | rfl | rfl | rfl | rfl : i = 1 ∨ i = 2 ∨ i = 3 ∨ i = 4 ∨ i = 5 ∨ i = 6 ∨ i = 7 ∨ i = 8 := by omega
            all_goals simp [lo]
          omega
      subst hi0
      refine Ev.step (f := fun k => some (0, 4)) (fun k => ?_) ?_
      · simp only [pack_Number.l0]
        rw [if_pos (by omega), if_pos (by omega), if_pos (by omega), if_pos e0.1, if_pos e0.2]
      · have e : numb b = (0, 4) := by
          unfold numb
          rw [if_pos (.inr ⟨by omega, e0.2⟩)]
        rw [e]
        exact Ev.now _
    · by_cases e8 : i = 8
      · subst e8
        have hbig : ¬ n / 72057594037927936 = 0 := by simp [lo] at h1; omega
        refine Ev.step (f := fun k => some (0, 4)) (fun k => ?_) ?_
        · simp only [pack_Number.l0]
          rw [if_pos (by omega), if_pos (by omega), if_pos (by omega), if_neg (by simp [lo] at h1; omega), if_neg hbig]
        · have e : numb b = (0, 4) := by
            unfold numb
            rw [if_pos (.inl (by omega))]
          rw [e]
          exact Ev.now _
      · have hn56 : n < 72057594037927936 := by
          obtain rfl | rfl | rfl | rfl | rfl | rfl | rfl | rfl : i = 0 ∨ i = 1 ∨ i = 2 ∨ i = 3 ∨ i = 4 ∨ i = 5 ∨ i = 6 ∨ i = 7 := by omega
          all_goals simp [top] at h2; omega
        have hn0 : 0 ≤ n := by
          obtain rfl | rfl | rfl | rfl | rfl | rfl | rfl | rfl : i = 0 ∨ i = 1 ∨ i = 2 ∨ i = 3 ∨ i = 4 ∨ i = 5 ∨ i = 6 ∨ i = 7 := by omega
          all_goals simp [lo] at h1; omega
        have hz : n / 72057594037927936 = 0 := by omega
        have hor : Go.bits .or .u64 (IntKind.u64.wrap (n * 256)) (IntKind.u64.wrap (rd b (i : Int))) = 256 * n + rd b (i : Int) := by
          rw [wrap_u64, wrap_u64, or_u64 _ _ (by omega) (by omega) (by omega) (by omega) (by omega)]
          omega
        refine Ev.step (f := fun k => pack_Number.l0 k (256 * n + rd b (i : Int)) b (b.length : Int) ((i + 1 : Nat) : Int)) (fun k => ?_) ?_
        · simp only [pack_Number.l0, hor]
          rw [if_pos (by omega), if_pos (by omega), if_pos (by omega), w64 (by omega) (by omega)]
          by_cases e1 : n = 0
          · rw [if_pos e1, if_neg (fun h => e0 ⟨e1, h⟩), if_pos hz]
            rfl
          · rw [if_neg e1, if_pos hz]
            rfl
        · have hcv := rd_nat b i
          have hne : i = 0 → rd b 0 ≠ 0 := fun hi0 h => e0 ⟨h3 hi0, by rw [hi0]; exact h⟩
          have hn1 : 0 < i ∨ n = 0 := by
            by_cases hi0 : i = 0
            · exact .inr (h3 hi0)
            · exact .inl (by omega)
          have hc1 : i = 0 → rd b (i : Int) ≠ 0 := fun hi0 h => e0 ⟨h3 hi0, h⟩
          clear e0 hor ih h3
          refine ih' (i + 1) _ (by omega) (by omega) (by omega) ?_ ?_ ?_ (by omega) ?_
          · rw [take_snoc b i hlt, val_snoc, hn, hcv]
          · generalize rd b (i : Int) = c at hc hc1
            clear hn hcv hne
            obtain rfl | rfl | rfl | rfl | rfl | rfl | rfl | rfl : i = 0 ∨ i = 1 ∨ i = 2 ∨ i = 3 ∨ i = 4 ∨ i = 5 ∨ i = 6 ∨ i = 7 := by omega
            · have := hc1 rfl
              simp only [lo] at *
              omega
            all_goals simp [lo] at h1 ⊢; omega
          · generalize rd b (i : Int) = c at hc hc1
            clear hn hcv hne
            obtain rfl | rfl | rfl | rfl | rfl | rfl | rfl | rfl : i = 0 ∨ i = 1 ∨ i = 2 ∨ i = 3 ∨ i = 4 ∨ i = 5 ∨ i = 6 ∨ i = 7 := by omega
            all_goals simp [top] at h2 ⊢; omega
          · intro _
            by_cases hi0 : i = 0
            · exact hne hi0
            · exact h4 (by omega)
theorem number_ev (b : List Int) (hb : Bytes b) (hl : b.length < 4611686018427387904) : Ev (fun k => pack_Number.f k b) (numb b) :=
  number_loop b hb hl b.length 0 0 (by omega) (by omega) (by omega) (by simp [val]) (by simp [lo]) (by simp [top]) (fun _ => rfl) (by omega)

theorem refnumber_loop (b : List Int) (hb : Bytes b) (hl : b.length ≤ 8) : ∀ (d i : Nat) (n : Int), b.length - i = d → i ≤ b.length → n = val (b.take i) → 0 ≤ n → n < top i →
    Ev (fun k => gessoref11_Number.l0 k b n (i : Int)) (val b, 0) := by
  intro d
  induction d with
  | zero =>
    intro i n hd hi hn h1 h2
    refine Ev.step (f := fun k => some (n, 0)) (fun k => ?_) ?_
    · simp only [gessoref11_Number.l0]
      rw [if_neg (by omega)]
    · rw [hn, List.take_of_length_le (by omega)]
      exact Ev.now _
  | succ d ih =>
    intro i n hd hi hn h1 h2
    have hlt : i < b.length := by omega
    have hc := hb.at (i : Int)
    have hn56 : n < 72057594037927936 := by
      obtain rfl | rfl | rfl | rfl | rfl | rfl | rfl | rfl : i = 0 ∨ i = 1 ∨ i = 2 ∨ i = 3 ∨ i = 4 ∨ i = 5 ∨ i = 6 ∨ i = 7 := by omega
      all_goals simp [top] at h2; omega
    have hv : IntKind.u64.wrap ((IntKind.u64.wrap (256 * n)) + (IntKind.u64.wrap (rd b (i : Int)))) = 256 * n + rd b (i : Int) := by
      rw [wrap_u64, wrap_u64, wrap_u64]; omega
    refine Ev.step (f := fun k => gessoref11_Number.l0 k b (256 * n + rd b (i : Int)) ((i + 1 : Nat) : Int)) (fun k => ?_) ?_
    · simp only [gessoref11_Number.l0, hv]
      rw [if_pos (by omega), if_pos (by omega), w64 (by omega) (by omega)]
      rfl
    · refine ih (i + 1) _ (by omega) (by omega) ?_ (by omega) ?_
      · rw [take_snoc b i hlt, val_snoc, hn, rd_nat]
      · clear hv ih hn
        generalize rd b (i : Int) = c at hc ⊢
        obtain rfl | rfl | rfl | rfl | rfl | rfl | rfl | rfl : i = 0 ∨ i = 1 ∨ i = 2 ∨ i = 3 ∨ i = 4 ∨ i = 5 ∨ i = 6 ∨ i = 7 := by omega
        all_goals simp [top] at h2 ⊢; omega
theorem refnumber_ev (b : List Int) (hb : Bytes b) : Ev (fun k => gessoref11_Number.f k b) (numb b) := by
  unfold numb
  by_cases h8 : b.length > 8
  · rw [if_pos (.inl h8)]
    refine Ev.step (f := fun _ => some (0, 4)) (fun k => ?_) (Ev.now _)
    unfold gessoref11_Number.f
    rw [if_pos (by omega)]
    simp [gessoref11_Number.j0]
  · by_cases h0 : 0 < b.length
    · by_cases hz : rd b 0 = 0
      · rw [if_pos (.inr ⟨h0, hz⟩)]
        refine Ev.step (f := fun _ => some (0, 4)) (fun k => ?_) (Ev.now _)
        unfold gessoref11_Number.f
        rw [if_neg (by omega), if_pos (by omega), if_pos (by omega)]
        simp [gessoref11_Number.j0, hz]
      · rw [if_neg (by rintro (h | h); exact h8 h; exact hz h.2)]
        refine Ev.step (f := fun k => gessoref11_Number.l0 k b 0 ((0 : Nat) : Int)) (fun k => ?_) (refnumber_loop b hb (by omega) b.length 0 0 (by omega) (by omega) (by simp [val]) (by omega) (by simp [top]))
        unfold gessoref11_Number.f
        rw [if_neg (by omega), if_pos (by omega), if_pos (by omega)]
        simp [gessoref11_Number.j0, hz]
    · rw [if_neg (by rintro (h | h); exact h8 h; exact h0 h.1)]
      refine Ev.step (f := fun k => gessoref11_Number.l0 k b 0 ((0 : Nat) : Int)) (fun k => ?_) (refnumber_loop b hb (by omega) b.length 0 0 (by omega) (by omega) (by simp [val]) (by omega) (by simp [top]))
      unfold gessoref11_Number.f
      rw [if_neg (by omega), if_neg (by omega)]
      simp [gessoref11_Number.j0]

/-! ### What the laws share -/
theorem awake_ev : Ev (fun k => gessolaw11_awake.f k) true := Ev.of gessolaw11_awake.mono (k := 10) (by decide +kernel)

theorem bounds_u64 {n : Int} (h : (Lit.int .u64 n).wf = true) : 0 ≤ n ∧ n < 18446744073709551616 := by
  simp [Lit.wf, IntKind.min, IntKind.max, IntKind.signed, IntKind.bits] at h
  omega

theorem ones (l : List Int) : (l.map (fun _ => 1)).sum = l.length := by
  induction l with
  | nil => rfl
  | cons x l ih => simp only [List.map_cons, List.sum_cons, ih, List.length_cons]; omega
theorem bulk_rows (l : List (List Int)) : (pk l).length ≤ 2 * (l.map (fun l => (l.map (fun _ => 1)).sum + 1)).sum ∧ l.length ≤ (l.map (fun l => (l.map (fun _ => 1)).sum + 1)).sum ∧ ∀ x ∈ l, x.length ≤ (l.map (fun l => (l.map (fun _ => 1)).sum + 1)).sum := by
  induction l with
  | nil => simp [pk]
  | cons x l ih =>
    obtain ⟨h1, h2, h3⟩ := ih
    simp only [List.map_cons, List.sum_cons, pk_cons, List.length_append, lay_length, List.length_cons, ones] at *
    refine ⟨by omega, by omega, fun y hy => ?_⟩
    rcases List.mem_cons.1 hy with rfl | hy
    · omega
    · have := h3 y hy; omega
theorem rows_bytes {l : List (List Int)} (w : ∀ x ∈ l, ∀ y ∈ x, (Lit.int .u8 y).wf = true) : ∀ x ∈ l, Bytes x := fun x hx => Bytes.of x (w x hx)


end Go.Proofs.Ytejbkjbldmaodaa.Pure
