/- Plain facts on what is open, by the reference: some bytes behind it make it one code point. No condition. -/
import Derived.Test.YtjlhehaagaaihaaDoorMf
import Derived.Test.YtjlhehaagaaihaaDoorEg
namespace Go.Proofs.YtjlhehaagaaihaaDoor.Pure
open Go.RowKit Go.Proofs.YtjlhehaagaaihaaDoor.P Go.Proofs.YtjlhehaagaaihaaDoorW.PrintWords Go.Proofs.YtjlhehaagaaihaaDoorW.PrintLast
set_option linter.unusedSimpArgs false
set_option linter.unusedVariables false

def opts : List Int := [128, 143, 158, 173, 188, 144, 160, 191]
def tl : Nat → List (List Int)
  | 0 => [[]]
  | n + 1 => (tl n).flatMap fun p => opts.map fun c => p ++ [c]
theorem tl_mem {n : Nat} {t : List Int} (h : t ∈ tl n) : t.length = n ∧ Bytes t := by
  induction n generalizing t with
  | zero =>
    obtain rfl : t = [] := by simpa [tl] using h
    exact ⟨rfl, fun x hx => by cases hx⟩
  | succ n ih =>
    obtain ⟨p, hp, hc⟩ := List.mem_flatMap.1 h
    obtain ⟨c, hco, rfl⟩ := List.mem_map.1 hc
    obtain ⟨h1, h2⟩ := ih hp
    refine ⟨by rw [List.length_append, h1]; rfl, h2.append fun x hx => ?_⟩
    rw [List.mem_singleton.1 hx]
    have : ∀ c ∈ opts, 0 ≤ c ∧ c < 256 := by decide
    exact this c hco
theorem tl_add {n : Nat} {t : List Int} (h : t ∈ tl n) {c : Int} (hc : c ∈ opts) : t ++ [c] ∈ tl (n + 1) := List.mem_flatMap.2 ⟨t, h, List.mem_map.2 ⟨c, hc, rfl⟩⟩
theorem tl_one {a : Int} (ha : a ∈ opts) : [a] ∈ tl 1 := tl_add (t := []) (n := 0) (by simp [tl]) ha
theorem tl_two {a b : Int} (ha : a ∈ opts) (hb : b ∈ opts) : [a, b] ∈ tl 2 := tl_add (tl_one ha) hb
theorem tl_three {a b c : Int} (ha : a ∈ opts) (hb : b ∈ opts) (hc : c ∈ opts) : [a, b, c] ∈ tl 3 := tl_add (tl_two ha hb) hc

/-- What is open: its first byte wants more, and what is there fits. -/
theorem open_is {l : List Int} (hb : Bytes l) (h : openB l = true) : ∃ sz lo hi, sz = Lib.firstT (byteAt l 0) % 8 ∧ lo = Lib.accLo (Lib.firstT (byteAt l 0) / 16) ∧ hi = Lib.accHi (Lib.firstT (byteAt l 0) / 16) ∧ Lib.firstT (byteAt l 0) < 240 ∧ l.length < sz ∧ sz ≤ 4 ∧
    (lo = 128 ∨ lo = 144 ∨ lo = 160) ∧ lo ≤ hi ∧ (1 < l.length → lo ≤ byteAt l 1 ∧ byteAt l 1 ≤ hi) ∧ (2 < l.length → 128 ≤ byteAt l 2 ∧ byteAt l 2 ≤ 191) := by
  obtain ⟨h0, h4, hf⟩ := open_len h
  unfold fullR fullN at hf
  rw [if_neg (by omega)] at hf
  refine ⟨_, _, _, rfl, rfl, rfl, ?_⟩
  by_cases hs : Lib.firstT (byteAt l 0) % 8 ≤ l.length
  · rw [if_pos hs] at hf; cases hf
  rw [if_neg hs] at hf
  have hlo : Lib.firstT (byteAt l 0) < 240 ∧ Lib.firstT (byteAt l 0) % 8 ≤ 4 ∧ (Lib.accLo (Lib.firstT (byteAt l 0) / 16) = 128 ∨ Lib.accLo (Lib.firstT (byteAt l 0) / 16) = 144 ∨ Lib.accLo (Lib.firstT (byteAt l 0) / 16) = 160) ∧ Lib.accLo (Lib.firstT (byteAt l 0) / 16) ≤ Lib.accHi (Lib.firstT (byteAt l 0) / 16) := by
    rcases Lib.firstT_cases (byteAt l 0) with e | e | e | e | e | e | e | e | e <;> rw [e] at hs ⊢ <;> first | (exfalso; omega) | decide
  refine ⟨hlo.1, by omega, hlo.2.1, hlo.2.2.1, hlo.2.2.2, ?_, ?_⟩
  · intro h1
    split at hf
    · cases hf
    · rename_i hn
      omega
  · intro h2
    split at hf
    · cases hf
    · have := of_decide_eq_false hf
      omega
theorem open_one {l : List Int} (hb : Bytes l) (h : openB l = true) : one4 l = (0, 0) := by
  obtain ⟨sz, lo, hi, e1, e2, e3, h1, h2, _⟩ := open_is hb h
  have h0 := (open_len h).1
  have hd : dec l = (65533, 1) := by
    rw [dec, if_neg (by omega), ← Lib.slow_eq _ _ _ _ _ (by omega) (byte_lt hb _) (byte_lt hb _) (byte_lt hb _) h1, ← e1]
    unfold Lib.slowN
    rw [if_pos h2]
  rw [one4, hd, if_pos ⟨rfl, by omega⟩]
theorem byte_nat {l : List Int} (t : List Int) (i : Nat) (x : Nat) (h : (l ++ t).getD i 0 = (x : Int)) : byteAt (l ++ t) i = x := by
  unfold byteAt
  rw [h]
  rfl
theorem byte_behind (l t : List Int) (i : Nat) : byteAt (l ++ t) (l.length + i) = byteAt t i := by
  unfold byteAt
  rw [List.getD_eq_getElem?_getD, List.getElem?_append_right (by omega), List.getD_eq_getElem?_getD]
  congr 3
  omega
theorem fits {l t : List Int} (hb : Bytes l) (ht : Bytes t) (h : openB l = true) (sz lo hi : Nat) (e1 : sz = Lib.firstT (byteAt l 0) % 8) (e2 : lo = Lib.accLo (Lib.firstT (byteAt l 0) / 16)) (e3 : hi = Lib.accHi (Lib.firstT (byteAt l 0) / 16)) (h1 : Lib.firstT (byteAt l 0) < 240) (hn : (l ++ t).length = sz) (hs : 2 ≤ sz) (hs4 : sz ≤ 4)
    (k1 : lo ≤ byteAt (l ++ t) 1 ∧ byteAt (l ++ t) 1 ≤ hi) (k2 : 2 < sz → 128 ≤ byteAt (l ++ t) 2 ∧ byteAt (l ++ t) 2 ≤ 191) (k3 : 3 < sz → 128 ≤ byteAt (l ++ t) 3 ∧ byteAt (l ++ t) 3 ≤ 191) : (one4 (l ++ t)).2 = (sz : Int) := by
  have hbt := hb.append ht
  have h0 : byteAt (l ++ t) 0 = byteAt l 0 := byte_app 0 (open_len h).1
  have hd : (dec (l ++ t)).2 = sz := by
    rw [dec, if_neg (by omega), ← Lib.slow_eq _ _ _ _ _ (by omega) (byte_lt hbt _) (byte_lt hbt _) (byte_lt hbt _) (by rw [h0]; exact h1), h0, ← e1, ← e2, ← e3, hn]
    unfold Lib.slowN
    rw [if_neg (by omega), if_neg (by omega)]
    by_cases a : sz ≤ 2
    · rw [if_pos a]; show 2 = sz; omega
    · rw [if_neg a, if_neg (by have := k2 (by omega); omega)]
      by_cases b : sz ≤ 3
      · rw [if_pos b]; show 3 = sz; omega
      · rw [if_neg b, if_neg (by have := k3 (by omega); omega)]; show 4 = sz; omega
  rw [one4, if_neg (by omega)]
  show ((dec (l ++ t)).2 : Int) = sz
  rw [hd]
theorem open_tail {l : List Int} (hb : Bytes l) (h : openB l = true) : ∃ n t, 1 ≤ n ∧ n + l.length ≤ 4 ∧ t ∈ tl n ∧ (one4 (l ++ t)).2 = (n : Int) + l.length := by
  obtain ⟨sz, lo, hi, e1, e2, e3, h1, h2, h4, hlo, hlh, q1, q2⟩ := open_is hb h
  have h0 := (open_len h).1
  have m128 : (128 : Int) ∈ opts := by decide
  have mlo : (lo : Int) ∈ opts := by rcases hlo with rfl | rfl | rfl <;> decide
  have hx : 128 ≤ lo := by omega
  -- the tail: what the second place asks for, then 128
  have go : ∀ t : List Int, t ∈ tl (sz - l.length) → Bytes t → t.length = sz - l.length → (∀ i, i < t.length → 128 ≤ byteAt t i ∧ byteAt t i ≤ 191) → (l.length = 1 → byteAt t 0 = lo) → ∃ n t, 1 ≤ n ∧ n + l.length ≤ 4 ∧ t ∈ tl n ∧ (one4 (l ++ t)).2 = (n : Int) + l.length := by
    intro t ht hbt hlt hr hfirst
    have hlen : (l ++ t).length = sz := by rw [List.length_append, hlt]; omega
    refine ⟨sz - l.length, t, by omega, by omega, ht, ?_⟩
    have place : ∀ i, l.length ≤ i → i < sz → 128 ≤ byteAt (l ++ t) i ∧ byteAt (l ++ t) i ≤ 191 := fun i hi1 hi2 => by
      have := byte_behind l t (i - l.length)
      rw [show l.length + (i - l.length) = i by omega] at this
      rw [this]
      exact hr _ (by omega)
    have hf := fits hb hbt h sz lo hi e1 e2 e3 h1 hlen (by omega) h4 ?_ ?_ ?_
    · rw [hf]; omega
    · by_cases a : 1 < l.length
      · rw [byte_app 1 a]; exact q1 a
      · have e : byteAt (l ++ t) 1 = byteAt t 0 := by have := byte_behind l t 0; rwa [show l.length + 0 = 1 by omega] at this
        rw [e, hfirst (by omega)]
        exact ⟨Nat.le_refl _, hlh⟩
    · intro a
      by_cases c : 2 < l.length
      · rw [byte_app 2 c]; exact q2 c
      · exact place 2 (by omega) a
    · intro a
      by_cases c : 3 < l.length
      · omega
      · exact place 3 (by omega) a
  have hsz : sz - l.length = 1 ∨ sz - l.length = 2 ∨ sz - l.length = 3 := by omega
  have b128 : ∀ i x, byteAt (x :: List.replicate i 128) 0 = x.toNat := fun _ _ => rfl
  rcases hsz with e | e | e <;> rw [e] at go
  · refine go [(lo : Int)] (tl_one mlo) (tl_mem (tl_one mlo)).2 rfl (fun i hi => ?_) (fun _ => rfl)
    obtain rfl : i = 0 := by simpa using hi
    show 128 ≤ (lo : Int).toNat ∧ (lo : Int).toNat ≤ 191
    omega
  · refine go [(lo : Int), 128] (tl_two mlo m128) (tl_mem (tl_two mlo m128)).2 rfl (fun i hi => ?_) (fun _ => rfl)
    have : i = 0 ∨ i = 1 := by simp at hi; omega
    rcases this with rfl | rfl
    · show 128 ≤ (lo : Int).toNat ∧ (lo : Int).toNat ≤ 191
      omega
    · show 128 ≤ 128 ∧ 128 ≤ 191
      omega
  · refine go [(lo : Int), 128, 128] (tl_three mlo m128 m128) (tl_mem (tl_three mlo m128 m128)).2 rfl (fun i hi => ?_) (fun _ => rfl)
    have : i = 0 ∨ i = 1 ∨ i = 2 := by simp at hi; omega
    rcases this with rfl | rfl | rfl
    · show 128 ≤ (lo : Int).toNat ∧ (lo : Int).toNat ≤ 191
      omega
    · show 128 ≤ 128 ∧ 128 ≤ 191
      omega
    · show 128 ≤ 128 ∧ 128 ≤ 191
      omega
theorem no_tail {l t : List Int} (hb : Bytes l) (ht : Bytes t) (hl : 0 < l.length) (h : openB l = false) (hlt : 0 < t.length) : (one4 (l ++ t)).2 ≠ (t.length : Int) + l.length := by
  by_cases h1 : (one4 l).2 = 0
  · have hne : l ≠ [] := fun e => by rw [e] at hl; simp at hl
    have hz : one4 l = (0, 0) := one_none l hb fun c hc r he => by
      have := one_enc c hc r
      rw [he, this] at h1
      have := wid_pos c hc
      simp only at h1
      omega
    rw [(stays l t hb ht hne hz h).1]
    show (0 : Int) ≠ _
    omega
  · obtain ⟨hc, hw, he⟩ := one_back l hb h1
    have := one_enc (one4 l).1 hc (l.drop (one4 l).2.toNat ++ t)
    rw [← List.append_assoc, ← he] at this
    rw [this]
    have h2 := enc_length (one4 l).1
    have h3 := congrArg List.length he
    rw [List.length_append] at h3
    show wid _ ≠ _
    omega
theorem fault_open {l : List Int} (hb : Bytes l) (h : openB l = true) : faultN l = 0 := by
  have h0 := (open_len h).1
  have hne : l ≠ [] := fun e => by rw [e] at h0; simp at h0
  have := fault_parts [] l (fun x hx => by cases hx) (.inr ⟨hne, open_one hb h⟩)
  rw [if_neg hne] at this
  exact this
theorem rfault (l : List Int) (hb : Bytes l) (hl : l.length < 4611686018427387904) : Ev (fun k => gessoref01_Fault.f k l) (faultN l) := by
  obtain ⟨cs, r, hc, he, hr⟩ := parts _ l (Nat.le_refl _) hb
  have h := rfault_ev cs r hc hr (by rw [← he]; exact hb) (by rw [← he]; exact hl)
  rw [he, fault_parts cs r hc hr]
  exact h
set_option maxRecDepth 100000 in
theorem tails_one : Ev (fun k => gessoref02_tails.f k 1) (tl 1) := Ev.of (gessoref02_tails.mono 1) (k := 100) (by decide +kernel)
set_option maxRecDepth 100000 in
theorem tails_two : Ev (fun k => gessoref02_tails.f k 2) (tl 2) := Ev.of (gessoref02_tails.mono 2) (k := 200) (by decide +kernel)
set_option maxRecDepth 100000 in
theorem tails_three : Ev (fun k => gessoref02_tails.f k 3) (tl 3) := Ev.of (gessoref02_tails.mono 3) (k := 1000) (by decide +kernel)
theorem tails_ev (n : Nat) (h1 : 1 ≤ n) (h3 : n ≤ 3) : Ev (fun k => gessoref02_tails.f k (n : Int)) (tl n) := by
  have : n = 1 ∨ n = 2 ∨ n = 3 := by omega
  rcases this with rfl | rfl | rfl
  · exact tails_one
  · exact tails_two
  · exact tails_three
def hit (l : List Int) (n : Nat) (t : List Int) : Bool := decide ((one4 (l ++ t)).2 = (n : Int) + l.length)
theorem rd_L2_nat (xs : List (List Int)) (i : Nat) : rd_L2 xs (i : Int) = xs.getD i [] := by simp [rd_L2]
theorem tl_len (n : Nat) (h3 : n ≤ 3) : (tl n).length ≤ 512 := by
  have : n = 0 ∨ n = 1 ∨ n = 2 ∨ n = 3 := by omega
  rcases this with rfl | rfl | rfl | rfl <;> decide +kernel
theorem open_l1 (l : List Int) (hb : Bytes l) (hl : l.length ≤ 3) (n : Nat) (h1 : 1 ≤ n) (h3 : n ≤ 3) (v : Bool) (hv : Ev (fun k => gessoref02_Open.l0 k l ((n : Int) + 1)) v) :
    ∀ (m i : Nat), (tl n).length - i = m → i ≤ (tl n).length → Ev (fun k => gessoref02_Open.l1 k l (n : Int) (tl n) (i : Int)) (((tl n).drop i).any (hit l n) || v) := by
  have hT := tl_len n h3
  intro m
  induction m with
  | zero =>
    intro i hm hi
    obtain rfl : i = (tl n).length := by omega
    rw [List.drop_length]
    refine Ev.step (fun k => by rw [gessoref02_Open.l1, if_neg (by omega), w64 (by omega) (by omega)]) ?_
    simpa using hv
  | succ m ih =>
    intro i hm hi
    have hlt : i < (tl n).length := by omega
    have hmem : (tl n).getD i [] ∈ tl n := by rw [getD_lt _ _ _ hlt]; exact List.getElem_mem hlt
    obtain ⟨q1, q2⟩ := tl_mem hmem
    rw [drop_at (tl n) [] i hlt, List.any_cons]
    refine Ev.step (fun k => by rw [gessoref02_Open.l1, if_pos (by omega)]) ?_
    simp only [Option.bind_some, List.nil_append, List.length_nil, Nat.zero_add, rd_L2_nat, if_pos (show l.length < 140737488355328 by omega), if_pos (show (0 : Int) ≤ (i : Int) by omega), q1, if_pos (show l.length + n < 140737488355328 by omega)]
    refine Ev.bind (ref_one _ (hb.append q2) (by rw [List.length_append, q1]; omega)) ?_
    rw [w64 (by omega) (by omega), w64 (by omega) (by omega)]
    by_cases hh : (one4 (l ++ (tl n).getD i [])).2 = (n : Int) + l.length
    · rw [show hit l n ((tl n).getD i []) = true from decide_eq_true hh, Bool.true_or, Bool.true_or]
      simp only [if_pos hh]
      exact Ev.now _
    · rw [show hit l n ((tl n).getD i []) = false from decide_eq_false hh, Bool.false_or]
      simp only [if_neg hh]
      have := ih (i + 1) (by omega) (by omega)
      rwa [Int.natCast_add] at this
def anyTail (l : List Int) : Nat → Nat → Bool
  | 0, _ => false
  | m + 1, n => (tl n).any (hit l n) || anyTail l m (n + 1)
theorem open_l0 (l : List Int) (hb : Bytes l) (hl1 : 1 ≤ l.length) (hl : l.length ≤ 3) : ∀ (m n : Nat), 5 - l.length - n = m → 1 ≤ n → n ≤ 5 → Ev (fun k => gessoref02_Open.l0 k l (n : Int)) (anyTail l m n)
  | 0, n, hm, hn, h5 => by
    exact Ev.step (f := fun _ => some false) (fun k => by rw [gessoref02_Open.l0, if_neg (by rw [w64 (by omega) (by omega)]; omega)]) (Ev.now _)
  | m + 1, n, hm, hn, h5 => by
    have ih := open_l0 l hb hl1 hl m (n + 1) (by omega) (by omega) (by omega)
    refine Ev.step (fun k => by rw [gessoref02_Open.l0, if_pos (by rw [w64 (by omega) (by omega)]; omega)]) ?_
    refine Ev.bind (tails_ev n hn (by omega)) ?_
    have := open_l1 l hb hl n hn (by omega) _ (by rw [Int.natCast_add] at ih; exact ih) _ 0 rfl (by omega)
    rw [List.drop_zero] at this
    exact this
theorem anyTail_iff (l : List Int) : ∀ (m n : Nat), anyTail l m n = true ↔ ∃ j t, n ≤ j ∧ j < n + m ∧ t ∈ tl j ∧ hit l j t = true
  | 0, n => by
    constructor
    · intro h; cases h
    · rintro ⟨j, t, h1, h2, _⟩; omega
  | m + 1, n => by
    rw [anyTail, Bool.or_eq_true, anyTail_iff l m (n + 1), List.any_eq_true]
    constructor
    · rintro (⟨t, ht, hh⟩ | ⟨j, t, h1, h2, ht, hh⟩)
      · exact ⟨n, t, Nat.le_refl _, by omega, ht, hh⟩
      · exact ⟨j, t, by omega, by omega, ht, hh⟩
    · rintro ⟨j, t, h1, h2, ht, hh⟩
      by_cases e : j = n
      · subst e; exact .inl ⟨t, ht, hh⟩
      · exact .inr ⟨j, t, by omega, by omega, ht, hh⟩
/-- The document's answer is the program's. -/
theorem ref_open (l : List Int) (hb : Bytes l) : Ev (fun k => gessoref02_Open.f k l) (openB l) := by
  unfold gessoref02_Open.f
  have hno : ∀ x : Bool, x = true → Ev (fun k => gessoref02_Open.j0 k l x) false := fun x hx => by
    refine Ev.step (f := fun _ => some false) (fun k => ?_) (Ev.now _)
    rw [gessoref02_Open.j0, if_pos hx]
  by_cases h1 : 1 ≤ l.length
  · by_cases h3 : l.length ≤ 3
    · simp only [if_neg (show ¬ (l.length : Int) < 1 by omega), if_neg (show ¬ (l.length : Int) > 3 by omega)]
      refine Ev.bind (rfault l hb (by omega)) ?_
      by_cases hf : faultN l < 0
      · have ho : openB l = false := by
          cases h : openB l
          · rfl
          · have := fault_open hb h; omega
        rw [ho, decide_eq_true hf]
        exact hno true rfl
      · rw [decide_eq_false hf]
        refine Ev.step (fun k => by rw [gessoref02_Open.j0, if_neg (by simp)]) ?_
        have h := open_l0 l hb h1 h3 _ 1 rfl (Nat.le_refl _) (by omega)
        have e : anyTail l (5 - l.length - 1) 1 = openB l := by
          cases ho : openB l
          · refine Bool.eq_false_iff.2 fun ht => ?_
            obtain ⟨j, t, q1, q2, q3, q4⟩ := (anyTail_iff l _ _).1 ht
            obtain ⟨r1, r2⟩ := tl_mem q3
            have := no_tail hb r2 (by omega) ho (by omega)
            rw [r1] at this
            exact this (of_decide_eq_true q4)
          · obtain ⟨n, t, q1, q2, q3, q4⟩ := open_tail hb ho
            exact (anyTail_iff l _ _).2 ⟨n, t, q1, by omega, q3, decide_eq_true q4⟩
        rw [e] at h
        exact h
    · have ho : openB l = false := by
        unfold openB
        rw [decide_eq_false (show ¬ l.length < 4 by omega)]
        simp
      rw [ho]
      simp only [if_neg (show ¬ (l.length : Int) < 1 by omega), if_pos (show (l.length : Int) > 3 by omega)]
      exact hno true rfl
  · have ho : openB l = false := by
      unfold openB
      rw [decide_eq_false (show ¬ 0 < l.length by omega)]
      simp
    rw [ho]
    simp only [if_pos (show (l.length : Int) < 1 by omega)]
    exact hno true rfl
end Go.Proofs.YtjlhehaagaaihaaDoor.Pure
