/- Plain facts on scans: the state behind all bytes, and how it goes on. No condition. -/
import Derived.Test.YtjlhehaagaaihaaDoorMd
import Derived.Test.YtjlhehaagaaihaaDoorGe
namespace Go.Proofs.YtjlhehaagaaihaaDoor.Pure
open Go.RowKit Go.Proofs.YtjlhehaagaaihaaDoor.P Go.Proofs.YtjlhehaagaaihaaDoorW.PrintWords Go.Proofs.YtjlhehaagaaihaaDoorW.PrintLast
set_option linter.unusedSimpArgs false

/-- May bytes go on to one code point? -/
def openB (l : List Int) : Bool := decide (0 < l.length) && decide (l.length < 4) && !fullR l
theorem open_f {l : List Int} (h : Bytes l) : scan_Open.f l = some (openB l) := by
  unfold scan_Open.f openB
  by_cases h0 : 0 < l.length
  · rw [if_pos (by omega), decide_eq_true h0]
    by_cases h1 : l.length < 4
    · rw [if_pos (by omega), decide_eq_true h1, utf8_FullRune.f, if_pos (b4_of h)]; rfl
    · rw [if_neg (by omega), decide_eq_false h1]; rfl
  · rw [if_neg (by omega), decide_eq_false h0]; rfl
theorem open_len {l : List Int} (h : openB l = true) : 0 < l.length ∧ l.length < 4 ∧ fullR l = false := by
  unfold openB at h
  simp only [Bool.and_eq_true, decide_eq_true_eq, Bool.not_eq_true'] at h
  exact ⟨h.1.1, h.1.2, h.2⟩
/-- Where bytes are not right. -/
def fgo : Nat → List Int → Int → Int
  | 0, l, at_ => if l = [] then -1 else at_
  | n + 1, l, at_ => if l = [] then -1 else if (one4 l).2 = 0 then at_ else fgo n (l.drop (one4 l).2.toNat) (at_ + (one4 l).2)
def faultN (l : List Int) : Int := fgo l.length l 0
def Rst (r : List Int) : Prop := r = [] ∨ (r ≠ [] ∧ one4 r = (0, 0))
theorem fgo_parts : ∀ (cs r : List Int) (n : Nat) (at_ : Int), allC cs → Rst r → (encs cs ++ r).length ≤ n → fgo n (encs cs ++ r) at_ = if r = [] then -1 else at_ + (encs cs).length
  | [], r, n, at_, _, hr, _ => by
    have e : encs [] ++ r = r := rfl
    rw [e]
    rcases hr with rfl | ⟨hr, h1⟩
    · cases n <;> simp [fgo]
    · cases n with
      | zero => simp [fgo, hr, encs]
      | succ n => simp [fgo, hr, h1, encs]
  | c :: cs, r, n, at_, hc, hr, hn => by
    obtain ⟨h1, h2⟩ := (allC_cons c cs).1 hc
    have hw := enc_length c
    have hp := wid_pos c h1
    rw [encs_cons, List.append_assoc] at hn ⊢
    rw [List.length_append] at hn
    obtain ⟨m, rfl⟩ : ∃ m, n = m + 1 := ⟨n - 1, by omega⟩
    have hne : enc c ++ (encs cs ++ r) ≠ [] := fun e => by
      have := congrArg List.length e
      rw [List.length_append, List.length_nil] at this
      omega
    rw [fgo, if_neg hne, one_enc c h1, if_neg (show ¬ wid c = 0 by omega)]
    simp only
    rw [show (wid c).toNat = (enc c).length by omega, List.drop_left, fgo_parts cs r m _ h2 hr (by omega)]
    by_cases h : r = []
    · rw [if_pos h, if_pos h]
    · rw [if_neg h, if_neg h, List.length_append]; omega
theorem fault_parts (cs r : List Int) (hc : allC cs) (hr : Rst r) : faultN (encs cs ++ r) = if r = [] then -1 else ((encs cs).length : Int) := by
  rw [faultN, fgo_parts cs r _ 0 hc hr (Nat.le_refl _), Int.zero_add]
theorem fault_ev (l : List Int) (hb : Bytes l) (hl : l.length < 4611686018427387904) : Ev (fun k => code_Fault.f k l) (faultN l) := by
  obtain ⟨cs, r, hc, he, hr⟩ := parts _ l (Nat.le_refl _) hb
  have h := cfault_ev cs r hc hr (by rw [← he]; exact hb) (by rw [← he]; exact hl)
  rw [he, fault_parts cs r hc hr]
  exact h
theorem fault_le (l : List Int) (hb : Bytes l) : faultN l ≤ l.length ∧ -1 ≤ faultN l := by
  obtain ⟨cs, r, hc, he, hr⟩ := parts _ l (Nat.le_refl _) hb
  rw [he, fault_parts cs r hc hr, List.length_append]
  split <;> omega
/-- The state behind all bytes. -/
def ofBad (l : List Int) : Int := if faultN l < 0 then -1 else if openB (l.drop (faultN l).toNat) = true then -1 else faultN l
def ofPend (l : List Int) : List Int := if faultN l < 0 then [] else if openB (l.drop (faultN l).toNat) = true then l.drop (faultN l).toNat else []
theorem of_parts (cs r : List Int) (hc : allC cs) (hr : Rst r) : ofBad (encs cs ++ r) = (if r = [] then -1 else if openB r = true then -1 else ((encs cs).length : Int)) ∧ ofPend (encs cs ++ r) = (if r = [] then [] else if openB r = true then r else []) := by
  unfold ofBad ofPend
  rw [fault_parts cs r hc hr]
  by_cases h : r = []
  · simp [h]
  · simp only [if_neg h, if_neg (show ¬ ((encs cs).length : Int) < 0 by omega), Int.toNat_natCast, List.drop_left]
    constructor <;> first | rfl | trivial
theorem keep (n n' b0 b1 b2 b3 c1 c2 c3 : Nat) (hn : 1 ≤ n) (hnn : n ≤ n') (h0 : b0 < 256) (h1 : b1 < 256) (h2 : b2 < 256) (h3 : b3 < 256) (k1 : c1 < 256) (k2 : c2 < 256) (k3 : c3 < 256) (e1 : 1 < n → c1 = b1) (e2 : 2 < n → c2 = b2) (e3 : 3 < n → c3 = b3)
    (hd : Lib.decodeN n b0 b1 b2 b3 = (65533, 1)) (hf : 4 ≤ n ∨ fullN n b0 b1 b2 = true) : Lib.decodeN n' b0 c1 c2 c3 = (65533, 1) ∧ (4 ≤ n' ∨ fullN n' b0 c1 c2 = true) := by
  by_cases hx : Lib.firstT b0 < 240
  · rw [← Lib.slow_eq n b0 b1 b2 b3 hn h1 h2 h3 hx] at hd
    rw [← Lib.slow_eq n' b0 c1 c2 c3 (by omega) k1 k2 k3 hx]
    have hsz : Lib.firstT b0 % 8 = 2 ∨ Lib.firstT b0 % 8 = 3 ∨ Lib.firstT b0 % 8 = 4 := by
      rcases Lib.firstT_cases b0 with h | h | h | h | h | h | h | h | h <;> omega
    unfold fullN at hf ⊢
    unfold Lib.slowN at hd ⊢
    generalize Lib.firstT b0 % 8 = sz at *
    generalize Lib.accLo (Lib.firstT b0 / 16) = lo at *
    generalize Lib.accHi (Lib.firstT b0 / 16) = hi at *
    have hn0 : ¬ n = 0 := by omega
    have hn0' : ¬ n' = 0 := by omega
    rw [if_neg hn0] at hf
    rw [if_neg hn0']
    by_cases hs : sz ≤ n
    · have hs' : sz ≤ n' := by omega
      rw [if_neg (show ¬ n < sz by omega)] at hd
      rw [if_neg (show ¬ n' < sz by omega), if_pos hs']
      refine ⟨?_, .inr rfl⟩
      obtain rfl := e1 (by omega)
      rcases hsz with rfl | rfl | rfl
      · simp only [show (2 : Nat) ≤ 2 by omega, if_true] at hd ⊢
        exact hd
      · obtain rfl := e2 (by omega)
        simp only [show ¬ (3 : Nat) ≤ 2 by omega, show (3 : Nat) ≤ 3 by omega, if_true, if_false] at hd ⊢
        exact hd
      · obtain rfl := e2 (by omega)
        obtain rfl := e3 (by omega)
        exact hd
    · rw [if_neg hs] at hf
      have hf' : (1 < n ∧ (b1 < lo ∨ hi < b1)) ∨ (2 < n ∧ (b2 < 128 ∨ 191 < b2)) := by
        rcases hf with hf | hf
        · omega
        · split at hf
          · exact .inl ‹_›
          · exact .inr (by simpa using hf)
      rcases hf' with ⟨hq, hbad⟩ | ⟨hq, hbad⟩
      · obtain rfl := e1 hq
        refine ⟨?_, .inr ?_⟩
        · by_cases hz : n' < sz
          · rw [if_pos hz]
          · rw [if_neg hz, if_pos hbad]
        · split
          · rfl
          · rw [if_pos ⟨by omega, hbad⟩]
      · obtain rfl := e1 (by omega)
        obtain rfl := e2 hq
        have h4 : sz = 4 := by omega
        subst h4
        refine ⟨?_, .inr ?_⟩
        · repeat' split
          all_goals first | rfl | (exfalso; omega)
        · split
          · rfl
          · split
            · rfl
            · exact decide_eq_true ⟨by omega, hbad⟩
  · have hge : Lib.firstT b0 = 240 ∨ Lib.firstT b0 = 241 := by
      rcases Lib.firstT_cases b0 with h | h | h | h | h | h | h | h | h <;> omega
    rcases hge with h | h
    · have hb0 : b0 < 128 := by
        by_cases hlt : b0 < 128
        · exact hlt
        · unfold Lib.firstT at h
          revert h
          repeat' split
          all_goals omega
      rw [Lib.ascii_eq _ _ _ _ _ h] at hd
      simp only [Prod.mk.injEq] at hd
      omega
    · refine ⟨Lib.bad_eq _ _ _ _ _ h0 h, .inr ?_⟩
      unfold fullN
      rw [h, if_neg (by omega), if_pos (by omega)]
theorem byte_lt {l : List Int} (h : Bytes l) (i : Nat) : byteAt l i < 256 := by
  have := h.at i
  unfold byteAt
  omega
theorem byte_app {l x : List Int} (i : Nat) (h : i < l.length) : byteAt (l ++ x) i = byteAt l i := by
  unfold byteAt
  rw [List.getD_eq_getElem?_getD, List.getElem?_append_left h, ← List.getD_eq_getElem?_getD]
/-- What is no code point's beginning, nor open, stays so. -/
theorem stays (r x : List Int) (hb : Bytes r) (hx : Bytes x) (hr : r ≠ []) (h1 : one4 r = (0, 0)) (ho : openB r = false) : one4 (r ++ x) = (0, 0) ∧ openB (r ++ x) = false := by
  have hl : 0 < r.length := by cases r <;> simp_all
  have hd : dec r = (65533, 1) := by
    have hw := Lib.decodeN_ge1 r.length (byteAt r 0) (byteAt r 1) (byteAt r 2) (byteAt r 3)
    unfold one4 at h1
    have e : dec r = Lib.decodeN r.length (byteAt r 0) (byteAt r 1) (byteAt r 2) (byteAt r 3) := by rw [dec, if_neg (by omega)]
    rw [← e] at hw
    split at h1
    · rename_i hh
      exact Prod.ext hh.1 (by omega)
    · simp only [Prod.mk.injEq] at h1
      omega
  have hf : 4 ≤ r.length ∨ fullN r.length (byteAt r 0) (byteAt r 1) (byteAt r 2) = true := by
    by_cases h4 : r.length < 4
    · right
      unfold openB at ho
      rw [decide_eq_true hl, decide_eq_true h4] at ho
      simpa [fullR] using ho
    · left; omega
  have hbx := hb.append hx
  rw [dec, if_neg (by omega)] at hd
  have k := keep r.length (r ++ x).length (byteAt r 0) (byteAt r 1) (byteAt r 2) (byteAt r 3) (byteAt (r ++ x) 1) (byteAt (r ++ x) 2) (byteAt (r ++ x) 3) hl (by rw [List.length_append]; omega) (byte_lt hb _) (byte_lt hb _) (byte_lt hb _) (byte_lt hb _) (byte_lt hbx _) (byte_lt hbx _) (byte_lt hbx _)
    (fun h => byte_app 1 h) (fun h => byte_app 2 h) (fun h => byte_app 3 h) hd hf
  have e0 := byte_app (x := x) 0 hl
  have hd' : dec (r ++ x) = (65533, 1) := by rw [dec, if_neg (by rw [List.length_append]; omega), e0]; exact k.1
  refine ⟨by rw [one4, hd', if_pos ⟨rfl, by omega⟩], ?_⟩
  rw [← e0] at k
  unfold openB
  rcases k.2 with h4 | h4
  · rw [decide_eq_false (show ¬ (r ++ x).length < 4 by omega)]; simp
  · rw [show fullR (r ++ x) = true from h4]; simp
theorem encs_app (a b : List Int) : encs (a ++ b) = encs a ++ encs b := by simp [encs]
theorem allC_app {a b : List Int} (h : allC a) (k : allC b) : allC (a ++ b) := fun x hx => (List.mem_append.1 hx).elim (h x) (k x)
/-- A scan goes on as over all bytes. -/
theorem next_bad (a x : List Int) (ha : Bytes a) (hx : Bytes x) (h : 0 ≤ ofBad a) : ofBad (a ++ x) = ofBad a ∧ ofPend a = [] ∧ ofPend (a ++ x) = [] := by
  obtain ⟨cs, r, hc, he, hr⟩ := parts _ a (Nat.le_refl _) ha
  obtain ⟨p1, p2⟩ := of_parts cs r hc hr
  rw [← he] at p1 p2
  by_cases h0 : r = []
  · rw [p1, if_pos h0] at h; omega
  · rw [if_neg h0] at p1 p2
    by_cases ho : openB r = true
    · rw [p1, if_pos ho] at h; omega
    · rw [if_neg ho] at p1 p2
      have hrb : Bytes r := fun z hz => ha z (by rw [he]; simp [hz])
      have h1 : one4 r = (0, 0) := hr.elim (fun e => absurd e h0) (fun e => e.2)
      obtain ⟨s1, s2⟩ := stays r x hrb hx h0 h1 (by simpa using ho)
      have hne : r ++ x ≠ [] := by simp [h0]
      obtain ⟨q1, q2⟩ := of_parts cs (r ++ x) hc (.inr ⟨hne, s1⟩)
      rw [if_neg hne, if_neg (by rw [s2]; simp)] at q1 q2
      rw [← List.append_assoc, ← he] at q1 q2
      exact ⟨q1.trans p1.symm, p2, q2⟩
theorem next_good (a x : List Int) (ha : Bytes a) (hx : Bytes x) (h : ofBad a < 0) : ofBad a = -1 ∧ (ofPend a).length ≤ 3 ∧ (ofPend a).length ≤ a.length ∧ Bytes (ofPend a) ∧
    lookBad ((a.length : Int) - (ofPend a).length) (-1) (faultN (ofPend a ++ x)) (openB ((ofPend a ++ x).drop (faultN (ofPend a ++ x)).toNat)) = ofBad (a ++ x) ∧
    lookPend (ofPend a ++ x) (faultN (ofPend a ++ x)) (openB ((ofPend a ++ x).drop (faultN (ofPend a ++ x)).toNat)) = ofPend (a ++ x) := by
  obtain ⟨cs, r, hc, he, hr⟩ := parts _ a (Nat.le_refl _) ha
  obtain ⟨p1, p2⟩ := of_parts cs r hc hr
  rw [← he] at p1 p2
  have hrb : Bytes r := fun z hz => ha z (by rw [he]; simp [hz])
  have hlen := congrArg List.length he
  rw [List.length_append] at hlen
  have key : ofBad a = -1 ∧ ofPend a = r ∧ r.length ≤ 3 := by
    by_cases h0 : r = []
    · rw [if_pos h0] at p1 p2
      exact ⟨p1, by rw [p2, h0], by simp [h0]⟩
    · rw [if_neg h0] at p1 p2
      by_cases ho : openB r = true
      · rw [if_pos ho] at p1 p2
        exact ⟨p1, p2, by have := open_len ho; omega⟩
      · rw [if_neg ho] at p1
        omega
  obtain ⟨k1, k2, k3⟩ := key
  rw [k1, k2]
  refine ⟨rfl, k3, by omega, hrb, ?_⟩
  obtain ⟨ds, t, hd, hf, ht⟩ := parts _ (r ++ x) (Nat.le_refl _) (hrb.append hx)
  have e2 : a ++ x = encs (cs ++ ds) ++ t := by rw [encs_app, List.append_assoc, ← hf, ← List.append_assoc, ← he]
  obtain ⟨q1, q2⟩ := of_parts (cs ++ ds) t (allC_app hc hd) ht
  rw [← e2] at q1 q2
  rw [q1, q2, hf, fault_parts ds t hd ht]
  unfold lookBad lookPend
  by_cases h0 : t = []
  · simp [h0]
  · simp only [if_neg h0, if_neg (show ¬ ((encs ds).length : Int) < 0 by omega), Int.toNat_natCast, List.drop_left]
    by_cases ho : openB t = true
    · simp [ho]
    · simp only [if_neg ho, encs_app, List.length_append]
      constructor
      · omega
      · trivial
theorem end_of (a : List Int) (ha : Bytes a) : endOf a.length (ofBad a) (ofPend a).length = faultN a := by
  obtain ⟨cs, r, hc, he, hr⟩ := parts _ a (Nat.le_refl _) ha
  obtain ⟨p1, p2⟩ := of_parts cs r hc hr
  have p3 := fault_parts cs r hc hr
  rw [← he] at p1 p2 p3
  have hlen := congrArg List.length he
  rw [List.length_append] at hlen
  rw [p1, p2, p3]
  unfold endOf
  by_cases h0 : r = []
  · simp [h0]
  · have hrl : 0 < r.length := by cases r <;> simp_all
    simp only [if_neg h0]
    by_cases ho : openB r = true
    · rw [if_pos ho, if_pos ho, if_neg (by omega), if_neg (by omega)]; omega
    · rw [if_neg ho, if_pos (by omega)]
theorem bad_le (a : List Int) (ha : Bytes a) : -1 ≤ ofBad a ∧ ofBad a ≤ a.length ∧ (0 ≤ ofBad a → ofBad a < a.length ∧ ofPend a = [] ∧ ofBad a = faultN a) ∧ (ofPend a ≠ [] → openB (ofPend a) = true ∧ ofBad a = -1) ∧ (ofPend a).length ≤ a.length ∧ (ofPend a).length ≤ 3 ∧ Bytes (ofPend a) := by
  obtain ⟨cs, r, hc, he, hr⟩ := parts _ a (Nat.le_refl _) ha
  obtain ⟨p1, p2⟩ := of_parts cs r hc hr
  have p3 := fault_parts cs r hc hr
  rw [← he] at p1 p2 p3
  have hrb : Bytes r := fun z hz => ha z (by rw [he]; simp [hz])
  have hlen := congrArg List.length he
  rw [List.length_append] at hlen
  rw [p1, p2, p3]
  by_cases h0 : r = []
  · simp [h0, Bytes]
  · have hrl : 0 < r.length := by cases r <;> simp_all
    simp only [if_neg h0]
    by_cases ho : openB r = true
    · have := open_len ho
      simp only [if_pos ho]
      refine ⟨by omega, by omega, by omega, fun _ => ⟨ho, trivial⟩, by omega, by omega, hrb⟩
    · simp only [if_neg ho]
      refine ⟨by omega, by omega, fun _ => ⟨by omega, trivial, trivial⟩, fun h => absurd trivial (by simp at h), by simp, by simp, by simp [Bytes]⟩
end Go.Proofs.YtjlhehaagaaihaaDoor.Pure
