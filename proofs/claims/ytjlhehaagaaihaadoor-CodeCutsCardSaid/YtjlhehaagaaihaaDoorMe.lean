/- Plain facts on the code points of bytes: what Codes tells. No condition. -/
import Derived.Test.YtjlhehaagaaihaaDoorMd
import Derived.Test.YtjlhehaagaaihaaDoorEe
import Derived.Test.YtjlhehaagaaihaaDoorPx16
namespace Go.Proofs.YtjlhehaagaaihaaDoor.Pure
open Go.RowKit Go.Proofs.YtjlhehaagaaihaaDoor.P Go.Proofs.YtjlhehaagaaihaaDoorW.PrintWords Go.Proofs.YtjlhehaagaaihaaDoorW.PrintLast
set_option linter.unusedSimpArgs false

theorem allb_of {l : List Int} (h : Bytes l) : allb l = true := by
  refine List.all_eq_true.2 fun x hx => ?_
  have := h x hx
  simp only [Bool.and_eq_true, decide_eq_true_eq]
  omega
theorem asB_len (l : List Int) : (asB l).length = l.length := by simp [asB]
theorem asB_get {l : List Int} (h : Bytes l) (i : Nat) : ((asB l).getD i 0).toNat = byteAt l i := by
  have hb := h.at i
  unfold byteAt
  by_cases hi : i < l.length
  · have e : (asB l).getD i 0 = UInt8.ofNat (l.getD i 0).toNat := by simp [asB, List.getD, List.getElem?_map, List.getElem?_eq_getElem hi]
    rw [e, UInt8.toNat_ofNat']
    omega
  · have e : (asB l).getD i 0 = 0 := by simp [asB, List.getD, List.getElem?_map, List.getElem?_eq_none (Nat.not_lt.1 hi)]
    have e2 : l.getD i 0 = 0 := by simp [List.getD, List.getElem?_eq_none (Nat.not_lt.1 hi)]
    rw [e, e2]; rfl
theorem dec_B {l : List Int} (h : Bytes l) (hne : l ≠ []) : Lib.decodeL (asB l) = dec l := by
  have hl : l.length ≠ 0 := fun e => hne (List.eq_nil_of_length_eq_zero e)
  rw [Lib.decodeL_N, dec, if_neg hl, asB_len, asB_get h, asB_get h, asB_get h, asB_get h]
theorem asB_drop (l : List Int) (k : Nat) : asB (l.drop k) = (asB l).drop k := by simp [asB]
theorem asB_nil (l : List Int) : asB l = [] ↔ l = [] := by simp [asB]
theorem dec_enc (c : Int) (h : isC c) (r : List Int) : ((dec (enc c ++ r)).1 : Int) = c ∧ ((dec (enc c ++ r)).2 : Int) = wid c ∧ ¬ ((dec (enc c ++ r)).1 = 65533 ∧ (dec (enc c ++ r)).2 = 1) := by
  have h1 := one_enc c h r
  have hp := wid_pos c h
  unfold one4 at h1
  split at h1
  · simp only [Prod.mk.injEq] at h1
    omega
  · rename_i hn
    simp only [Prod.mk.injEq] at h1
    exact ⟨h1.1, h1.2, fun hh => hn ⟨hh.1, by omega⟩⟩
theorem dec_bad (r : List Int) (hb : Bytes r) (hr : r ≠ []) (h : one4 r = (0, 0)) : (dec r).1 = 65533 ∧ (dec r).2 = 1 := by
  have hw := Lib.decodeL_width (asB r)
  rw [dec_B hb hr] at hw
  unfold one4 at h
  split at h
  · omega
  · simp only [Prod.mk.injEq] at h
    omega
/-- The shape of bytes: code points, and behind them nothing or what is none. -/
def Rest (r : List Int) : Prop := r = [] ∨ (r ≠ [] ∧ one4 r = (0, 0))
theorem enc_ne (c : Int) (h : isC c) (r : List Int) : enc c ++ r ≠ [] := fun e => by
  have := congrArg List.length e
  have h1 := enc_length c
  have h2 := wid_pos c h
  rw [List.length_append, List.length_nil] at this
  omega
theorem bytes_tail {c : Int} {r : List Int} (h : Bytes (enc c ++ r)) : Bytes r := fun x hx => h x (List.mem_append.2 (.inr hx))
theorem valid_parts : ∀ (cs r : List Int), allC cs → Rest r → Bytes (encs cs ++ r) → Lib.validD (asB (encs cs ++ r)) = decide (r = [])
  | [], r, _, hr, hb => by
    have e : encs [] ++ r = r := rfl
    rw [e] at hb ⊢
    rcases hr with rfl | ⟨hr, h1⟩
    · rfl
    · rw [Lib.validD_step _ (fun h => hr ((asB_nil r).1 h)), dec_B hb hr, if_pos (dec_bad r hb hr h1), decide_eq_false hr]
  | c :: cs, r, hc, hr, hb => by
    obtain ⟨h1, h2⟩ := (allC_cons c cs).1 hc
    rw [encs_cons, List.append_assoc] at hb ⊢
    have hne := enc_ne c h1 (encs cs ++ r)
    obtain ⟨d1, d2, d3⟩ := dec_enc c h1 _
    rw [Lib.validD_step _ (fun h => hne ((asB_nil _).1 h)), dec_B hb hne, if_neg d3, ← asB_drop]
    have hd : (enc c ++ (encs cs ++ r)).drop (dec (enc c ++ (encs cs ++ r))).2 = encs cs ++ r := by
      have := enc_length c
      rw [show (dec (enc c ++ (encs cs ++ r))).2 = (enc c).length by omega, List.drop_left]
    rw [hd]
    exact valid_parts cs r h2 hr (bytes_tail hb)
theorem str_list (l : List Int) : (strOfNums l).data.toList = asB l := by simp [strOfNums, asB]
theorem runes_parts (s : ByteArray) : ∀ (cs : List Int) (n pos : Nat), allC cs → Bytes (encs cs) → s.data.toList.drop pos = asB (encs cs) → (encs cs).length ≤ n → runesAt s n pos = cs
  | [], n, pos, _, _, he, _ => by
    have : s.size ≤ pos := by
      have := congrArg List.length he
      rw [List.length_drop, ← Lib.size_eq, asB_len] at this
      simp [encs] at this
      omega
    exact runesAt_end s n pos this
  | c :: cs, n, pos, hc, hb, he, hn => by
    obtain ⟨h1, h2⟩ := (allC_cons c cs).1 hc
    rw [encs_cons] at hb he hn
    have hw := enc_length c
    have hp := wid_pos c h1
    rw [List.length_append] at hn
    obtain ⟨m, rfl⟩ : ∃ m, n = m + 1 := ⟨n - 1, by omega⟩
    have hne := enc_ne c h1 (encs cs)
    obtain ⟨d1, d2, d3⟩ := dec_enc c h1 _
    have hlt : pos < s.size := by
      have := congrArg List.length he
      rw [List.length_drop, ← Lib.size_eq, asB_len, List.length_append] at this
      omega
    have hd : Utf8.decode s pos = dec (enc c ++ encs cs) := by rw [← Lib.decodeL_drop, he, dec_B hb hne]
    rw [runesAt, if_pos hlt, hd, d1]
    congr 1
    refine runes_parts s cs m _ h2 (bytes_tail hb) ?_ (by omega)
    rw [← List.drop_drop, he, ← asB_drop, show (dec (enc c ++ encs cs)).2 = (enc c).length by omega, List.drop_left]
theorem codes_parts (cs r : List Int) (hc : allC cs) (hr : Rest r) (hb : Bytes (encs cs ++ r)) (hl : cs.length ≤ 35184372087808) : code_Codes.f (encs cs ++ r) = some (if r = [] then (cs, 0) else ([], 6)) := by
  rw [code_Codes.f, if_pos (allb_of hb), valid_parts cs r hc hr hb]
  by_cases h : r = []
  · subst h
    rw [List.append_nil] at hb ⊢
    rw [if_pos (by simp), if_pos rfl]
    have e := runes_parts (strOfNums (encs cs)) cs (encs cs).length 0 hc hb (by rw [List.drop_zero, str_list]) (Nat.le_refl _)
    rw [e, if_pos hl]
  · rw [if_neg (by simpa using h), if_neg h]
theorem rcodes_loop : ∀ (cs r acc : List Int), allC cs → Rest r → Bytes (encs cs ++ r) → (encs cs ++ r).length < 4611686018427387904 → acc.length + cs.length ≤ 35184372087808 →
    Ev (fun k => gessoref01_Codes.l0 k (encs cs ++ r) acc) (if r = [] then (acc ++ cs, 0) else ([], 6))
  | [], r, acc, _, hr, hb, hl, ha => by
    have e : encs [] ++ r = r := rfl
    rw [e] at hb hl ⊢
    rcases hr with rfl | ⟨hr, h1⟩
    · rw [if_pos rfl, List.append_nil]
      refine Ev.step (f := fun _ => some (acc, 0)) (fun k => ?_) (Ev.now _)
      simp [gessoref01_Codes.l0]
    · rw [if_neg hr]
      have hpos : 0 < r.length := by cases r <;> simp_all
      refine Ev.step (fun k => by rw [gessoref01_Codes.l0, if_pos (by omega)]) ?_
      refine Ev.bind (ref_one r hb hl) ?_
      rw [h1]
      simp only [if_true]
      exact Ev.now _
  | c :: cs, r, acc, hc, hr, hb, hl, ha => by
    obtain ⟨h1, h2⟩ := (allC_cons c cs).1 hc
    rw [encs_cons, List.append_assoc] at hb hl ⊢
    have hw := enc_length c
    have hp := wid_pos c h1
    rw [List.length_cons] at ha
    have hlen := hl
    rw [List.length_append] at hlen
    refine Ev.step (fun k => by rw [gessoref01_Codes.l0, if_pos (by rw [List.length_append]; omega)]) ?_
    refine Ev.bind (ref_one _ hb hl) ?_
    rw [one_enc c h1]
    simp only [if_neg (show ¬ wid c = 0 by omega), if_pos (show acc.length < 35184372088832 by omega), if_pos (show 0 ≤ wid c by omega), if_pos (show wid c ≤ ((enc c ++ (encs cs ++ r)).length : Int) by rw [List.length_append]; omega)]
    rw [show (wid c).toNat = (enc c).length by omega, List.drop_left]
    have := rcodes_loop cs r (acc ++ [c]) h2 hr (bytes_tail hb) (by rw [List.length_append] at hl; omega) (by rw [List.length_append, List.length_singleton]; omega)
    rw [List.append_assoc] at this
    exact this
theorem rcodes_parts (cs r : List Int) (hc : allC cs) (hr : Rest r) (hb : Bytes (encs cs ++ r)) (hl : (encs cs ++ r).length < 4611686018427387904) (ha : cs.length ≤ 35184372087808) :
    Ev (fun k => gessoref01_Codes.f k (encs cs ++ r)) (if r = [] then (cs, 0) else ([], 6)) := by
  have := rcodes_loop cs r [] hc hr hb hl (by simpa using ha)
  rwa [List.nil_append] at this
theorem encs_ge (cs : List Int) (hc : allC cs) : cs.length ≤ (encs cs).length := by
  induction cs with
  | nil => simp
  | cons c cs ih =>
    obtain ⟨h1, h2⟩ := (allC_cons c cs).1 hc
    have := ih h2
    have hw := enc_length c
    have hp := wid_pos c h1
    rw [encs_cons, List.length_append, List.length_cons]
    omega
theorem ones (l : List Int) : (l.map (fun _ => 1)).sum = l.length := by
  induction l with
  | nil => rfl
  | cons x l ih => simp [ih]; omega
end Go.Proofs.YtjlhehaagaaihaaDoor.Pure
