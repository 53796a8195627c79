/- The plain law CodeWidths. No condition. -/
import Derived.Test.YtjlhehaagaaihaaDoorPx22
import Derived.Test.YtjlhehaagaaihaaDoorMa
namespace Go.Proofs.YtjlhehaagaaihaaDoor.Pure
open Go.RowKit Go.Proofs.YtjlhehaagaaihaaDoor.P Go.Proofs.YtjlhehaagaaihaaDoorW.PrintWords Go.Proofs.YtjlhehaagaaihaaDoorW.PrintLast
set_option linter.unusedSimpArgs false

theorem awake_ev : Ev (fun k => gessolaw01_awake.f k) true := Ev.of gessolaw01_awake.mono (k := 10) (by decide +kernel)
theorem enc_tail (c : Int) (i : Nat) (h0 : 1 ≤ i) (h1 : i < (enc c).length) : 128 ≤ (enc c).getD i 0 ∧ (enc c).getD i 0 ≤ 191 := by
  revert h1
  unfold enc
  repeat' split
  all_goals intro h1
  all_goals simp only [List.length_cons, List.length_nil] at h1
  all_goals (first | (exfalso; omega) | skip)
  · obtain rfl : i = 1 := by omega
    simp; omega
  · rcases (by omega : i = 1 ∨ i = 2) with rfl | rfl <;> (simp; omega)
  · rcases (by omega : i = 1 ∨ i = 2 ∨ i = 3) with rfl | rfl | rfl <;> (simp; omega)
theorem enc_head (c : Int) (h : isC c) : 0 < (enc c).length ∧ ((enc c).getD 0 0 < 128 ∨ (enc c).getD 0 0 > 191) := by
  have h' := h
  unfold isC at h'
  unfold enc
  rw [if_pos h]
  repeat' split
  all_goals (simp; omega)
theorem wid_mono (c d : Int) (h : isC d) (hc : isC c) (hd : ¬ d < c) : wid d ≥ wid c := by
  unfold wid
  rw [if_pos h, if_pos hc]
  repeat' split
  all_goals omega
theorem wid_zero (c : Int) : wid c = 0 ↔ ¬ isC c := by
  unfold wid
  constructor
  · intro h hc
    rw [if_pos hc] at h
    revert h
    repeat' split
    all_goals omega
  · intro h; rw [if_neg h]
theorem loop (c d : Int) (h : isC c) (hd : 0 ≤ d) : ∀ (m i : Nat), (enc c).length - i = m → 1 ≤ i → Ev (fun k => gessolaw01_CodeWidths.l0 k c d (enc c) (i : Int)) true
  | 0, i, hm, hi => by
    have hl := enc_length c
    have hl4 := wid_small c
    refine Ev.step (fun k => by simp only [gessolaw01_CodeWidths.l0]; rw [if_neg (by omega)]) ?_
    refine Ev.bind (width_ev c h.1) ?_
    obtain ⟨hp, hh⟩ := enc_head c h
    have e0 : rd (enc c) 0 = (enc c).getD 0 0 := by simp [rd]
    have tail : Ev (fun k => (code_Width.f k d).bind fun t => if t = 0 then (gessolaw01_awake.f k).bind fun t_ => some t_ else if d < c then (gessolaw01_awake.f k).bind fun t_ => some t_ else (code_Width.f k d).bind fun t' => (code_Width.f k c).bind fun t'' => if t' ≥ t'' then (gessolaw01_awake.f k).bind fun t_ => some t_ else none) true := by
      refine Ev.bind (width_ev d hd) ?_
      by_cases hw : wid d = 0
      · simp only [if_pos hw]; exact Ev.bind awake_ev (Ev.now _)
      · simp only [if_neg hw]
        by_cases hdc : d < c
        · simp only [if_pos hdc]; exact Ev.bind awake_ev (Ev.now _)
        · simp only [if_neg hdc]
          refine Ev.bind (width_ev d hd) (Ev.bind (width_ev c h.1) ?_)
          simp only [if_pos (wid_mono c d (Classical.byContradiction fun hn => hw ((wid_zero d).2 hn)) h hdc)]
          exact Ev.bind awake_ev (Ev.now _)
    rw [e0]
    simp only [if_pos hl, if_pos (show ((enc c).length : Int) > 0 by omega), if_pos (show 0 < ((enc c).length : Int) by omega)]
    rcases hh with hh | hh
    · simp only [if_pos hh]; exact tail
    · simp only [if_neg (show ¬ (enc c).getD 0 0 < 128 by omega), if_pos hh]; exact tail
  | m + 1, i, hm, hi => by
    have hl := enc_length c
    have hl4 := wid_small c
    have ht := enc_tail c i hi (by omega)
    rw [← rd_nat] at ht
    refine Ev.step (f := fun k => gessolaw01_CodeWidths.l0 k c d (enc c) ((i + 1 : Nat) : Int)) (fun k => ?_) (loop c d h hd m (i + 1) (by omega) (by omega))
    simp only [gessolaw01_CodeWidths.l0]
    rw [if_pos (by omega), if_pos (by omega), if_neg (by omega), if_neg (by omega), w64 (by omega) (by omega)]
    rfl
theorem CodeWidths : gessolaw01_CodeWidths.Pure := by
  intro c d hw hv
  have h0 : 0 ≤ c := (bounds_u32 hw).1
  suffices h : Ev (fun k => gessolaw01_CodeWidths.f k c d) true from h.rounds
  unfold gessolaw01_CodeWidths.f
  refine Ev.bind (cput_ev c h0) ?_
  by_cases h : isC c
  · simp only [if_pos h, if_true]
    exact loop c d h (bounds_u32 hv).1 _ 1 rfl (Nat.le_refl _)
  · simp only [if_neg h, show ¬ ((2 : Int) = 0) by decide, if_false]
    refine Ev.bind (width_ev c h0) ?_
    simp only [if_pos ((wid_zero c).2 h), if_pos (show ((enc c).length : Int) = 0 by rw [enc_length, (wid_zero c).2 h])]
    exact Ev.bind awake_ev (Ev.now _)
end Go.Proofs.YtjlhehaagaaihaaDoor.Pure
