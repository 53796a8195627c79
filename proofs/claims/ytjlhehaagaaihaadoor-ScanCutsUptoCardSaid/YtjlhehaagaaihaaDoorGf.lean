/- The calls of a scan's methods, told by all the bytes that it has had. No condition. -/
import Derived.Test.YtjlhehaagaaihaaDoorGe
import Derived.Test.YtjlhehaagaaihaaDoorMf
namespace Go.Proofs.YtjlhehaagaaihaaDoor.P
open Go.RowKit Go.Lib Go.Proofs.YtjlhehaagaaihaaDoorW.PrintWords Go.Proofs.YtjlhehaagaaihaaDoorW.PrintLast Go.Proofs.YtjlhehaagaaihaaDoorW.PrintMore Go.Proofs.YtjlhehaagaaihaaDoor.Pure
attribute [local go_sem] max2_int min2_int max_two min_two max_three min_three max_four min_four run_fld0 run_fld1 run_fld2
set_option linter.unusedVariables false
set_option linter.unusedSimpArgs false

/-- A scan that stands where all bytes have brought it. -/
def OfAt (w : World) (p : Nat) (a : List Int) (ok : Nat → Prop) : Prop := ScanAt w p (a.length : Int) (ofBad a) (ofPend a) ok
theorem bytes_allb {l : List Int} (h : allb l = true) : Bytes l := fun x hx => by
  have := List.all_eq_true.1 h x hx
  simpa [Bool.and_eq_true, decide_eq_true_eq] using this
theorem allb_bytes {l : List Int} (h : Bytes l) : allb l = true := by
  refine List.all_eq_true.2 fun x hx => ?_
  have := h x hx
  simpa [Bool.and_eq_true, decide_eq_true_eq] using this
theorem ones_sum (l : List Int) : (l.map (fun _ => 1)).sum = l.length := by
  induction l with
  | nil => rfl
  | cons x l ih => simp [ih]; omega
theorem bytes_nil : Bytes [] := fun x hx => by cases hx
theorem new_of (W0 : World) : Calls Tryd.prog 34 #[] W0 fun e w' => ∃ p : Nat, e = .returned (.pointer (some ⟨p, 0, none⟩)) ∧ W0.heap.size ≤ p ∧ Below W0.heap.size W0 w' ∧ OfAt w' p [] (fun _ => False) :=
  (new_any W0).mono fun e w' ⟨he, hw⟩ => ⟨W0.heap.size, he, Nat.le_refl _, by rw [hw]; exact (Below.refl _ _).alloc (Nat.le_refl _) _, by rw [hw]; exact ScanAt.new W0 0 (-1) _⟩
theorem feed_of (a x : List Int) (p : Nat) (ok okx : Nat → Prop) (A : Option Addr) (c L : Nat) (W0 w : World) (hL : x.length = L) (hT : Tabs W0) (hB : Below W0.heap.size W0 w) (hp : W0.heap.size ≤ p) (hS : OfAt w p a ok)
    (hF : Kd.F (Kd.int .u8) w okx A L x) (hox : ∀ k, okx k → k ≠ p) (hc : L ≤ c) (ha : Bytes a) (hx : Bytes x) (hl : a.length + x.length ≤ 1099511627776) :
    Calls Tryd.prog 36 #[.pointer (some ⟨p, 0, none⟩), .slice A L c] w fun e w' => e = .returned (.int .i64 0) ∧ w.grownBy w' (some p) ∧ Below W0.heap.size W0 w' ∧ OfAt w' p (a ++ x) (fun k => ok k ∨ w.heap.size ≤ k) := by
  subst hL
  unfold OfAt at hS ⊢
  have hlen : ((a ++ x).length : Int) = (a.length : Int) + (x.length : Int) := by rw [List.length_append]; omega
  by_cases h : 0 ≤ ofBad a
  · obtain ⟨q1, q2, q3⟩ := next_bad a x ha hx h
    rw [q2] at hS
    refine (feed_bad p a.length (ofBad a) [] ok A x.length c w hS (by simp) (by omega) (by omega) (by omega) h).mono fun e w' ⟨he, hg, hs⟩ => ⟨he, hg, below_grown hB hp hg, ?_⟩
    rw [hlen, q1, q3]
    exact hs.mono (fun k hk => .inl hk)
  · obtain ⟨q1, q2, q3, q4, q5, q6⟩ := next_good a x ha hx (by omega)
    obtain ⟨k, hf⟩ := (fault_ev (ofPend a ++ x) (q4.append hx) (by rw [List.length_append]; omega)).rounds
    have hle := fault_le (ofPend a ++ x) (q4.append hx)
    have hop := open_f (l := (ofPend a ++ x).drop (faultN (ofPend a ++ x)).toNat) ((q4.append hx).drop _)
    rw [q1] at hS
    refine (feed_good k p a.length (-1) (faultN (ofPend a ++ x)) _ (ofPend a) x ok okx A c W0 w hT hB hp hS hF hox hc q2 (by omega) (by omega) (by omega) (by omega) (by omega) hf (fun _ => hop) hle.1).mono fun e w' ⟨he, hg, hs⟩ => ⟨he, hg, below_grown hB hp hg, ?_⟩
    rw [hlen, ← q5, ← q6]
    exact hs.mono (fun k hk => .inr hk)
theorem OfAt.below {w w1 : World} {p : Nat} {a : List Int} {ok : Nat → Prop} (h : OfAt w p a ok) (hb : Below w.heap.size w w1) : OfAt w1 p a ok := ScanAt.below h hb
theorem OfAt.mono {w : World} {p : Nat} {a : List Int} {ok ok' : Nat → Prop} (h : OfAt w p a ok) (hk : ∀ k, ok k → ok' k) : OfAt w p a ok' := ScanAt.mono h hk
theorem fault_of (p : Nat) (a : List Int) (b : Int) (hb : ofBad a = b) (ok : Nat → Prop) (w : World) (h : OfAt w p a ok) : Calls Tryd.prog 38 #[.pointer (some ⟨p, 0, none⟩)] w fun e w' => e = .returned (.int .i64 b) ∧ w' = w := by
  subst hb
  obtain ⟨A, c, h1, _⟩ := h
  exact fault_any p _ _ _ w h1
theorem end_of_ (p : Nat) (a : List Int) (r : Int) (ha : Bytes a) (hl : a.length ≤ 1099511627776) (hr : faultN a = r) (ok : Nat → Prop) (w : World) (h : OfAt w p a ok) : Calls Tryd.prog 39 #[.pointer (some ⟨p, 0, none⟩)] w fun e w' => e = .returned (.int .i64 r) ∧ ∃ n, w' = w.drewN n := by
  obtain ⟨A, c, h1, _⟩ := h
  have := bad_le a ha
  exact end_is p _ _ A _ c r ((end_of a ha).trans hr) w h1 (by omega) (by omega) (by omega)
theorem state_of (p : Nat) (a : List Int) (s b : Int) (L : Nat) (ha : Bytes a) (hs : (a.length : Int) = s) (hb : ofBad a = b) (hL : (ofPend a).length = L) (ok : Nat → Prop) (w : World) (h : OfAt w p a ok) :
    Calls Tryd.prog 40 #[.pointer (some ⟨p, 0, none⟩)] w fun e w' => ∃ A c, e = .returned (.agg #[.int .i64 s, .int .i64 b, .slice A L c]) ∧ Fresh w w' (.slice A L c) (ofPend a) := by
  subst hs
  subst hb
  have := bad_le a ha
  exact state_sl p _ _ _ L hL ok w h (by omega)

end Go.Proofs.YtjlhehaagaaihaaDoor.P
