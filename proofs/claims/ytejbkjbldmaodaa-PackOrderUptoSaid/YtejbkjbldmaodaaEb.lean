/- The contract of slices.ContainsFunc at [][]byte, handed Pack's own function literal: is a field longer than 1024? No condition. -/
import Derived.Test.YtejbkjbldmaodaaPx0
namespace Go.Proofs.Ytejbkjbldmaodaa.P
open Go.RowKit Go.Proofs.YtejbkjbldmaodaaW.PrintWords Go.Proofs.YtejbkjbldmaodaaW.PrintLast Go.Proofs.YtejbkjbldmaodaaW.PrintMore
set_option linter.unusedVariables false
set_option linter.unusedSimpArgs false

def longB (n : Nat) : Bool := decide (1024 < n)

theorem long_calls (A : Option Addr) (n c : Nat) (w : World) : Calls Try.prog 26 #[.slice A n c] w fun e w' => e = .returned (.bool (longB n)) ∧ w = w' := by
  unfold longB
  by_cases h : 1024 < n
  · have h1 : decide (1024 < n) = true := decide_eq_true h
    have h2 : decide (1024 < (n : Int)) = true := decide_eq_true (by omega)
    rw [h1]
    clear h
    go_enter Try.func26, Try.ntmps26
    go_wp2
    go_ret
    exact ⟨by first | rfl | simp [*], rfl⟩
  · have h1 : decide (1024 < n) = false := decide_eq_false h
    have h2 : decide (1024 < (n : Int)) = false := decide_eq_false (by omega)
    rw [h1]
    clear h
    go_enter Try.func26, Try.ntmps26
    go_wp2
    go_ret
    exact ⟨by first | rfl | simp [*], rfl⟩

/-- Where the first long field is: at least 0 just if there is one. -/
def IdxPost (l : List (List Int)) (w : World) (e : Ending) (w' : World) : Prop := ∃ i : Int, e = .returned (.int .i64 i) ∧ (0 ≤ i ↔ l.any (fun x => longB x.length) = true) ∧ -1 ≤ i ∧ w' = w

theorem any_take (l : List (List Int)) (i : Nat) (hi : l.length ≤ i) (h : (l.take i).any (fun x => longB x.length) = false) : l.any (fun x => longB x.length) = false := by
  rwa [List.take_of_length_le hi] at h

theorem any_at (l : List (List Int)) (i : Nat) (hi : i < l.length) (h : longB (rd_L1 l (i : Int)).length = true) : l.any (fun x => longB x.length) = true := by
  rw [List.any_eq_true]
  refine ⟨l[i], List.getElem_mem hi, ?_⟩
  simpa [rd_L1, List.getD_eq_getElem?_getD, hi] using h

theorem any_snoc (l : List (List Int)) (i : Nat) (hi : i < l.length) (h0 : (l.take i).any (fun x => longB x.length) = false) (h : longB (rd_L1 l (i : Int)).length = false) : (l.take (i + 1)).any (fun x => longB x.length) = false := by
  rw [List.take_succ_eq_append_getElem hi, List.any_append, h0]
  simpa [rd_L1, List.getD_eq_getElem?_getD, hi] using h

set_option maxHeartbeats 2000000 in
theorem index_calls (A0 : Option Addr) (c0 : Nat) (l0 : List (List Int)) (w : World) (hr0 : Kd.C (Kd.slice 5 (Kd.int .u8)) w A0 l0.length l0) (hc0 : l0.length ≤ c0) :
    Calls Try.prog 29 #[.slice A0 l0.length c0, .func (.func 26) #[] #[]] w (IdxPost l0 w) := by
  have HR := Aside0.mk hr0
  have hmax := Kd.C_max hr0
  clear hr0 hc0
  go_enter Try.func29, Try.ntmps29
  go_wp2
  go_loop [8] (fun v8 => ∃ i : Nat, i ≤ l0.length ∧ v8 = .int .i64 i ∧ Aside0 ((l0.take i).any (fun x => longB x.length) = false)) (fun v8 => l0.length - (intOf v8).toNat)
  case atStart => exact ⟨0, Nat.zero_le _, rfl, ⟨by simp⟩⟩
  case round =>
    obtain ⟨i, hi, rfl, HA⟩ := hrel
    by_cases hlt : i < l0.length
    · obtain ⟨ad, A1, c1, e1, hx, _, _⟩ := at_L1 HR.out (i : Int) (by omega) (by omega)
      cases e1
      have hx' := hx
      simp only [Int.toNat_natCast] at hx'
      cases hb : longB (rd_L1 l0 (i : Int)).length with
      | true =>
        go_wp2_with (go_at_call 26; (with_reducible refine (long_calls _ _ _ _).mono ?_); rintro e w' ⟨rfl, rfl⟩)
        go_ret
        exact ⟨i, rfl, ⟨fun _ => any_at l0 i hlt hb, fun _ => by omega⟩, by omega, rfl⟩
      | false =>
        go_wp2_with (go_at_call 26; (with_reducible refine (long_calls _ _ _ _).mono ?_); rintro e w' ⟨rfl, rfl⟩)
        go_round
        case rel => exact ⟨i + 1, by omega, by go_num, ⟨any_snoc l0 i hlt HA.out hb⟩⟩
        case measure => simp [intOf]; omega
    · go_wp2
      go_ret
      exact ⟨-1, rfl, ⟨fun h => by omega, fun h => by rw [any_take l0 i (by omega) HA.out] at h; cases h⟩, by omega, rfl⟩

def slices_ContainsFunc_byte_byte.f (l0 : List (List Int)) : Option Bool := some (l0.any (fun x => longB x.length))

set_option maxHeartbeats 2000000 in
theorem slices_ContainsFunc_byte_byte.calls (A0 : Option Addr) (c0 : Nat) (l0 : List (List Int)) (r : Bool) (w : World) (hr0 : Kd.C (Kd.slice 5 (Kd.int .u8)) w A0 l0.length l0) (hc0 : l0.length ≤ c0) (h : slices_ContainsFunc_byte_byte.f l0 = some r) :
    Calls Try.prog 25 #[.slice A0 l0.length c0, .func (.func 26) #[] #[]] w fun e w' => e = .returned (.bool r) ∧ Drawn0 w w' := by
  have h1 := Option.some.inj h
  have HI := fun w (hr : Kd.C (Kd.slice 5 (Kd.int .u8)) w A0 l0.length l0) => index_calls A0 c0 l0 w hr hc0
  have HR := Aside0.mk hr0
  clear h hr0 hc0
  cases r with
  | true =>
    have H1 := Aside0.mk h1
    clear h1
    go_enter Try.func25, Try.ntmps25
    go_wp2_with (go_at_call 29; (with_reducible refine (HI _ HR.out).mono ?_); rintro e w' ⟨i, rfl, hiff, hlo, rfl⟩; have hge : 0 ≤ i := hiff.2 H1.out; clear hiff hlo)
    go_ret
    exact ⟨by first | rfl | simp [*], Drawn0.refl _⟩
  | false =>
    have H1 := Aside0.mk h1
    clear h1
    go_enter Try.func25, Try.ntmps25
    go_wp2_with (go_at_call 29; (with_reducible refine (HI _ HR.out).mono ?_); rintro e w' ⟨i, rfl, hiff, hlo, rfl⟩; have hge : ¬ 0 ≤ i := (fun hh => by have := hiff.1 hh; rw [H1.out] at this; cases this); clear hiff)
    go_ret
    exact ⟨by first | rfl | simp [*], Drawn0.refl _⟩

end Go.Proofs.Ytejbkjbldmaodaa.P
