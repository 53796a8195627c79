/- The calls of the reference's Next, from a state behind all bytes so far. No condition. -/
import Derived.Test.YtjlhehaagaaihaaDoorLg
namespace Go.Proofs.YtjlhehaagaaihaaDoor.P
open Go.RowKit Go.Lib Go.Proofs.YtjlhehaagaaihaaDoorW.PrintWords Go.Proofs.YtjlhehaagaaihaaDoorW.PrintLast Go.Proofs.YtjlhehaagaaihaaDoorW.PrintMore Go.Proofs.YtjlhehaagaaihaaDoor.Pure
set_option linter.unusedVariables false
set_option linter.unusedSimpArgs false

theorem next_of (a x : List Int) (L : Nat) (A : Option Addr) (c : Nat) (A1 : Option Addr) (n1 c1 : Nat) (W : World) (ha : Bytes a) (hbx : Bytes x) (hL : (ofPend a).length = L) (hx : x.length = n1) (hl : a.length + n1 ≤ 1099511627776)
    (hC : Kd.C (Kd.int .u8) W A L (ofPend a)) (hC1 : Kd.C (Kd.int .u8) W A1 n1 x) (S m : Nat) (B : Int) (hS : (a ++ x).length = S) (hB : ofBad (a ++ x) = B) (hm : (ofPend (a ++ x)).length = m) :
    Calls Tryd.prog 37 #[.agg #[.int .i64 (a.length : Int), .int .i64 (ofBad a), .slice A L c], .slice A1 n1 c1] W fun e w' => ∃ A' c', e = .returned (.tuple #[.agg #[.int .i64 (S : Int), .int .i64 B, .slice A' m c'], .int .i64 0]) ∧ Fresh W w' (.slice A' m c') (ofPend (a ++ x)) := by
  have hlen : (S : Int) = (a.length : Int) + n1 := by rw [← hS, List.length_append, hx]; omega
  obtain ⟨r1, r2, r3, r4, r5⟩ := bad_le a ha
  by_cases h : 0 ≤ ofBad a
  · obtain ⟨e1, e2, e3⟩ := next_bad a x ha hbx h
    rw [e3] at hm
    obtain rfl : m = 0 := hm.symm
    have hL0 : L ≤ 1099511627776 := by rw [← hL, e2]; simp
    refine (next_bad_ (a.length : Int) (ofBad a) (ofPend a) x L A c A1 n1 c1 W (by omega) (by omega) (by omega) h hL hx hL0 hC hC1).mono fun e w' q => ⟨none, 0, ?_, ?_⟩
    · rw [q.1, hlen, ← hB, e1]
    · rw [e3]; exact ⟨Kd.R_nil _ _ _ _ _, q.2⟩
  · obtain ⟨e1, e2, e3, e4, e5, e6⟩ := next_good a x ha hbx (by omega)
    have hfl := fault_le (ofPend a ++ x) (e4.append hbx)
    obtain ⟨Bn, hBn⟩ : ∃ B, lookBad 0 (-1) (faultN (ofPend a ++ x)) (openB ((ofPend a ++ x).drop (faultN (ofPend a ++ x)).toNat)) = B := ⟨_, rfl⟩
    have hboth := look_both (faultN (ofPend a ++ x)) ((a.length : Int) - (ofPend a).length) (openB ((ofPend a ++ x).drop (faultN (ofPend a ++ x)).toNat)) hfl.2
    rw [hBn, e5, hB] at hboth
    have hfb : (faultN (ofPend a ++ x) : Int) ≤ (L : Int) + n1 := by have := hfl.1; rw [List.length_append, hL, hx] at this; omega
    rw [hL] at hboth e2 e3
    rcases hboth with ⟨b1, b2⟩ | ⟨b1, b2, b3⟩
    · refine (next_good_b (a.length : Int) (ofBad a) (ofPend a) x L A c A1 n1 c1 W (by omega) (by omega) (by omega) (by omega) e4 hbx (by omega) Bn (ofPend (a ++ x)) m hBn e6 hm b1 hL hx (by omega) hC hC1).mono fun e w' q => ?_
      obtain ⟨A', c', q1, q2⟩ := q
      exact ⟨A', c', by rw [q1, hlen, b1, b2], q2⟩
    · refine (next_good_a (a.length : Int) (ofBad a) (ofPend a) x L A c A1 n1 c1 W (by omega) (by omega) (by omega) (by omega) e4 hbx (by omega) Bn (ofPend (a ++ x)) m hBn e6 hm (by omega) b1 hL hx (by omega) hC hC1).mono fun e w' q => ?_
      obtain ⟨A', c', q1, q2⟩ := q
      exact ⟨A', c', by rw [q1, hlen, b2], q2⟩
end Go.Proofs.YtjlhehaagaaihaaDoor.P
