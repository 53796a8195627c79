/- The library's FullRune over bytes: its calls come to a plain Lean function. The two tables are asked for as a fact of the world ('Tabs'). No condition. -/
import Derived.Test.YtjlhehaagaaihaaDoorEd
namespace Go.Proofs.YtjlhehaagaaihaaDoor.P
open Go.RowKit Go.Lib Go.Proofs.YtjlhehaagaaihaaDoorW.PrintWords Go.Proofs.YtjlhehaagaaihaaDoorW.PrintLast Go.Proofs.YtjlhehaagaaihaaDoorW.PrintMore
attribute [local go_sem] max2_int min2_int max_two min_two max_three min_three max_four min_four
set_option linter.unusedVariables false
set_option linter.unusedSimpArgs false

/-- Do the bytes begin with a whole code point, or with what is none? -/
def fullN (n b0 b1 b2 : Nat) : Bool :=
  if n = 0 then false else if firstT b0 % 8 ≤ n then true
  else if 1 < n ∧ (b1 < accLo (firstT b0 / 16) ∨ accHi (firstT b0 / 16) < b1) then true
  else decide (2 < n ∧ (b2 < 128 ∨ 191 < b2))
def fullR (l : List Int) : Bool := fullN l.length (byteAt l 0) (byteAt l 1) (byteAt l 2)
def utf8_FullRune.f (l : List Int) : Option Bool := if b4 l = true then some (fullR l) else none

set_option maxHeartbeats 2000000 in
set_option maxRecDepth 1000000 in
theorem utf8_FullRune.calls (A0 : Option Addr) (c0 : Nat) (l0 : List Int) (r : Bool) (w : World) (HTb_ : Aside0 (Tabs w)) (hr0 : Kd.C (Kd.int .u8) w A0 l0.length l0) (hc0 : l0.length ≤ c0) (h : utf8_FullRune.f l0 = some r) :
    Calls Tryd.prog 50 #[.slice A0 l0.length c0] w fun e w' => e = .returned (.bool r) ∧ Below w.heap.size w w' := by
  have hb : b4 l0 = true := by
    unfold utf8_FullRune.f at h
    split at h
    · assumption
    · cases h
  have hB := B4_of hb
  obtain rfl : fullR l0 = r := by
    unfold utf8_FullRune.f at h
    rw [if_pos hb] at h
    exact Option.some.inj h
  clear h hb
  have hT := HTb_.out
  clear HTb_
  unfold fullR
  by_cases h0 : l0.length = 0
  · rw [h0]
    clear hr0 hT hc0 hB h0
    go_enter Tryd.func50, Tryd.ntmps50
    go_wp2
    go_ret
    exact ⟨rfl, Below.refl _ _⟩
  have hn0 : 0 < l0.length := by omega
  obtain ⟨x0, e0, b0, l1⟩ := hB.at 0 (by omega) (by omega)
  have p0 : (0 ≤ (0 : Int)) = True := eq_true (by omega)
  have q0 : ((0 : Int) < (l0.length : Int)) = True := eq_true (by omega)
  have qi0 : (0 < l0.length) = True := eq_true (by omega)
  have q00 : ((l0.length : Int) == 0) = false := beq_eq_false_iff_ne.mpr (by omega)
  obtain ⟨ad, eA, hx0⟩ := Kd.at_int hr0 0 (by omega) (by omega)
  cases eA
  have hall : ∀ i : Nat, i < l0.length → w.cell? (ad.add i) = some (.int .u8 (l0.getD i 0)) := fun i hi => by
    obtain ⟨ad', e', h'⟩ := Kd.at_int hr0 (i : Int) (by omega) (by omega)
    cases e'
    simpa [rd] using h'
  clear hr0 hx0
  have hx0 := hall 0 (by omega)
  rw [e0] at hx0
  have hbl : ad.block < w.heap.size := block_lt_of_cell hx0
  rw [Addr.add_zero'] at hx0
  rw [b0]
  have y1 : 1 < l0.length → w.cell? (ad.add 1) = some (.int .u8 (byteAt l0 1)) := fun h => by
    obtain ⟨n, e, e', hn⟩ := hB.at 1 (by omega) h
    rw [hall 1 h, e, e']
  have y2 : 2 < l0.length → w.cell? (ad.add 2) = some (.int .u8 (byteAt l0 2)) := fun h => by
    obtain ⟨n, e, e', hn⟩ := hB.at 2 (by omega) h
    rw [hall 2 h, e, e']
  have Y1 := Lib.hid y1
  have Y2 := Lib.hid y2
  clear hall hB e0 b0 y1 y2
  have hc0_ := hT.1 x0 l1
  have hXlt : Lib.firstT x0 < 256 := by rcases Lib.firstT_cases x0 with h | h | h | h | h | h | h | h | h <;> omega
  unfold fullN
  rw [if_neg h0]
  obtain ⟨X, hX⟩ : ∃ X, Lib.firstT x0 = X := ⟨_, rfl⟩
  rw [hX] at hc0_ hXlt ⊢
  have h7 := and7 ⟨X, hXlt⟩
  simp only at h7
  have ha0 : w.cell? ⟨1, X / 16 * 2, none⟩ = some (.int .u8 (Lib.accLo (X / 16))) := by rw [Nat.mul_comm]; exact (hT.2 (X / 16) (by omega)).1
  have ha1 : w.cell? ⟨1, X / 16 * 2 + 1, none⟩ = some (.int .u8 (Lib.accHi (X / 16))) := by rw [Nat.mul_comm]; exact (hT.2 (X / 16) (by omega)).2
  obtain ⟨LO, hLO⟩ : ∃ LO, Lib.accLo (X / 16) = LO := ⟨_, rfl⟩
  obtain ⟨HI, hHI⟩ : ∃ HI, Lib.accHi (X / 16) = HI := ⟨_, rfl⟩
  rw [hLO] at ha0 ⊢
  rw [hHI] at ha1 ⊢
  clear hT hX hLO hHI h0 q00
  generalize byteAt l0 1 = x1 at *
  generalize byteAt l0 2 = x2 at *
  generalize l0.length = n at *
  have n00 : ((n : Int) == 0) = false := beq_eq_false_iff_ne.mpr (by omega)
  have bl1 : (ad.add 1).block < w.heap.size := hbl
  have bl2 : (ad.add 2).block < w.heap.size := hbl
  have p1 : (0 ≤ (1 : Int)) = True := eq_true (by omega)
  have p2 : (0 ≤ (2 : Int)) = True := eq_true (by omega)
  by_cases hbig : X % 8 ≤ n
  · rw [if_pos hbig]
    have g : ((X : Int) % 8 ≤ (n : Int)) := by omega
    go_enter Tryd.func50, Tryd.ntmps50
    go_wp2
    go_ret
    exact ⟨rfl, Below.refl _ _⟩
  rw [if_neg hbig]
  have g : ¬ ((X : Int) % 8 ≤ (n : Int)) := by omega
  by_cases n1 : 1 < n
  · have n1z : (1 : Int) < (n : Int) := by omega
    have n1t : (1 < n) = True := eq_true n1
    have hx1 := Y1.out n1
    have hz1 : w.cell? ⟨ad.block, ad.off + 1, none⟩ = some (.int .u8 x1) := hx1
    by_cases t0 : x1 < LO
    · have t0z : (x1 : Int) < (LO : Int) := by omega
      rw [if_pos ⟨n1, .inl t0⟩]
      go_enter Tryd.func50, Tryd.ntmps50
      go_wp2
      go_big_quiet (fail)
      go_wp2
      all_goals (try go_big_quiet (fail))
      all_goals (try go_wp2)
      go_ret
      exact ⟨rfl, by repeat (first | exact (Below.refl _ _).alloc (Nat.le_refl _) _ | apply below_dN)⟩
    · have t0z : ¬ ((x1 : Int) < (LO : Int)) := by omega
      by_cases t1 : HI < x1
      · have t1z : (HI : Int) < (x1 : Int) := by omega
        rw [if_pos ⟨n1, .inr t1⟩]
        go_enter Tryd.func50, Tryd.ntmps50
        go_wp2
        go_big_quiet (fail)
        go_wp2
        all_goals (try go_big_quiet (fail))
        all_goals (try go_wp2)
        go_ret
        exact ⟨rfl, by repeat (first | exact (Below.refl _ _).alloc (Nat.le_refl _) _ | apply below_dN)⟩
      · have t1z : ¬ ((HI : Int) < (x1 : Int)) := by omega
        rw [if_neg (fun h => h.2.elim t0 t1)]
        by_cases n2 : 2 < n
        · have n2z : (2 : Int) < (n : Int) := by omega
          have n2t : (2 < n) = True := eq_true n2
          have hx2 := Y2.out n2
          have hz2 : w.cell? ⟨ad.block, ad.off + 2, none⟩ = some (.int .u8 x2) := hx2
          by_cases u0 : x2 < 128
          · have u0z : (x2 : Int) < 128 := by omega
            rw [decide_eq_true (show 2 < n ∧ (x2 < 128 ∨ 191 < x2) from ⟨n2, .inl u0⟩)]
            go_enter Tryd.func50, Tryd.ntmps50
            go_wp2
            go_big_quiet (fail)
            go_wp2
            all_goals (try go_big_quiet (fail))
            all_goals (try go_wp2)
            go_ret
            exact ⟨rfl, by repeat (first | exact (Below.refl _ _).alloc (Nat.le_refl _) _ | apply below_dN)⟩
          · have u0z : ¬ ((x2 : Int) < 128) := by omega
            by_cases u1 : 191 < x2
            · have u1z : (191 : Int) < (x2 : Int) := by omega
              rw [decide_eq_true (show 2 < n ∧ (x2 < 128 ∨ 191 < x2) from ⟨n2, .inr u1⟩)]
              go_enter Tryd.func50, Tryd.ntmps50
              go_wp2
              go_big_quiet (fail)
              go_wp2
              all_goals (try go_big_quiet (fail))
              all_goals (try go_wp2)
              go_ret
              exact ⟨rfl, by repeat (first | exact (Below.refl _ _).alloc (Nat.le_refl _) _ | apply below_dN)⟩
            · have u1z : ¬ ((191 : Int) < (x2 : Int)) := by omega
              rw [decide_eq_false (show ¬ (2 < n ∧ (x2 < 128 ∨ 191 < x2)) from fun h => h.2.elim u0 u1)]
              go_enter Tryd.func50, Tryd.ntmps50
              go_wp2
              go_big_quiet (fail)
              go_wp2
              all_goals (try go_big_quiet (fail))
              all_goals (try go_wp2)
              go_ret
              exact ⟨rfl, by repeat (first | exact (Below.refl _ _).alloc (Nat.le_refl _) _ | apply below_dN)⟩
        · have n2z : ¬ ((2 : Int) < (n : Int)) := by omega
          have n2b : decide ((2 : Int) < (n : Int)) = false := decide_eq_false n2z
          rw [decide_eq_false (show ¬ (2 < n ∧ (x2 < 128 ∨ 191 < x2)) from fun h => n2 h.1)]
          go_enter Tryd.func50, Tryd.ntmps50
          go_wp2
          go_big_quiet (fail)
          go_wp2
          all_goals (try go_big_quiet (fail))
          all_goals (try go_wp2)
          go_ret
          exact ⟨rfl, by repeat (first | exact (Below.refl _ _).alloc (Nat.le_refl _) _ | apply below_dN)⟩
  · have n1z : ¬ ((1 : Int) < (n : Int)) := by omega
    have n1b : decide ((1 : Int) < (n : Int)) = false := decide_eq_false n1z
    rw [if_neg (fun h => n1 h.1)]
    have n2 : ¬ 2 < n := by omega
    have n2z : ¬ ((2 : Int) < (n : Int)) := by omega
    have n2b : decide ((2 : Int) < (n : Int)) = false := decide_eq_false n2z
    rw [decide_eq_false (show ¬ (2 < n ∧ (x2 < 128 ∨ 191 < x2)) from fun h => n2 h.1)]
    go_enter Tryd.func50, Tryd.ntmps50
    go_wp2
    go_big_quiet (fail)
    go_wp2
    all_goals (try go_big_quiet (fail))
    all_goals (try go_wp2)
    go_ret
    exact ⟨rfl, by repeat (first | exact (Below.refl _ _).alloc (Nat.le_refl _) _ | apply below_dN)⟩
end Go.Proofs.YtjlhehaagaaihaaDoor.P
