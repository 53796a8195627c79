/- The library's decoder of UTF-8 over bytes: its calls come to a plain Lean function. The two tables are asked for as a fact of the world ('Tabs'). No condition. -/
import Derived.Test.YtjlhehaagaaihaaDoorPx0
import Derived.Shelf.Unicode.DecodeSlow
namespace Go.Proofs.YtjlhehaagaaihaaDoor.P
open Go.RowKit Go.Lib Go.Proofs.YtjlhehaagaaihaaDoorW.PrintWords Go.Proofs.YtjlhehaagaaihaaDoorW.PrintLast Go.Proofs.YtjlhehaagaaihaaDoorW.PrintMore
attribute [local go_sem] max2_int min2_int max_two min_two max_three min_three max_four min_four
set_option linter.unusedVariables false
set_option linter.unusedSimpArgs false

/-- The two tables of unicode/utf8 lie in the world. -/
def Tabs (w : World) : Prop := Lib.Utf8Tabs 0 1 w
theorem Tabs.below {w w' : World} (h : Tabs w) (hb : Below w.heap.size w w') : Tabs w' := Utf8Tabs_below h hb
theorem Tabs.drawn {w w' : World} (h : Tabs w) (hb : Drawn0 w w') : Tabs w' := h.below hb.below

/-- The i-th byte. -/
def byteAt (l : List Int) (i : Nat) : Nat := (l.getD i 0).toNat
/-- What the decoder tells of bytes. -/
def dec (l : List Int) : Nat × Nat := if l.length = 0 then (65533, 0) else decodeN l.length (byteAt l 0) (byteAt l 1) (byteAt l 2) (byteAt l 3)
/-- The first four are bytes. -/
def B4 (l : List Int) : Prop := ∀ i, i < 4 → i < l.length → 0 ≤ l.getD i 0 ∧ l.getD i 0 < 256

theorem B4.at {l : List Int} (h : B4 l) (i : Nat) (hi : i < 4) (hl : i < l.length) : ∃ n : Nat, l.getD i 0 = (n : Int) ∧ byteAt l i = n ∧ n < 256 := by
  obtain ⟨h0, h1⟩ := h i hi hl
  exact ⟨(l.getD i 0).toNat, by omega, rfl, by omega⟩

set_option maxHeartbeats 8000000 in
set_option maxRecDepth 1000000 in
theorem decodeRuneSlow.calls (A0 : Option Addr) (c0 : Nat) (l : List Int) (w : World) (hT : Tabs w) (hr0 : Kd.C (Kd.int .u8) w A0 l.length l) (hc0 : l.length ≤ c0) (hB : B4 l) :
    Calls Tryd.prog 61 #[.slice A0 l.length c0] w fun e w' => e = .returned (.tuple #[.int .i32 (dec l).1, .int .i64 (dec l).2]) ∧ Below w.heap.size w w' := by
  by_cases h0 : l.length = 0
  · have hz : (l.length : Int) < 1 := by omega
    simp only [dec, h0, if_true]
    clear hr0
    rw [h0] at hz
    go_enter Tryd.func61, Tryd.ntmps61
    go_wp2
    go_ret2
    exact ⟨rfl, Below.refl _ _⟩
  have hz0' : ¬ ((l.length : Int) < 1) := by omega
  obtain ⟨x0, e0, b0, l0⟩ := hB.at 0 (by omega) (by omega)
  have p0 : (0 ≤ (0 : Int)) = True := eq_true (by omega)
  have q0 : ((0 : Int) < (l.length : Int)) = True := eq_true (by omega)
  have qi0 : (0 < l.length) = True := eq_true (by omega)
  obtain ⟨ad, eA, hx0⟩ := Kd.at_int hr0 0 (by omega) (by omega)
  cases eA
  have hall : ∀ i : Nat, i < l.length → w.cell? (ad.add i) = some (.int .u8 (l.getD i 0)) := fun i hi => by
    obtain ⟨ad', e', h'⟩ := Kd.at_int hr0 (i : Int) (by omega) (by omega)
    cases e'
    simpa [rd] using h'
  clear hr0 hx0
  have hx0 := hall 0 (by omega)
  rw [e0] at hx0
  have hbl : ad.block < w.heap.size := block_lt_of_cell hx0
  rw [Addr.add_zero'] at hx0
  have hc := hT.1 x0 l0
  have ha0 := hT.2 0 (by omega)
  have ha1 := hT.2 1 (by omega)
  have ha2 := hT.2 2 (by omega)
  have ha3 := hT.2 3 (by omega)
  have ha4 := hT.2 4 (by omega)
  simp only [accLo, accHi, Nat.reduceMul, Nat.reduceAdd, Nat.reduceEqDiff, if_true, if_false] at ha0 ha1 ha2 ha3 ha4
  obtain ⟨ha00, ha01⟩ := ha0
  obtain ⟨ha10, ha11⟩ := ha1
  obtain ⟨ha20, ha21⟩ := ha2
  obtain ⟨ha30, ha31⟩ := ha3
  obtain ⟨ha40, ha41⟩ := ha4
  clear hT
  have hd : dec l = decodeN l.length x0 (byteAt l 1) (byteAt l 2) (byteAt l 3) := by rw [dec, if_neg h0, b0]
  rw [hd]
  clear hd
  have hm : ∀ i, i < 4 → byteAt l i < 256 := fun i hi => by
    by_cases h : i < l.length
    · obtain ⟨n, e, e', hn⟩ := hB.at i hi h
      omega
    · simp [byteAt, List.getD, List.getElem?_eq_none (Nat.not_lt.mp h)]
  have m1 := hm 1 (by omega)
  have m2 := hm 2 (by omega)
  have m3 := hm 3 (by omega)
  have y1 : 1 < l.length → w.cell? (ad.add 1) = some (.int .u8 (byteAt l 1)) := fun h => by
    obtain ⟨n, e, e', hn⟩ := hB.at 1 (by omega) h
    rw [hall 1 h, e, e']
  have y2 : 2 < l.length → w.cell? (ad.add 2) = some (.int .u8 (byteAt l 2)) := fun h => by
    obtain ⟨n, e, e', hn⟩ := hB.at 2 (by omega) h
    rw [hall 2 h, e, e']
  have y3 : 3 < l.length → w.cell? (ad.add 3) = some (.int .u8 (byteAt l 3)) := fun h => by
    obtain ⟨n, e, e', hn⟩ := hB.at 3 (by omega) h
    rw [hall 3 h, e, e']
  clear hm hall hB e0 b0
  generalize byteAt l 1 = x1 at *
  generalize byteAt l 2 = x2 at *
  generalize byteAt l 3 = x3 at *
  generalize l.length = n at *
  have bl1 : (ad.add 1).block < w.heap.size := hbl
  have bl2 : (ad.add 2).block < w.heap.size := hbl
  have bl3 : (ad.add 3).block < w.heap.size := hbl
  have hres : firstT x0 < 240 → decodeN n x0 x1 x2 x3 = slowN n x0 x1 x2 x3 (firstT x0 % 8) (accLo (firstT x0 / 16)) (accHi (firstT x0 / 16)) :=
    fun h => (Lib.slow_eq _ _ _ _ _ (by omega) (by omega) (by omega) (by omega) h).symm
  rcases Lib.firstT_cases x0 with hX | hX | hX | hX | hX | hX | hX | hX | hX
  · rw [Lib.ascii_eq _ _ _ _ _ hX]
    rw [hX] at hc
    clear hres hX y1 y2 y3
    go_enter Tryd.func61, Tryd.ntmps61
    go_wp2
    rw [Utf8W.mask240, Utf8W.keep_byte ⟨x0, l0⟩]
    go_ret2
    exact ⟨rfl, Below.refl _ _⟩
  · rw [Lib.bad_eq _ _ _ _ _ (by omega) hX]
    rw [hX] at hc
    clear hres hX y1 y2 y3
    go_enter Tryd.func61, Tryd.ntmps61
    go_wp2
    rw [Utf8W.mask241, Utf8W.drop_byte ⟨x0, l0⟩]
    go_ret2
    exact ⟨rfl, Below.refl _ _⟩
  all_goals
    replace hres := hres (by omega)
    rw [hX] at hc hres
    simp only [accLo, accHi, Nat.reduceMul, Nat.reduceAdd, Nat.reduceEqDiff, if_true, if_false, Nat.reduceMod, Nat.reduceDiv] at hres
    rw [hres]
    clear hres hX
    have p1 : (0 ≤ (1 : Int)) = True := eq_true (by omega)
    have p2 : (0 ≤ (2 : Int)) = True := eq_true (by omega)
    have p3 : (0 ≤ (3 : Int)) = True := eq_true (by omega)
    by_cases h3 : 3 < n
    · have hx1 := y1 (by omega)
      have hz1 : w.cell? ⟨ad.block, ad.off + 1, none⟩ = some (.int .u8 x1) := hx1
      have hx2 := y2 (by omega)
      have hz2 : w.cell? ⟨ad.block, ad.off + 2, none⟩ = some (.int .u8 x2) := hx2
      have hx3 := y3 (by omega)
      have hz3 : w.cell? ⟨ad.block, ad.off + 3, none⟩ = some (.int .u8 x3) := hx3
      clear y1 y2 y3
      have q1 : ((1 : Int) < (n : Int)) = True := eq_true (by omega)
      have qi1 : (1 < n) = True := eq_true (by omega)
      have q2 : ((2 : Int) < (n : Int)) = True := eq_true (by omega)
      have qi2 : (2 < n) = True := eq_true (by omega)
      have q3 : ((3 : Int) < (n : Int)) = True := eq_true (by omega)
      have qi3 : (3 < n) = True := eq_true (by omega)
      have g2 : ¬ ((n : Int) < 2) := by omega
      have g3 : ¬ ((n : Int) < 3) := by omega
      have g4 : ¬ ((n : Int) < 4) := by omega
      go_enter Tryd.func61, Tryd.ntmps61
      go_wp2
      all_goals (go_ret2; refine ⟨?_, (Below.refl _ _).alloc (Nat.le_refl _) _⟩; unfold slowN; (repeat' split) <;> first | (exfalso; omega) | rfl | (simp only [Int.natCast_add, Int.natCast_mul, Int.natCast_emod, Int.natCast_ofNat]; rfl))
    rcases (by omega : n = 1 ∨ n = 2 ∨ n = 3) with hn | hn | hn
    · clear y1 y2 y3
      have g2 : (n : Int) < 2 := by omega
      have g3 : (n : Int) < 3 := by omega
      have g4 : (n : Int) < 4 := by omega
      go_enter Tryd.func61, Tryd.ntmps61
      go_wp2
      all_goals (go_ret2; refine ⟨?_, (Below.refl _ _).alloc (Nat.le_refl _) _⟩; unfold slowN; (repeat' split) <;> first | (exfalso; omega) | rfl | (simp only [Int.natCast_add, Int.natCast_mul, Int.natCast_emod, Int.natCast_ofNat]; rfl))
    · have hx1 := y1 (by omega)
      have hz1 : w.cell? ⟨ad.block, ad.off + 1, none⟩ = some (.int .u8 x1) := hx1
      have q1 : ((1 : Int) < (n : Int)) = True := eq_true (by omega)
      have qi1 : (1 < n) = True := eq_true (by omega)
      clear y1 y2 y3
      have g2 : ¬ ((n : Int) < 2) := by omega
      have g3 : (n : Int) < 3 := by omega
      have g4 : (n : Int) < 4 := by omega
      go_enter Tryd.func61, Tryd.ntmps61
      go_wp2
      all_goals (go_ret2; refine ⟨?_, (Below.refl _ _).alloc (Nat.le_refl _) _⟩; unfold slowN; (repeat' split) <;> first | (exfalso; omega) | rfl | (simp only [Int.natCast_add, Int.natCast_mul, Int.natCast_emod, Int.natCast_ofNat]; rfl))
    · have hx1 := y1 (by omega)
      have hz1 : w.cell? ⟨ad.block, ad.off + 1, none⟩ = some (.int .u8 x1) := hx1
      have q1 : ((1 : Int) < (n : Int)) = True := eq_true (by omega)
      have qi1 : (1 < n) = True := eq_true (by omega)
      have hx2 := y2 (by omega)
      have hz2 : w.cell? ⟨ad.block, ad.off + 2, none⟩ = some (.int .u8 x2) := hx2
      have q2 : ((2 : Int) < (n : Int)) = True := eq_true (by omega)
      have qi2 : (2 < n) = True := eq_true (by omega)
      clear y1 y2 y3
      have g2 : ¬ ((n : Int) < 2) := by omega
      have g3 : ¬ ((n : Int) < 3) := by omega
      have g4 : (n : Int) < 4 := by omega
      go_enter Tryd.func61, Tryd.ntmps61
      go_wp2
      all_goals (go_ret2; refine ⟨?_, (Below.refl _ _).alloc (Nat.le_refl _) _⟩; unfold slowN; (repeat' split) <;> first | (exfalso; omega) | rfl | (simp only [Int.natCast_add, Int.natCast_mul, Int.natCast_emod, Int.natCast_ofNat]; rfl))
end Go.Proofs.YtjlhehaagaaihaaDoor.P
