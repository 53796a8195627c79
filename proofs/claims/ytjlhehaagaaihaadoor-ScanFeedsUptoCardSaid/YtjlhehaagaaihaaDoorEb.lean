/- The library's decoder of UTF-8, and the first code point: their calls come to plain Lean functions. No condition. -/
import Derived.Test.YtjlhehaagaaihaaDoorEa
namespace Go.Proofs.YtjlhehaagaaihaaDoor.P
open Go.RowKit Go.Lib Go.Proofs.YtjlhehaagaaihaaDoorW.PrintWords Go.Proofs.YtjlhehaagaaihaaDoorW.PrintLast Go.Proofs.YtjlhehaagaaihaaDoorW.PrintMore
attribute [local go_sem] max2_int min2_int max_two min_two max_three min_three max_four min_four
set_option linter.unusedVariables false
set_option linter.unusedSimpArgs false

set_option maxHeartbeats 400000 in
set_option maxRecDepth 1000000 in
theorem DecodeRune.calls (A0 : Option Addr) (c0 : Nat) (l : List Int) (w : World) (hT : Tabs w) (hr0 : Kd.C (Kd.int .u8) w A0 l.length l) (hc0 : l.length ≤ c0) (hB : B4 l) :
    Calls Tryd.prog 48 #[.slice A0 l.length c0] w fun e w' => e = .returned (.tuple #[.int .i32 (dec l).1, .int .i64 (dec l).2]) ∧ Below w.heap.size w w' := by
  have cS := decodeRuneSlow.calls A0 c0 l w hT hr0 hc0 hB
  have CS := Aside0.mk cS
  clear cS
  by_cases h0 : l.length = 0
  · rw [h0] at CS
    rw [h0]
    clear hr0 hT hc0 hB h0
    go_enter Tryd.func48, Tryd.ntmps48
    go_wp2
    go_loop [8] (fun i => i = .int .i64 0) (fun _ => 0)
    case atStart => rfl
    case round =>
      subst hrel
      go_wp2_with (go_at_call 61; (with_reducible refine CS.out.mono ?_); rintro e w' ⟨rfl, hb⟩)
      go_ret2
      exact ⟨rfl, hb⟩
  obtain ⟨x0, e0, b0, l0⟩ := hB.at 0 (by omega) (by omega)
  have p0 : (0 ≤ (0 : Int)) = True := eq_true (by omega)
  have q0 : ((0 : Int) < (l.length : Int)) = True := eq_true (by omega)
  have q0' : ((0 : Int) < (l.length : Int)) := by omega
  have qi0 : (0 < l.length) = True := eq_true (by omega)
  obtain ⟨ad, eA, hx0⟩ := Kd.at_int hr0 0 (by omega) (by omega)
  cases eA
  clear hr0
  have hx0 : w.cell? (ad.add 0) = some (.int .u8 (x0 : Int)) := by rw [← e0]; exact hx0
  rw [Addr.add_zero'] at hx0
  by_cases ha : x0 < 128
  · have hd : dec l = (x0, 1) := by
      rw [dec, if_neg h0, b0, decodeN, if_pos ha]
    rw [hd]
    have ha' : (x0 : Int) < 128 := by omega
    clear CS hd
    go_enter Tryd.func48, Tryd.ntmps48
    go_wp2
    go_loop [8] (fun i => i = .int .i64 0) (fun _ => 0)
    case atStart => rfl
    case round =>
      subst hrel
      go_wp2
      go_ret2
      exact ⟨rfl, Below.refl _ _⟩
  · have ha' : ¬ ((x0 : Int) < 128) := by omega
    go_enter Tryd.func48, Tryd.ntmps48
    go_wp2
    go_loop [8] (fun i => i = .int .i64 0) (fun _ => 0)
    case atStart => rfl
    case round =>
      subst hrel
      go_wp2_with (go_at_call 61; (with_reducible refine CS.out.mono ?_); rintro e w' ⟨rfl, hb⟩)
      go_ret2
      exact ⟨rfl, hb⟩

/-- The first code point, and how many bytes it has. -/
def one4 (l : List Int) : Int × Int := if (dec l).1 = 65533 ∧ (dec l).2 < 2 then (0, 0) else (((dec l).1 : Int), ((dec l).2 : Int))
def b4 (l : List Int) : Bool := (l.take 4).all fun x => decide (0 ≤ x) && decide (x < 256)
def code_One.f (l : List Int) : Option (Int × Int) := if b4 l = true then some (one4 l) else none
theorem B4_of {l : List Int} (h : b4 l = true) : B4 l := fun i hi hl => by
  have hm : l[i] ∈ l.take 4 := by
    rw [List.mem_take_iff_getElem]
    exact ⟨i, by omega, rfl⟩
  have := List.all_eq_true.1 h _ hm
  simp only [Bool.and_eq_true, decide_eq_true_eq] at this
  have e : l.getD i 0 = l[i] := by simp [List.getD, List.getElem?_eq_getElem hl]
  rw [e]
  exact this

theorem byteAt_take (l : List Int) (m i : Nat) (h : i < m) : byteAt (l.take m) i = byteAt l i := by
  simp [byteAt, List.getD, List.getElem?_take, h]
theorem B4_take {l : List Int} (h : B4 l) : B4 (l.take 4) := fun i hi hl => by
  have : (l.take 4).getD i 0 = l.getD i 0 := by simp [List.getD, List.getElem?_take, hi]
  rw [this]
  exact h i hi (by simp at hl; omega)
/-- Four bytes are enough. -/
theorem dec_take (l : List Int) : dec (l.take 4) = dec l := by
  unfold dec
  by_cases h : l.length = 0
  · rw [if_pos h, if_pos (by rw [List.length_take]; omega)]
  · rw [if_neg h, if_neg (by simp; intro e; exact h (by simp [e])), byteAt_take l 4 0 (by omega), byteAt_take l 4 1 (by omega), byteAt_take l 4 2 (by omega), byteAt_take l 4 3 (by omega)]
    have e : (l.take 4).length = min 4 l.length := List.length_take
    rw [e]
    have c1 : (1 < min 4 l.length) = (1 < l.length) := propext ⟨fun h => by omega, fun h => by omega⟩
    have c2 : (2 < min 4 l.length) = (2 < l.length) := propext ⟨fun h => by omega, fun h => by omega⟩
    have c3 : (3 < min 4 l.length) = (3 < l.length) := propext ⟨fun h => by omega, fun h => by omega⟩
    simp only [decodeN, c1, c2, c3]
theorem dec_small (l : List Int) : (dec l).1 < 1114112 ∧ (dec l).2 ≤ 4 := by
  unfold dec decodeN
  repeat' split
  all_goals (simp only; omega)

set_option maxHeartbeats 400000 in
set_option maxRecDepth 1000000 in
theorem code_One.calls (A0 : Option Addr) (c0 : Nat) (l0 : List Int) (r0 r1 : Int) (w : World) (HTb_ : Aside0 (Tabs w)) (hr0 : Kd.C (Kd.int .u8) w A0 l0.length l0) (hc0 : l0.length ≤ c0) (h : code_One.f l0 = some (r0, r1)) :
    Calls Tryd.prog 23 #[.slice A0 l0.length c0] w fun e w' => e = .returned (.tuple #[.int .u32 r0, .int .i64 r1]) ∧ Below w.heap.size w w' := by
  have hb : b4 l0 = true := by
    unfold code_One.f at h
    split at h
    · assumption
    · cases h
  have hB := B4_of hb
  have he : one4 l0 = (r0, r1) := by
    unfold code_One.f at h
    rw [if_pos hb] at h
    exact Option.some.inj h
  clear hb
  clear h
  have hu : Tryd.prog.underlying 23 = some (.slice (Tryd.prog.elem 23)) := by kernel_rfl
  have hel : Tryd.prog.elem 23 = 5 := by kernel_rfl
  obtain ⟨i07, hi07, _, hsz7, _⟩ := info_parts info5
  have hr1 : Kd.C (Kd.int .u8) w A0 (l0.take 4).length (l0.take 4) := by
    have h4 : (l0.take 4).length = min 4 l0.length := List.length_take
    have := Kd.C_of_reads (h1 := fun _ => rfl) ((Kd.reads_of_C (d := (0 : Int)) hr0).take_ (min 4 l0.length) (by omega))
    rw [h4]
    have e4 : l0.take (min 4 l0.length) = l0.take 4 := by
      by_cases h : 4 ≤ l0.length
      · rw [Nat.min_eq_left h]
      · rw [Nat.min_eq_right (by omega), List.take_of_length_le (Nat.le_refl _), List.take_of_length_le (by omega)]
    rwa [e4] at this
  have hcut0 : ∀ (W : World) (m : Nat), m ≤ l0.length → m ≤ 4 → (Instr.slice 23 (.slice A0 l0.length c0) none (some (.int .i64 (m : Int))) (some (.int .i64 (l0.length : Int)))).run Tryd.prog W = .ok (.slice A0 m l0.length) W := fun W m hm _ => by
    have ha : (A0.map fun x => x.add 0) = A0 := by cases A0 <;> simp [Addr.add]
    rw [run_slice_hm W 23 A0 l0.length c0 hu _ _ _ _ (by omega) (by omega) (by omega), hel]
    simp [sizeOf, typeInfo, hi07, hsz7, sliced, Result.andThen, ha]
  have cS := DecodeRune.calls A0 l0.length (l0.take 4) w HTb_.out hr1 (by rw [List.length_take]; omega) (B4_take hB)
  rw [dec_take] at cS
  have CS := Aside0.mk cS
  have s1 := (dec_small l0).1
  have s2 := (dec_small l0).2
  unfold one4 at he
  have hl4 : (l0.take 4).length ≤ l0.length := by rw [List.length_take]; omega
  generalize (dec l0).1 = d1 at *
  generalize (dec l0).2 = d2 at *
  clear cS hr1 hr0 hB
  have w1 : ((d1 : Int) % 4294967296) = d1 := by omega
  have hr : r0 = if d1 = 65533 ∧ d2 < 2 then 0 else (d1 : Int) := by
    split at he
    · cases he; rw [if_pos ‹_›]
    · cases he; rw [if_neg ‹_›]
  have hr' : r1 = if d1 = 65533 ∧ d2 < 2 then 0 else (d2 : Int) := by
    split at he
    · cases he; rw [if_pos ‹_›]
    · cases he; rw [if_neg ‹_›]
  clear he hl4
  have HC0_ := Aside0.mk hcut0
  clear hcut0 hi07 hsz7 hu hel
  have HR0_ := Aside0.mk hr
  have HR1_ := Aside0.mk hr'
  have W1_ := Aside0.mk w1
  clear hr hr' w1
  have CS' : ∀ m : Nat, m = (l0.take 4).length → Calls Tryd.prog 48 #[.slice A0 m l0.length] w fun e w' => e = .returned (.tuple #[.int .i32 d1, .int .i64 d2]) ∧ Below w.heap.size w w' := fun m hm => hm ▸ CS.out
  have CS'' := Aside0.mk CS'
  clear CS CS'
  by_cases c4 : (4 : Int) < (l0.length : Int)
  · have hcut : ∀ W : World, (Instr.slice 23 (.slice A0 l0.length c0) none (some (.int .i64 4)) (some (.int .i64 (l0.length : Int)))).run Tryd.prog W = .ok (.slice A0 4 l0.length) W := fun W => by
      exact HC0_.out W 4 (by omega) (by omega)
    have hl := Aside0.mk (show 4 = (l0.take 4).length by rw [List.length_take]; omega)
    go_enter Tryd.func23, Tryd.ntmps23
    go_wp2_with (go_at_call 48; (with_reducible refine (CS''.out _ hl.out).mono ?_); rintro e w' ⟨rfl, hb⟩)
    all_goals (go_ret2; refine ⟨?_, hb⟩; rw [HR0_.out, HR1_.out]; first | (rw [if_pos ⟨by omega, by omega⟩, if_pos ⟨by omega, by omega⟩]; rfl) | (rw [if_neg (by omega), if_neg (by omega), (show (d1 : Int) = 65533 by omega)]; rfl) | (rw [if_neg (by omega), if_neg (by omega)]; show Ending.returned (.tuple #[.int .u32 ((d1 : Int) % 4294967296), .int .i64 d2]) = _; rw [W1_.out]) | (rw [if_neg (by omega), if_neg (by omega)]; rfl))
  · have hcut : ∀ W : World, (Instr.slice 23 (.slice A0 l0.length c0) none (some (.int .i64 (l0.length : Int))) (some (.int .i64 (l0.length : Int)))).run Tryd.prog W = .ok (.slice A0 l0.length l0.length) W := fun W => by
      exact HC0_.out W l0.length (by omega) (by omega)
    have hl := Aside0.mk (show l0.length = (l0.take 4).length by rw [List.length_take]; omega)
    go_enter Tryd.func23, Tryd.ntmps23
    go_wp2_with (go_at_call 48; (with_reducible refine (CS''.out _ hl.out).mono ?_); rintro e w' ⟨rfl, hb⟩)
    all_goals (go_ret2; refine ⟨?_, hb⟩; rw [HR0_.out, HR1_.out]; first | (rw [if_pos ⟨by omega, by omega⟩, if_pos ⟨by omega, by omega⟩]; rfl) | (rw [if_neg (by omega), if_neg (by omega), (show (d1 : Int) = 65533 by omega)]; rfl) | (rw [if_neg (by omega), if_neg (by omega)]; show Ending.returned (.tuple #[.int .u32 ((d1 : Int) % 4294967296), .int .i64 d2]) = _; rw [W1_.out]) | (rw [if_neg (by omega), if_neg (by omega)]; rfl))
end Go.Proofs.YtjlhehaagaaihaaDoor.P
