/- The library's Valid over bytes: its calls come to a plain Lean function. The two tables are asked for as a fact of the world ('Tabs'). The walk follows the library's worked walk of ValidString. No condition. -/
import Derived.Test.YtjlhehaagaaihaaDoorEb
import Derived.Test.YtjlhehaagaaihaaDoorPx2
import Derived.Lib.Hide
import Derived.Lib.ValidAsc
import Derived.Lib.EndianBits
import Derived.Laws.BitsAllLaws
import Derived.Deep.LoopGhost
import Derived.Deep.DeepMust
import Derived.Deep.CutBlock
import Derived.Deep.DeepCutAuto
namespace Go.Proofs.YtjlhehaagaaihaaDoor.P
open Go.RowKit Go.Lib Go.Proofs.YtjlhehaagaaihaaDoorW.PrintWords Go.Proofs.YtjlhehaagaaihaaDoorW.PrintLast Go.Proofs.YtjlhehaagaaihaaDoorW.PrintMore
attribute [local go_sem] max2_int min2_int max_two min_two max_three min_three max_four min_four
set_option linter.unusedVariables false
set_option linter.unusedSimpArgs false

/-- Bytes as numbers. -/
def ints (t : List UInt8) : List Int := t.map fun b => (b.toNat : Int)
theorem ints_len (t : List UInt8) : (ints t).length = t.length := by simp [ints]
theorem ints_get (t : List UInt8) (i : Nat) (h : i < t.length) : (ints t).getD i 0 = ((t.getD i 0).toNat : Int) := by
  simp [ints, List.getD, List.getElem?_map, List.getElem?_eq_getElem h]
theorem ints_drop (t : List UInt8) (k : Nat) : (ints t).drop k = ints (t.drop k) := by simp [ints]

/-- A slice value that reads as bytes. -/
def Sl (w : World) (A : Option Addr) (n c : Nat) (t : List UInt8) : Prop := n = t.length ∧ n ≤ c ∧ n ≤ 9223372036854775807 ∧ Kd.C (Kd.int .u8) w A n (ints t)
theorem Sl.len {w : World} {A : Option Addr} {n c : Nat} {t : List UInt8} (h : Sl w A n c t) : n = t.length ∧ n ≤ 9223372036854775807 := ⟨h.1, h.2.2.1⟩
theorem Sl.cut {w : World} {A : Option Addr} {n c : Nat} {t : List UInt8} (h : Sl w A n c t) (k : Nat) (hk : k ≤ n) :
    ∃ A' n' c', (∀ W : World, (Instr.slice 23 (.slice A n c) (some (.int .i64 (k : Int))) none none).run Tryd.prog W = .ok (.slice A' n' c') W) ∧ Sl w A' n' c' (t.drop k) ∧ n' + k = n := by
  obtain ⟨h1, h2, h3, h4⟩ := h
  obtain ⟨i07, hi07, _, hsz7, _⟩ := info_parts info5
  have hl : (ints t).length = n := by rw [ints_len, h1]
  rw [← hl] at h4 h2 hk
  obtain ⟨A', e1, e2, e3⟩ := print_drop_of (P := Tryd.prog) (Value.int .u8) 0 23 5 .i64 Tryd.underlying23 hi07 hsz7 A c (ints t) (k : Int) (by omega) (by omega) h2
  have e4 := Kd.C_of_reads (h1 := fun _ => rfl) (e2 _ (Kd.reads_of_C h4))
  have hd : ((ints t).drop (k : Int).toNat).length = n - k := by rw [List.length_drop, hl]; simp
  rw [hd] at e1 e3 e4
  rw [hl] at e1
  refine ⟨A', n - k, c - k, fun W => by have := e1 W; simpa using this, ⟨by rw [List.length_drop, h1], by simpa using e3, by omega, ?_⟩, by omega⟩
  have : (ints t).drop (k : Int).toNat = ints (t.drop k) := by rw [Int.toNat_natCast, ints_drop]
  rw [this] at e4
  exact e4
theorem Sl.whole {w : World} {A : Option Addr} {n c : Nat} {t : List UInt8} (h : Sl w A n c t) :
    (∀ W : World, (Instr.slice 23 (.slice A n c) none (some (.int .i64 (n : Int))) (some (.int .i64 (n : Int)))).run Tryd.prog W = .ok (.slice A n n) W) ∧ Sl w A n n t := by
  refine ⟨fun W => ?_, ⟨h.1, Nat.le_refl _, h.2.2.1, h.2.2.2⟩⟩
  obtain ⟨i07, hi07, _, hsz7, _⟩ := info_parts info5
  have hu : Tryd.prog.underlying 23 = some (.slice (Tryd.prog.elem 23)) := by kernel_rfl
  have hel : Tryd.prog.elem 23 = 5 := by kernel_rfl
  have ha : (A.map fun x => x.add 0) = A := by cases A <;> simp [Addr.add]
  have hc := h.2.1
  rw [run_slice_hm W 23 A n c hu _ _ _ _ (by omega) (by omega) (by omega), hel]
  simp [sizeOf, typeInfo, hi07, hsz7, sliced, Result.andThen, ha]
theorem Sl.at {w : World} {A : Option Addr} {n c : Nat} {t : List UInt8} (h : Sl w A n c t) (h0 : 0 < n) :
    ∃ ad : Addr, A = some ad ∧ ad.block < w.heap.size ∧ ∀ W : World, Below w.heap.size w W → ∀ i, i < n → W.cell? (ad.add i) = some (.int .u8 ((t.getD i 0).toNat : Int)) := by
  obtain ⟨h1, h2, h3, h4⟩ := h
  obtain ⟨ad, eA, hx⟩ := Kd.at_int h4 0 (by omega) (by omega)
  cases eA
  have hall : ∀ i : Nat, i < n → w.cell? (ad.add i) = some (.int .u8 ((t.getD i 0).toNat : Int)) := fun i hi => by
    obtain ⟨ad', e', h'⟩ := Kd.at_int h4 (i : Int) (by omega) (by omega)
    cases e'
    rw [← ints_get t i (by omega)]
    simpa [rd] using h'
  have hbl : ad.block < w.heap.size := block_lt_of_cell (hall 0 h0)
  exact ⟨ad, rfl, hbl, fun W hb i hi => pw_cell_below hb (hall i hi)⟩

theorem take8l (t : List UInt8) (h : 8 ≤ t.length) : [t.getD 0 0, t.getD 1 0, t.getD 2 0, t.getD 3 0, t.getD 4 0, t.getD 5 0, t.getD 6 0, t.getD 7 0] = t.take 8 := by
  match t, h with
  | a0 :: a1 :: a2 :: a3 :: a4 :: a5 :: a6 :: a7 :: r, _ => simp
set_option maxRecDepth 100000 in
set_option maxHeartbeats 1000000 in
/-- What 'word' tells of the first eight bytes. -/
theorem Sl.word {w : World} {A : Option Addr} {n c : Nat} {t : List UInt8} (h : Sl w A n c t) (h8 : 8 ≤ n) :
    ∃ X : Nat, X < 18446744073709551616 ∧ (X &&& 9259542123273814144 = 0 → ∀ b ∈ t.take 8, b.toNat < 128) ∧
      ∀ W : World, Below w.heap.size w W → Calls Tryd.prog 60 #[.slice A n c] W fun e w' => e = .returned (.int .u64 (X : Int)) ∧ ∃ q, w' = W.drewN q := by
  obtain ⟨h1, h2, h3, h4⟩ := h
  have ht : 8 ≤ t.length := by omega
  refine ⟨Lib.leNat (t.take 8), ?_, fun hz => ?_, fun W hb => ?_⟩
  · have h := Lib.leNat_lt (t.take 8)
    have e : (t.take 8).length = 8 := by rw [List.length_take]; omega
    rw [e] at h
    exact h
  · have e : (t.take 8).length = 8 := by rw [List.length_take]; omega
    have := Lib.leNat_mask (t.take 8)
    rw [e, Lib.maskN8] at this
    exact this.1 hz
  · have hl : (ints t).length = n := by rw [ints_len, h1]
    have hf : utf8_word_byte.f (ints t) = some ((Lib.leNat (t.take 8) : Nat) : Int) := by
      have g : ∀ i : Nat, i < 8 → rd (ints t) (i : Int) = ((t.getD i 0).toNat : Int) := fun i hi => by
        rw [← ints_get t i (by omega)]; simp [rd]
      have b : ∀ i : Nat, (t.getD i 0).toNat < 256 := fun i => (t.getD i 0).toNat_lt
      have g0 := g 0 (by omega); have g1 := g 1 (by omega); have g2 := g 2 (by omega); have g3 := g 3 (by omega); have g4 := g 4 (by omega); have g5 := g 5 (by omega); have g6 := g 6 (by omega); have g7 := g 7 (by omega)
      have b0 := b 0; have b1 := b 1; have b2 := b 2; have b3 := b 3; have b4 := b 4; have b5 := b 5; have b6 := b 6; have b7 := b 7
      have wr : ∀ z : Int, 0 ≤ z → z < 18446744073709551616 → IntKind.u64.wrap z = z := fun z h0 h1 => by
        show z % 18446744073709551616 = z
        omega
      rw [← take8l t ht]
      unfold utf8_word_byte.f
      rw [hl, if_pos (by omega), if_pos (by omega), if_pos (by omega), if_pos (by omega), if_pos (by omega), if_pos (by omega), if_pos (by omega), if_pos (by omega)]
      have g0' : rd (ints t) 0 = _ := g0
      have g1' : rd (ints t) 1 = _ := g1
      have g2' : rd (ints t) 2 = _ := g2
      have g3' : rd (ints t) 3 = _ := g3
      have g4' : rd (ints t) 4 = _ := g4
      have g5' : rd (ints t) 5 = _ := g5
      have g6' : rd (ints t) 6 = _ := g6
      have g7' : rd (ints t) 7 = _ := g7
      rw [g0', g1', g2', g3', g4', g5', g6', g7']
      generalize t.getD 0 0 = x0 at *
      generalize t.getD 1 0 = x1 at *
      generalize t.getD 2 0 = x2 at *
      generalize t.getD 3 0 = x3 at *
      generalize t.getD 4 0 = x4 at *
      generalize t.getD 5 0 = x5 at *
      generalize t.getD 6 0 = x6 at *
      generalize t.getD 7 0 = x7 at *
      have hv : ((Lib.leNat [x0, x1, x2, x3, x4, x5, x6, x7] : Nat) : Int) = (x0.toNat : Int) + (x1.toNat : Int) * 256 + (x2.toNat : Int) * 65536 + (x3.toNat : Int) * 16777216 + (x4.toNat : Int) * 4294967296 + (x5.toNat : Int) * 1099511627776 + (x6.toNat : Int) * 281474976710656 + (x7.toNat : Int) * 72057594037927936 := by
        simp only [Lib.leNat]
        push_cast
        omega
      rw [wr _ (by omega) (by omega), wr (x1.toNat : Int) (by omega) (by omega), wr (x2.toNat : Int) (by omega) (by omega), wr (x3.toNat : Int) (by omega) (by omega), wr (x4.toNat : Int) (by omega) (by omega), wr (x5.toNat : Int) (by omega) (by omega), wr (x6.toNat : Int) (by omega) (by omega), wr (x7.toNat : Int) (by omega) (by omega)]
      rw [wr ((x1.toNat : Int) * _) (by omega) (by omega), wr ((x2.toNat : Int) * _) (by omega) (by omega), wr ((x3.toNat : Int) * _) (by omega) (by omega), wr ((x4.toNat : Int) * _) (by omega) (by omega), wr ((x5.toNat : Int) * _) (by omega) (by omega), wr ((x6.toNat : Int) * _) (by omega) (by omega), wr ((x7.toNat : Int) * _) (by omega) (by omega)]
      simp (disch := omega) only [u64_or8, u64_or16, u64_or24, u64_or32, u64_or40, u64_or48, u64_or56]
      rw [hv]
    have := utf8_word_byte.calls A c (ints t) _ W (by rw [hl]; exact Kd.C_below h4 hb) (by omega) hf
    rw [hl] at this
    exact this.mono fun e w' ⟨he, hd⟩ => ⟨he, hd.out⟩

/-- Is it right UTF-8? -/
def allb (l : List Int) : Bool := l.all fun x => decide (0 ≤ x) && decide (x < 256)
def asB (l : List Int) : List UInt8 := l.map fun x => UInt8.ofNat x.toNat
theorem ints_asB {l : List Int} (h : allb l = true) : ints (asB l) = l := by
  have h := List.all_eq_true.1 h
  simp only [Bool.and_eq_true, decide_eq_true_eq] at h
  unfold ints asB
  rw [List.map_map]
  conv => rhs; rw [← List.map_id l]
  refine List.map_congr_left fun x hx => ?_
  have := h x hx
  simp only [Function.comp, UInt8.toNat_ofNat', id_eq]
  omega
def utf8_Valid.f (l : List Int) : Option Bool := if allb l = true then some (Lib.validD (asB l)) else none
set_option maxRecDepth 100000 in
theorem and7 : ∀ X : Fin 256, bits .and .u8 ((X.val : Nat) : Int) 7 = ((X.val % 8 : Nat) : Int) := by decide
theorem below_dN {B : Nat} {a w : World} (h : Below B a w) : ∀ q, Below B a (w.drewN q)
  | 0 => h
  | q + 1 => (below_dN h q).drew
theorem asc_add (t : List UInt8) (a b : Nat) (ha : ∀ x ∈ t.take a, x.toNat < 128) (hb : ∀ x ∈ (t.drop a).take b, x.toNat < 128) : ∀ x ∈ t.take (a + b), x.toNat < 128 := by
  rw [List.take_add]
  intro x hx
  rcases List.mem_append.1 hx with h | h
  · exact ha x h
  · exact hb x h
theorem asc_one (t : List UInt8) (h0 : 0 < t.length) (h : (t.getD 0 0).toNat < 128) : ∀ x ∈ t.take 1, x.toNat < 128 := by
  match t, h0 with
  | a :: r, _ =>
    intro b hb
    simp at hb h
    subst hb
    exact h

set_option maxHeartbeats 16000000 in
set_option maxRecDepth 1000000 in
theorem valid_any (A0 : Option Addr) (n0 c0 : Nat) (s : List UInt8) (w : World) (hT : Tabs w) (hS : Sl w A0 n0 c0 s) :
    Calls Tryd.prog 46 #[.slice A0 n0 c0] w fun e w' => e = .returned (.bool (Lib.validD s)) ∧ Below w.heap.size w w' := by
  obtain ⟨ANS, hANS⟩ : ∃ ANS, Lib.validD s = ANS := ⟨_, rfl⟩
  rw [hANS]
  have HANS := Lib.hid hANS
  clear hANS
  obtain ⟨hcut0, hS1⟩ := hS.whole
  have hn0 := hS.len.2
  have HS1 := Lib.hid hS1
  clear hS hS1
  have hle0 : ((n0 : Int) ≤ (n0 : Int)) := Int.le_refl _
  go_enter Tryd.func46, Tryd.ntmps46
  go_wp2
  clear hcut0
  go_loopg [0] (n0 + 1) (fun gk s0 wx => Below w.heap.size w wx ∧ ∃ (A : Option Addr) (n c : Nat) (t : List UInt8), s0 = .slice A n c ∧ Aside0 (Sl w A n c t) ∧ Aside0 (Lib.validD t = ANS) ∧ n < gk ∧ n ≤ 9223372036854775807)
  case atStart => exact ⟨Below.refl _ _, A0, n0, n0, s, rfl, ⟨HS1.out⟩, ⟨HANS.out⟩, by omega, by omega⟩
  case round =>
    obtain ⟨hbw, A, n, c, t, rfl, HS, HV, hg, hts⟩ := hrel
    clear HANS HS1
    by_cases h0 : 0 < n
    · obtain ⟨g', rfl⟩ : ∃ g', gk = g' + 1 := ⟨gk - 1, by omega⟩
      have h0z : (0 : Int) < (n : Int) := by omega
      obtain ⟨ad, hA, hbl0, hcells0⟩ := HS.out.at h0
      subst hA
      have hcells := hcells0 wr hbw
      clear hcells0
      have hnt := HS.out.len.1
      obtain ⟨x0, hx0⟩ : ∃ x0, t.getD 0 0 = x0 := ⟨_, rfl⟩
      have hs0 := hcells 0 h0
      rw [hx0, Addr.add_zero'] at hs0
      have hx0lt : x0.toNat < 256 := x0.toNat_lt
      have hbl : ad.block < wr.heap.size := Nat.lt_of_lt_of_le hbl0 hbw.size
      have p0 : (0 ≤ (0 : Int)) = True := eq_true (by omega)
      by_cases hasc : x0.toNat < 128
      · as_aux_lemma =>
        have hascz : (x0.toNat : Int) < 128 := by omega
        have a1 := asc_one t (by omega) (by rw [hx0]; exact hasc)
        have v1 : Lib.validD (t.drop 1) = ANS := by rw [← Lib.validD_ascii 1 t a1]; exact HV.out
        obtain ⟨A1, n1, c1, cut1, S1, z1⟩ := HS.out.cut 1 (by omega)
        have cut1 : ∀ W : World, (Instr.slice 23 (.slice (some ad) n c) (some (.int .i64 1)) none none).run Tryd.prog W = .ok (.slice A1 n1 c1) W := cut1
        have V1 := Lib.hid v1
        have HS1 := Lib.hid S1
        clear hcells a1 v1 HV hx0 hnt hT S1 HS
        by_cases c8 : 8 < n1
        · have c8z : (8 : Int) < (n1 : Int) := by omega
          obtain ⟨X1, lX1, kX1, cW1⟩ := HS1.out.word (by omega)
          have KX1 := Lib.hid kX1
          clear kX1
          have hand1 : bits .and .u64 (X1 : Int) 9259542123273814144 = ((X1 &&& 9259542123273814144 : Nat) : Int) := u64_and_nat X1 9259542123273814144 lX1 (by omega)
          obtain ⟨Z1, hZ1⟩ : ∃ Z1, X1 &&& 9259542123273814144 = Z1 := ⟨_, rfl⟩
          rw [hZ1] at hand1
          have HZ1 := Lib.hid hZ1
          clear hZ1
          have CW1 := Lib.hid cW1
          clear cW1
          by_cases hz1 : Z1 = 0
          · have hz1b : ((Z1 : Int) == 0) = true := by simp [hz1]
            have a8 := KX1.out (by rw [HZ1.out]; exact hz1)
            obtain ⟨A2, n2, c2, cut2, S2, z2⟩ := HS1.out.cut 8 (by omega)
            have cut2 : ∀ W : World, (Instr.slice 23 (.slice A1 n1 c1) (some (.int .i64 8)) none none).run Tryd.prog W = .ok (.slice A2 n2 c2) W := cut2
            have v2 : Lib.validD ((t.drop 1).drop 8) = ANS := by rw [← Lib.validD_ascii 8 _ a8]; exact V1.out
            have V2 := Lib.hid v2
            have HS2 := Lib.hid S2
            clear a8 v2 S2 KX1 HZ1
            go_wp2_with (go_at_call 60; ((with_reducible refine (CW1.out _ hbw).mono ?_); rintro e W1 ⟨rfl, q1, rfl⟩))
            have hb1 : Below w.heap.size w (wr.drewN q1) := below_dN hbw q1
            clear CW1 cut1 cut2 hs0
            generalize wr.drewN q1 = wq at hb1 ⊢
            by_cases c16 : 16 < n2
            · have c16z : (16 : Int) < (n2 : Int) := by omega
              have s8z : (8 : Int) ≤ (n2 : Int) := by omega
              obtain ⟨X2, lX2, kX2, cW2⟩ := HS2.out.word (by omega)
              obtain ⟨A3, n3, c3, cut3, S3, z3⟩ := HS2.out.cut 8 (by omega)
              have cut3 : ∀ W : World, (Instr.slice 23 (.slice A2 n2 c2) (some (.int .i64 8)) none none).run Tryd.prog W = .ok (.slice A3 n3 c3) W := cut3
              obtain ⟨X3, lX3, kX3, cW3⟩ := S3.word (by omega)
              have hor2 : bits .or .u64 (X2 : Int) (X3 : Int) = ((X2 ||| X3 : Nat) : Int) := u64_or_nat X2 X3 lX2 lX3
              have lor2 : X2 ||| X3 < 18446744073709551616 := Nat.or_lt_two_pow (n := 64) lX2 lX3
              have hand2 : bits .and .u64 ((X2 ||| X3 : Nat) : Int) 9259542123273814144 = (((X2 ||| X3) &&& 9259542123273814144 : Nat) : Int) := u64_and_nat _ 9259542123273814144 lor2 (by omega)
              have k2 : (X2 ||| X3) &&& 9259542123273814144 = 0 → ∀ b ∈ ((t.drop 1).drop 8).take 16, b.toNat < 128 := fun h0' => by
                obtain ⟨e1, e2⟩ := (Lib.or_mask X2 X3 _).1 h0'
                exact asc_add _ 8 8 (kX2 e1) (kX3 e2)
              obtain ⟨O2, hO2⟩ : ∃ O2, X2 ||| X3 = O2 := ⟨_, rfl⟩
              rw [hO2] at hor2 hand2 k2
              obtain ⟨Z2, hZ2⟩ : ∃ Z2, O2 &&& 9259542123273814144 = Z2 := ⟨_, rfl⟩
              rw [hZ2] at hand2 k2
              have K2 := Lib.hid k2
              have cq2 : ∀ q, Calls Tryd.prog 60 #[.slice A2 n2 c2] (wq.drewN q) fun e w' => e = .returned (.int .u64 (X2 : Int)) ∧ ∃ m, w' = (wq.drewN q).drewN m := fun q => cW2 _ (below_dN hb1 q)
              have cq3 : ∀ q, Calls Tryd.prog 60 #[.slice A3 n3 c3] (wq.drewN q) fun e w' => e = .returned (.int .u64 (X3 : Int)) ∧ ∃ m, w' = (wq.drewN q).drewN m := fun q => cW3 _ (below_dN hb1 q)
              have CW2 := Lib.hid cq2
              have CW3 := Lib.hid cq3
              clear cq2 cq3
              clear kX2 kX3 lor2 hO2 hZ2 k2 cW2 cW3 S3
              by_cases hz2 : Z2 = 0
              · have hz2b : ((Z2 : Int) == 0) = true := by simp [hz2]
                have a16 := K2.out hz2
                obtain ⟨A4, n4, c4, cut4, S4, z4⟩ := HS2.out.cut 16 (by omega)
                have cut4 : ∀ W : World, (Instr.slice 23 (.slice A2 n2 c2) (some (.int .i64 16)) none none).run Tryd.prog W = .ok (.slice A4 n4 c4) W := cut4
                have v4 : Lib.validD (((t.drop 1).drop 8).drop 16) = ANS := by rw [← Lib.validD_ascii 16 _ a16]; exact V2.out
                have V4 := Lib.hid v4
                have HS4 := Lib.hid S4
                clear K2 a16 v4 S4
                go_big_quiet (first | (go_at_call 60; (with_reducible refine Calls.quiet_of (CW2.out _))) | (go_at_call 60; (with_reducible refine Calls.quiet_of (CW3.out _))))
                have hb2 : Below w.heap.size w (wq.drewN nq) := below_dN hb1 nq
                generalize wq.drewN nq = wq2 at hb2 ⊢
                clear CW2 CW3 hb1 cut3
                go_wp2
                clear cut4
                go_loopg [0] (n4 + 1) (fun g2 s0 wx => Below w.heap.size w wx ∧ ∃ (A : Option Addr) (n c : Nat) (u : List UInt8), s0 = .slice A n c ∧ Aside0 (Sl w A n c u) ∧ Aside0 (Lib.validD u = ANS) ∧ n < g2 ∧ n ≤ n4)
                case atStart => exact ⟨hb2, A4, n4, c4, _, rfl, ⟨HS4.out⟩, ⟨V4.out⟩, by omega, Nat.le_refl _⟩
                case round =>
                  obtain ⟨hbu, Au, nu, cu, u, rfl, HSu, HVu, hgu, hut⟩ := hrel
                  clear HS4 V4 HS2 V2 HS1 V1 hor2 hand2 hand1
                  by_cases c32 : 32 < nu
                  · obtain ⟨g3, rfl⟩ : ∃ g3, gk = g3 + 1 := ⟨gk - 1, by omega⟩
                    have c32z : (32 : Int) < (nu : Int) := by omega
                    have s8u : (8 : Int) ≤ (nu : Int) := by omega
                    have s16u : (16 : Int) ≤ (nu : Int) := by omega
                    have s24u : (24 : Int) ≤ (nu : Int) := by omega
                    obtain ⟨Ab, nb, cb, cutb, Sb, zb⟩ := HSu.out.cut 8 (by omega)
                    have cutb : ∀ W : World, (Instr.slice 23 (.slice Au nu cu) (some (.int .i64 8)) none none).run Tryd.prog W = .ok (.slice Ab nb cb) W := cutb
                    obtain ⟨Ac, nc, cc, cutc, Sc, zc⟩ := HSu.out.cut 16 (by omega)
                    have cutc : ∀ W : World, (Instr.slice 23 (.slice Au nu cu) (some (.int .i64 16)) none none).run Tryd.prog W = .ok (.slice Ac nc cc) W := cutc
                    obtain ⟨Ad, nd, cd, cutd, Sd, zd⟩ := HSu.out.cut 24 (by omega)
                    have cutd : ∀ W : World, (Instr.slice 23 (.slice Au nu cu) (some (.int .i64 24)) none none).run Tryd.prog W = .ok (.slice Ad nd cd) W := cutd
                    obtain ⟨B0, lB0, kB0, cB0⟩ := HSu.out.word (by omega)
                    obtain ⟨B1, lB1, kB1, cB1⟩ := Sb.word (by omega)
                    obtain ⟨B2, lB2, kB2, cB2⟩ := Sc.word (by omega)
                    obtain ⟨B3, lB3, kB3, cB3⟩ := Sd.word (by omega)
                    have ho1 : bits .or .u64 (B0 : Int) (B1 : Int) = ((B0 ||| B1 : Nat) : Int) := u64_or_nat B0 B1 lB0 lB1
                    have ho2 : bits .or .u64 (B2 : Int) (B3 : Int) = ((B2 ||| B3 : Nat) : Int) := u64_or_nat B2 B3 lB2 lB3
                    have lo1 : B0 ||| B1 < 18446744073709551616 := Nat.or_lt_two_pow (n := 64) lB0 lB1
                    have lo2 : B2 ||| B3 < 18446744073709551616 := Nat.or_lt_two_pow (n := 64) lB2 lB3
                    have ho3 : bits .or .u64 ((B0 ||| B1 : Nat) : Int) ((B2 ||| B3 : Nat) : Int) = (((B0 ||| B1) ||| (B2 ||| B3) : Nat) : Int) := u64_or_nat _ _ lo1 lo2
                    have lo3 : (B0 ||| B1) ||| (B2 ||| B3) < 18446744073709551616 := Nat.or_lt_two_pow (n := 64) lo1 lo2
                    have hand3 : bits .and .u64 (((B0 ||| B1) ||| (B2 ||| B3) : Nat) : Int) 9259542123273814144 = ((((B0 ||| B1) ||| (B2 ||| B3)) &&& 9259542123273814144 : Nat) : Int) := u64_and_nat _ 9259542123273814144 lo3 (by omega)
                    have k3 : ((B0 ||| B1) ||| (B2 ||| B3)) &&& 9259542123273814144 = 0 → ∀ b ∈ u.take 32, b.toNat < 128 := fun h0' => by
                      obtain ⟨e01, e23⟩ := (Lib.or_mask _ _ _).1 h0'
                      obtain ⟨e0, e1⟩ := (Lib.or_mask _ _ _).1 e01
                      obtain ⟨e2, e3⟩ := (Lib.or_mask _ _ _).1 e23
                      exact asc_add u 24 8 (asc_add u 16 8 (asc_add u 8 8 (kB0 e0) (kB1 e1)) (kB2 e2)) (kB3 e3)
                    obtain ⟨P1, hP1⟩ : ∃ P1, B0 ||| B1 = P1 := ⟨_, rfl⟩
                    obtain ⟨P2, hP2⟩ : ∃ P2, B2 ||| B3 = P2 := ⟨_, rfl⟩
                    rw [hP1, hP2] at ho3 hand3 k3
                    rw [hP1] at ho1
                    rw [hP2] at ho2
                    obtain ⟨P3, hP3⟩ : ∃ P3, P1 ||| P2 = P3 := ⟨_, rfl⟩
                    rw [hP3] at ho3 hand3 k3
                    obtain ⟨Z3, hZ3⟩ : ∃ Z3, P3 &&& 9259542123273814144 = Z3 := ⟨_, rfl⟩
                    rw [hZ3] at hand3 k3
                    have K3 := Lib.hid k3
                    have cq0 : ∀ q, Calls Tryd.prog 60 #[.slice Au nu cu] (wr.drewN q) fun e w' => e = .returned (.int .u64 (B0 : Int)) ∧ ∃ m, w' = (wr.drewN q).drewN m := fun q => cB0 _ (below_dN hbu q)
                    have CB0 := Lib.hid cq0
                    clear cq0
                    have cq1 : ∀ q, Calls Tryd.prog 60 #[.slice Ab nb cb] (wr.drewN q) fun e w' => e = .returned (.int .u64 (B1 : Int)) ∧ ∃ m, w' = (wr.drewN q).drewN m := fun q => cB1 _ (below_dN hbu q)
                    have CB1 := Lib.hid cq1
                    clear cq1
                    have cq2 : ∀ q, Calls Tryd.prog 60 #[.slice Ac nc cc] (wr.drewN q) fun e w' => e = .returned (.int .u64 (B2 : Int)) ∧ ∃ m, w' = (wr.drewN q).drewN m := fun q => cB2 _ (below_dN hbu q)
                    have CB2 := Lib.hid cq2
                    clear cq2
                    have cq3 : ∀ q, Calls Tryd.prog 60 #[.slice Ad nd cd] (wr.drewN q) fun e w' => e = .returned (.int .u64 (B3 : Int)) ∧ ∃ m, w' = (wr.drewN q).drewN m := fun q => cB3 _ (below_dN hbu q)
                    have CB3 := Lib.hid cq3
                    clear cq3
                    clear kB0 kB1 kB2 kB3 lo1 lo2 lo3 hP1 hP2 hP3 hZ3 k3 cB0 cB1 cB2 cB3 Sb Sc Sd
                    by_cases hz3 : Z3 = 0
                    · have hz3b : ((Z3 : Int) == 0) = true := by simp [hz3]
                      have a32 := K3.out hz3
                      obtain ⟨Ae, ne, ce, cute, Se, ze⟩ := HSu.out.cut 32 (by omega)
                      have cute : ∀ W : World, (Instr.slice 23 (.slice Au nu cu) (some (.int .i64 32)) none none).run Tryd.prog W = .ok (.slice Ae ne ce) W := cute
                      have ve : Lib.validD (u.drop 32) = ANS := by rw [← Lib.validD_ascii 32 _ a32]; exact HVu.out
                      have VE := Lib.hid ve
                      have SE := Lib.hid Se
                      clear a32 ve Se K3
                      go_wp2_with fail
                      go_big_quiet (first | (go_at_call 60; (with_reducible refine Calls.quiet_of (CB0.out _))) | (go_at_call 60; (with_reducible refine Calls.quiet_of (CB1.out _))) | (go_at_call 60; (with_reducible refine Calls.quiet_of (CB2.out _))) | (go_at_call 60; (with_reducible refine Calls.quiet_of (CB3.out _))))
                      go_wp2
                      go_roundg g3
                      case measure => omega
                      case rel => exact ⟨below_dN hbu nq, Ae, ne, ce, _, rfl, ⟨SE.out⟩, ⟨VE.out⟩, by omega, by omega⟩
                    · have hz3b : ((Z3 : Int) == 0) = false := by simp; omega
                      clear K3
                      go_wp2_with fail
                      go_big_quiet (first | (go_at_call 60; (with_reducible refine Calls.quiet_of (CB0.out _))) | (go_at_call 60; (with_reducible refine Calls.quiet_of (CB1.out _))) | (go_at_call 60; (with_reducible refine Calls.quiet_of (CB2.out _))) | (go_at_call 60; (with_reducible refine Calls.quiet_of (CB3.out _))))
                      go_wp2
                      go_roundg g'
                      case measure => omega
                      case rel => exact ⟨below_dN hbu nq, Au, nu, cu, u, rfl, ⟨HSu.out⟩, ⟨HVu.out⟩, by omega, by omega⟩
                  · have c32z : ¬ ((32 : Int) < (nu : Int)) := by omega
                    have c32b : decide ((32 : Int) < (nu : Int)) = false := decide_eq_false c32z
                    go_wp2_with fail
                    go_big_quiet (fail)
                    go_wp2
                    go_roundg g'
                    case measure => omega
                    case rel => exact ⟨below_dN hbu nq, Au, nu, cu, u, rfl, ⟨HSu.out⟩, ⟨HVu.out⟩, by omega, by omega⟩
              · have hz2b : ((Z2 : Int) == 0) = false := by simp; omega
                clear K2
                go_big_quiet (first | (go_at_call 60; (with_reducible refine Calls.quiet_of (CW2.out _))) | (go_at_call 60; (with_reducible refine Calls.quiet_of (CW3.out _))))
                go_wp2
                go_roundg g'
                case measure => omega
                case rel => exact ⟨below_dN hb1 nq, A2, n2, c2, _, rfl, ⟨HS2.out⟩, ⟨V2.out⟩, by omega, by omega⟩
            · have c16z : ¬ ((16 : Int) < (n2 : Int)) := by omega
              have c16b : decide ((16 : Int) < (n2 : Int)) = false := decide_eq_false c16z
              go_big_quiet (fail)
              go_wp2
              go_roundg g'
              case measure => omega
              case rel => exact ⟨below_dN hb1 nq, A2, n2, c2, _, rfl, ⟨HS2.out⟩, ⟨V2.out⟩, by omega, by omega⟩
          · have hz1b : ((Z1 : Int) == 0) = false := by simp; omega
            go_wp2_with (go_at_call 60; ((with_reducible refine (CW1.out _ hbw).mono ?_); rintro e W1 ⟨rfl, q1, rfl⟩))
            go_roundg g'
            case measure => omega
            case rel => exact ⟨below_dN hbw q1, A1, n1, c1, _, rfl, ⟨HS1.out⟩, ⟨V1.out⟩, by omega, by omega⟩
        · have c8z : ¬ ((8 : Int) < (n1 : Int)) := by omega
          go_wp2
          go_roundg g'
          case measure => omega
          case rel => exact ⟨hbw, A1, n1, c1, _, rfl, ⟨HS1.out⟩, ⟨V1.out⟩, by omega, by omega⟩
      · as_aux_lemma =>
        have hge : 128 ≤ x0.toNat := by omega
        have hascz : ¬ ((x0.toNat : Int) < 128) := by omega
        obtain ⟨x1, hx1⟩ : ∃ x1, t.getD 1 0 = x1 := ⟨_, rfl⟩
        obtain ⟨x2, hx2⟩ : ∃ x2, t.getD 2 0 = x2 := ⟨_, rfl⟩
        obtain ⟨x3, hx3⟩ : ∃ x3, t.getD 3 0 = x3 := ⟨_, rfl⟩
        have l1 := x1.toNat_lt
        have l2 := x2.toNat_lt
        have l3 := x3.toNat_lt
        have hne : t ≠ [] := fun h => by rw [h] at hnt; simp at hnt; omega
        have hlead := Lib.validD_lead t hne (by rw [hx0]; exact hge)
        rw [hx0, hx1, hx2, hx3, ← hnt, HV.out] at hlead
        have hTr := Tabs.below hT hbw
        have hc0 := hTr.1 x0.toNat hx0lt
        have hXlt : Lib.firstT x0.toNat < 256 := by rcases Lib.firstT_cases x0.toNat with h | h | h | h | h | h | h | h | h <;> omega
        obtain ⟨X, hX⟩ : ∃ X, Lib.firstT x0.toNat = X := ⟨_, rfl⟩
        rw [hX] at hc0 hXlt hlead
        have h7 := and7 ⟨X, hXlt⟩
        simp only at h7
        have ha0 : wr.cell? ⟨1, X / 16 * 2, none⟩ = some (.int .u8 (Lib.accLo (X / 16))) := by rw [Nat.mul_comm]; exact (hTr.2 (X / 16) (by omega)).1
        have ha1 : wr.cell? ⟨1, X / 16 * 2 + 1, none⟩ = some (.int .u8 (Lib.accHi (X / 16))) := by rw [Nat.mul_comm]; exact (hTr.2 (X / 16) (by omega)).2
        obtain ⟨LO, hLO⟩ : ∃ LO, Lib.accLo (X / 16) = LO := ⟨_, rfl⟩
        obtain ⟨HI, hHI⟩ : ∃ HI, Lib.accHi (X / 16) = HI := ⟨_, rfl⟩
        rw [hLO] at ha0 hlead
        rw [hHI] at ha1 hlead
        obtain ⟨SZ, hSZ⟩ : ∃ SZ, X % 8 = SZ := ⟨_, rfl⟩
        rw [hSZ] at hlead
        have y1 : 1 < n → wr.cell? (ad.add 1) = some (.int .u8 (x1.toNat : Int)) := fun h => by rw [← hx1]; exact hcells 1 h
        have y2 : 2 < n → wr.cell? (ad.add 2) = some (.int .u8 (x2.toNat : Int)) := fun h => by rw [← hx2]; exact hcells 2 h
        have y3 : 3 < n → wr.cell? (ad.add 3) = some (.int .u8 (x3.toNat : Int)) := fun h => by rw [← hx3]; exact hcells 3 h
        have Y1 := Lib.hid y1
        have Y2 := Lib.hid y2
        have Y3 := Lib.hid y3
        have HLEAD := Lib.hid hlead
        clear hTr hT hX HV hLO hHI hne y1 y2 y3 hcells hx0 hx1 hx2 hx3 hlead
        have bl1 : (ad.add 1).block < wr.heap.size := hbl
        have bl2 : (ad.add 2).block < wr.heap.size := hbl
        have bl3 : (ad.add 3).block < wr.heap.size := hbl
        have p1 : (0 ≤ (1 : Int)) = True := eq_true (by omega)
        have p2 : (0 ≤ (2 : Int)) = True := eq_true (by omega)
        have p3 : (0 ≤ (3 : Int)) = True := eq_true (by omega)
        by_cases s2 : SZ = 2
        · as_aux_lemma =>
          subst s2
          have hSZz : (X : Int) % 8 = 2 := by omega
          have hlead := HLEAD.out
          simp only [Lib.checkN, Nat.reduceEqDiff, if_true, if_false] at hlead
          replace HLEAD := Lib.hid hlead
          clear hlead
          have HNT := Lib.hid hnt
          clear hnt
          go_upto_region 18 with fail
          go_cut [103] from 85 to 103 (fun c wx => c = .bool (decide (n < 2 ∨ x1.toNat < LO ∨ HI < x1.toNat)) ∧ Below w.heap.size w wx)
          case first =>
            by_cases q0 : n < 2
            · have q0z : (n : Int) < 2 := by omega
              go_big_quiet (fail)
              go_wp2
              go_meet
              exact ⟨congrArg Value.bool (decide_eq_true (p := n < 2 ∨ x1.toNat < LO ∨ HI < x1.toNat) (by omega)).symm, below_dN (hbw.alloc hbw.size _) _⟩
            · have q0z : ¬ ((n : Int) < 2) := by omega
              have hz1 : (1 : Int) < (n : Int) := by omega
              have hz1t : ((1 : Int) < (n : Int)) = True := eq_true hz1
              have hp1 : (1 < n) = True := eq_true (by omega)
              have hs1 := Y1.out (by omega)
              have hz1c : wr.cell? ⟨ad.block, ad.off + 1, none⟩ = some (.int .u8 (x1.toNat : Int)) := hs1
              by_cases q1 : x1.toNat < LO
              · have q1z : (x1.toNat : Int) < (LO : Int) := by omega
                go_big_quiet (fail)
                go_wp2
                go_meet
                exact ⟨congrArg Value.bool (decide_eq_true (p := n < 2 ∨ x1.toNat < LO ∨ HI < x1.toNat) (by omega)).symm, below_dN (hbw.alloc hbw.size _) _⟩
              · have q1z : ¬ ((x1.toNat : Int) < (LO : Int)) := by omega
                by_cases q2 : HI < x1.toNat
                · have q2z : (HI : Int) < (x1.toNat : Int) := by omega
                  go_big_quiet (fail)
                  go_wp2
                  go_meet
                  exact ⟨congrArg Value.bool (decide_eq_true (p := n < 2 ∨ x1.toNat < LO ∨ HI < x1.toNat) (by omega)).symm, below_dN (hbw.alloc hbw.size _) _⟩
                · have q2z : ¬ ((HI : Int) < (x1.toNat : Int)) := by omega
                  go_big_quiet (fail)
                  go_wp2
                  go_meet
                  exact ⟨congrArg Value.bool (decide_eq_false (p := n < 2 ∨ x1.toNat < LO ∨ HI < x1.toNat) (by omega)).symm, below_dN (hbw.alloc hbw.size _) _⟩
          case rest =>
            obtain ⟨rfl, hbc⟩ := hcut
            have hlead := HLEAD.out
            by_cases hb : n < 2 ∨ x1.toNat < LO ∨ HI < x1.toNat
            · have hbd : decide (n < 2 ∨ x1.toNat < LO ∨ HI < x1.toNat) = true := decide_eq_true hb
              rw [if_pos hb] at hlead
              have HL := Lib.hid hlead
              clear hlead HLEAD
              go_wp2
              all_goals (go_ret; exact ⟨by rw [HL.out]; rfl, hbc⟩)
            · have hbd : decide (n < 2 ∨ x1.toNat < LO ∨ HI < x1.toNat) = false := decide_eq_false hb
              rw [if_neg hb] at hlead
              have HL := Lib.hid hlead
              have hn2 : 2 ≤ n := by omega
              clear hlead HLEAD
              obtain ⟨A9, n9, c9, cut9, S9, z9⟩ := HS.out.cut 2 hn2
              have cut9 : ∀ W : World, (Instr.slice 23 (.slice (some ad) n c) (some (.int .i64 2)) none none).run Tryd.prog W = .ok (.slice A9 n9 c9) W := cut9
              have HS9 := Lib.hid S9
              clear S9
              go_wp2
              go_roundg g'
              case measure => omega
              case rel => exact ⟨hbc, A9, n9, c9, _, rfl, ⟨HS9.out⟩, ⟨HL.out.symm⟩, by omega, by omega⟩
        by_cases s3 : SZ = 3
        · as_aux_lemma =>
          subst s3
          have hSZz : (X : Int) % 8 = 3 := by omega
          have hlead := HLEAD.out
          simp only [Lib.checkN, Nat.reduceEqDiff, if_true, if_false] at hlead
          replace HLEAD := Lib.hid hlead
          clear hlead
          have HNT := Lib.hid hnt
          clear hnt
          go_upto_region 22 with fail
          go_cut [138] from 108 to 138 (fun c wx => c = .bool (decide (n < 3 ∨ x1.toNat < LO ∨ HI < x1.toNat ∨ x2.toNat < 128 ∨ 191 < x2.toNat)) ∧ Below w.heap.size w wx)
          case first =>
            by_cases q0 : n < 3
            · have q0z : (n : Int) < 3 := by omega
              go_big_quiet (fail)
              go_wp2
              go_meet
              exact ⟨congrArg Value.bool (decide_eq_true (p := n < 3 ∨ x1.toNat < LO ∨ HI < x1.toNat ∨ x2.toNat < 128 ∨ 191 < x2.toNat) (by omega)).symm, below_dN (hbw.alloc hbw.size _) _⟩
            · have q0z : ¬ ((n : Int) < 3) := by omega
              have hz1 : (1 : Int) < (n : Int) := by omega
              have hz1t : ((1 : Int) < (n : Int)) = True := eq_true hz1
              have hp1 : (1 < n) = True := eq_true (by omega)
              have hs1 := Y1.out (by omega)
              have hz1c : wr.cell? ⟨ad.block, ad.off + 1, none⟩ = some (.int .u8 (x1.toNat : Int)) := hs1
              have hz2 : (2 : Int) < (n : Int) := by omega
              have hz2t : ((2 : Int) < (n : Int)) = True := eq_true hz2
              have hp2 : (2 < n) = True := eq_true (by omega)
              have hs2 := Y2.out (by omega)
              have hz2c : wr.cell? ⟨ad.block, ad.off + 2, none⟩ = some (.int .u8 (x2.toNat : Int)) := hs2
              by_cases q1 : x1.toNat < LO
              · have q1z : (x1.toNat : Int) < (LO : Int) := by omega
                go_big_quiet (fail)
                go_wp2
                go_meet
                exact ⟨congrArg Value.bool (decide_eq_true (p := n < 3 ∨ x1.toNat < LO ∨ HI < x1.toNat ∨ x2.toNat < 128 ∨ 191 < x2.toNat) (by omega)).symm, below_dN (hbw.alloc hbw.size _) _⟩
              · have q1z : ¬ ((x1.toNat : Int) < (LO : Int)) := by omega
                by_cases q2 : HI < x1.toNat
                · have q2z : (HI : Int) < (x1.toNat : Int) := by omega
                  go_big_quiet (fail)
                  go_wp2
                  go_meet
                  exact ⟨congrArg Value.bool (decide_eq_true (p := n < 3 ∨ x1.toNat < LO ∨ HI < x1.toNat ∨ x2.toNat < 128 ∨ 191 < x2.toNat) (by omega)).symm, below_dN (hbw.alloc hbw.size _) _⟩
                · have q2z : ¬ ((HI : Int) < (x1.toNat : Int)) := by omega
                  by_cases q3 : x2.toNat < 128
                  · have q3z : (x2.toNat : Int) < 128 := by omega
                    go_big_quiet (fail)
                    go_wp2
                    go_meet
                    exact ⟨congrArg Value.bool (decide_eq_true (p := n < 3 ∨ x1.toNat < LO ∨ HI < x1.toNat ∨ x2.toNat < 128 ∨ 191 < x2.toNat) (by omega)).symm, below_dN (hbw.alloc hbw.size _) _⟩
                  · have q3z : ¬ ((x2.toNat : Int) < 128) := by omega
                    by_cases q4 : 191 < x2.toNat
                    · have q4z : (191 : Int) < (x2.toNat : Int) := by omega
                      go_big_quiet (fail)
                      go_wp2
                      go_meet
                      exact ⟨congrArg Value.bool (decide_eq_true (p := n < 3 ∨ x1.toNat < LO ∨ HI < x1.toNat ∨ x2.toNat < 128 ∨ 191 < x2.toNat) (by omega)).symm, below_dN (hbw.alloc hbw.size _) _⟩
                    · have q4z : ¬ ((191 : Int) < (x2.toNat : Int)) := by omega
                      go_big_quiet (fail)
                      go_wp2
                      go_meet
                      exact ⟨congrArg Value.bool (decide_eq_false (p := n < 3 ∨ x1.toNat < LO ∨ HI < x1.toNat ∨ x2.toNat < 128 ∨ 191 < x2.toNat) (by omega)).symm, below_dN (hbw.alloc hbw.size _) _⟩
          case rest =>
            obtain ⟨rfl, hbc⟩ := hcut
            have hlead := HLEAD.out
            by_cases hb : n < 3 ∨ x1.toNat < LO ∨ HI < x1.toNat ∨ x2.toNat < 128 ∨ 191 < x2.toNat
            · have hbd : decide (n < 3 ∨ x1.toNat < LO ∨ HI < x1.toNat ∨ x2.toNat < 128 ∨ 191 < x2.toNat) = true := decide_eq_true hb
              rw [if_pos hb] at hlead
              have HL := Lib.hid hlead
              clear hlead HLEAD
              go_wp2
              all_goals (go_ret; exact ⟨by rw [HL.out]; rfl, hbc⟩)
            · have hbd : decide (n < 3 ∨ x1.toNat < LO ∨ HI < x1.toNat ∨ x2.toNat < 128 ∨ 191 < x2.toNat) = false := decide_eq_false hb
              rw [if_neg hb] at hlead
              have HL := Lib.hid hlead
              have hn3 : 3 ≤ n := by omega
              clear hlead HLEAD
              obtain ⟨A9, n9, c9, cut9, S9, z9⟩ := HS.out.cut 3 hn3
              have cut9 : ∀ W : World, (Instr.slice 23 (.slice (some ad) n c) (some (.int .i64 3)) none none).run Tryd.prog W = .ok (.slice A9 n9 c9) W := cut9
              have HS9 := Lib.hid S9
              clear S9
              go_wp2
              go_roundg g'
              case measure => omega
              case rel => exact ⟨hbc, A9, n9, c9, _, rfl, ⟨HS9.out⟩, ⟨HL.out.symm⟩, by omega, by omega⟩
        by_cases s4 : SZ = 4
        · as_aux_lemma =>
          subst s4
          have hSZz : (X : Int) % 8 = 4 := by omega
          have hlead := HLEAD.out
          simp only [Lib.checkN, Nat.reduceEqDiff, if_true, if_false] at hlead
          replace HLEAD := Lib.hid hlead
          clear hlead
          have HNT := Lib.hid hnt
          clear hnt
          go_upto_region 26 with fail
          go_cut [185] from 143 to 185 (fun c wx => c = .bool (decide (n < 4 ∨ x1.toNat < LO ∨ HI < x1.toNat ∨ x2.toNat < 128 ∨ 191 < x2.toNat ∨ x3.toNat < 128 ∨ 191 < x3.toNat)) ∧ Below w.heap.size w wx)
          case first =>
            by_cases q0 : n < 4
            · have q0z : (n : Int) < 4 := by omega
              go_big_quiet (fail)
              go_wp2
              go_meet
              exact ⟨congrArg Value.bool (decide_eq_true (p := n < 4 ∨ x1.toNat < LO ∨ HI < x1.toNat ∨ x2.toNat < 128 ∨ 191 < x2.toNat ∨ x3.toNat < 128 ∨ 191 < x3.toNat) (by omega)).symm, below_dN (hbw.alloc hbw.size _) _⟩
            · have q0z : ¬ ((n : Int) < 4) := by omega
              have hz1 : (1 : Int) < (n : Int) := by omega
              have hz1t : ((1 : Int) < (n : Int)) = True := eq_true hz1
              have hp1 : (1 < n) = True := eq_true (by omega)
              have hs1 := Y1.out (by omega)
              have hz1c : wr.cell? ⟨ad.block, ad.off + 1, none⟩ = some (.int .u8 (x1.toNat : Int)) := hs1
              have hz2 : (2 : Int) < (n : Int) := by omega
              have hz2t : ((2 : Int) < (n : Int)) = True := eq_true hz2
              have hp2 : (2 < n) = True := eq_true (by omega)
              have hs2 := Y2.out (by omega)
              have hz2c : wr.cell? ⟨ad.block, ad.off + 2, none⟩ = some (.int .u8 (x2.toNat : Int)) := hs2
              have hz3 : (3 : Int) < (n : Int) := by omega
              have hz3t : ((3 : Int) < (n : Int)) = True := eq_true hz3
              have hp3 : (3 < n) = True := eq_true (by omega)
              have hs3 := Y3.out (by omega)
              have hz3c : wr.cell? ⟨ad.block, ad.off + 3, none⟩ = some (.int .u8 (x3.toNat : Int)) := hs3
              by_cases q1 : x1.toNat < LO
              · have q1z : (x1.toNat : Int) < (LO : Int) := by omega
                go_big_quiet (fail)
                go_wp2
                go_meet
                exact ⟨congrArg Value.bool (decide_eq_true (p := n < 4 ∨ x1.toNat < LO ∨ HI < x1.toNat ∨ x2.toNat < 128 ∨ 191 < x2.toNat ∨ x3.toNat < 128 ∨ 191 < x3.toNat) (by omega)).symm, below_dN (hbw.alloc hbw.size _) _⟩
              · have q1z : ¬ ((x1.toNat : Int) < (LO : Int)) := by omega
                by_cases q2 : HI < x1.toNat
                · have q2z : (HI : Int) < (x1.toNat : Int) := by omega
                  go_big_quiet (fail)
                  go_wp2
                  go_meet
                  exact ⟨congrArg Value.bool (decide_eq_true (p := n < 4 ∨ x1.toNat < LO ∨ HI < x1.toNat ∨ x2.toNat < 128 ∨ 191 < x2.toNat ∨ x3.toNat < 128 ∨ 191 < x3.toNat) (by omega)).symm, below_dN (hbw.alloc hbw.size _) _⟩
                · have q2z : ¬ ((HI : Int) < (x1.toNat : Int)) := by omega
                  by_cases q3 : x2.toNat < 128
                  · have q3z : (x2.toNat : Int) < 128 := by omega
                    go_big_quiet (fail)
                    go_wp2
                    go_meet
                    exact ⟨congrArg Value.bool (decide_eq_true (p := n < 4 ∨ x1.toNat < LO ∨ HI < x1.toNat ∨ x2.toNat < 128 ∨ 191 < x2.toNat ∨ x3.toNat < 128 ∨ 191 < x3.toNat) (by omega)).symm, below_dN (hbw.alloc hbw.size _) _⟩
                  · have q3z : ¬ ((x2.toNat : Int) < 128) := by omega
                    by_cases q4 : 191 < x2.toNat
                    · have q4z : (191 : Int) < (x2.toNat : Int) := by omega
                      go_big_quiet (fail)
                      go_wp2
                      go_meet
                      exact ⟨congrArg Value.bool (decide_eq_true (p := n < 4 ∨ x1.toNat < LO ∨ HI < x1.toNat ∨ x2.toNat < 128 ∨ 191 < x2.toNat ∨ x3.toNat < 128 ∨ 191 < x3.toNat) (by omega)).symm, below_dN (hbw.alloc hbw.size _) _⟩
                    · have q4z : ¬ ((191 : Int) < (x2.toNat : Int)) := by omega
                      by_cases q5 : x3.toNat < 128
                      · have q5z : (x3.toNat : Int) < 128 := by omega
                        go_big_quiet (fail)
                        go_wp2
                        go_meet
                        exact ⟨congrArg Value.bool (decide_eq_true (p := n < 4 ∨ x1.toNat < LO ∨ HI < x1.toNat ∨ x2.toNat < 128 ∨ 191 < x2.toNat ∨ x3.toNat < 128 ∨ 191 < x3.toNat) (by omega)).symm, below_dN (hbw.alloc hbw.size _) _⟩
                      · have q5z : ¬ ((x3.toNat : Int) < 128) := by omega
                        by_cases q6 : 191 < x3.toNat
                        · have q6z : (191 : Int) < (x3.toNat : Int) := by omega
                          go_big_quiet (fail)
                          go_wp2
                          go_meet
                          exact ⟨congrArg Value.bool (decide_eq_true (p := n < 4 ∨ x1.toNat < LO ∨ HI < x1.toNat ∨ x2.toNat < 128 ∨ 191 < x2.toNat ∨ x3.toNat < 128 ∨ 191 < x3.toNat) (by omega)).symm, below_dN (hbw.alloc hbw.size _) _⟩
                        · have q6z : ¬ ((191 : Int) < (x3.toNat : Int)) := by omega
                          go_big_quiet (fail)
                          go_wp2
                          go_meet
                          exact ⟨congrArg Value.bool (decide_eq_false (p := n < 4 ∨ x1.toNat < LO ∨ HI < x1.toNat ∨ x2.toNat < 128 ∨ 191 < x2.toNat ∨ x3.toNat < 128 ∨ 191 < x3.toNat) (by omega)).symm, below_dN (hbw.alloc hbw.size _) _⟩
          case rest =>
            obtain ⟨rfl, hbc⟩ := hcut
            have hlead := HLEAD.out
            by_cases hb : n < 4 ∨ x1.toNat < LO ∨ HI < x1.toNat ∨ x2.toNat < 128 ∨ 191 < x2.toNat ∨ x3.toNat < 128 ∨ 191 < x3.toNat
            · have hbd : decide (n < 4 ∨ x1.toNat < LO ∨ HI < x1.toNat ∨ x2.toNat < 128 ∨ 191 < x2.toNat ∨ x3.toNat < 128 ∨ 191 < x3.toNat) = true := decide_eq_true hb
              rw [if_pos hb] at hlead
              have HL := Lib.hid hlead
              clear hlead HLEAD
              go_wp2
              all_goals (go_ret; exact ⟨by rw [HL.out]; rfl, hbc⟩)
            · have hbd : decide (n < 4 ∨ x1.toNat < LO ∨ HI < x1.toNat ∨ x2.toNat < 128 ∨ 191 < x2.toNat ∨ x3.toNat < 128 ∨ 191 < x3.toNat) = false := decide_eq_false hb
              rw [if_neg hb] at hlead
              have HL := Lib.hid hlead
              have hn4 : 4 ≤ n := by omega
              clear hlead HLEAD
              obtain ⟨A9, n9, c9, cut9, S9, z9⟩ := HS.out.cut 4 hn4
              have cut9 : ∀ W : World, (Instr.slice 23 (.slice (some ad) n c) (some (.int .i64 4)) none none).run Tryd.prog W = .ok (.slice A9 n9 c9) W := cut9
              have HS9 := Lib.hid S9
              clear S9
              go_wp2
              go_roundg g'
              case measure => omega
              case rel => exact ⟨hbc, A9, n9, c9, _, rfl, ⟨HS9.out⟩, ⟨HL.out.symm⟩, by omega, by omega⟩
        · have e2 : ¬ ((X : Int) % 8 = 2) := by omega
          have e3 : ¬ ((X : Int) % 8 = 3) := by omega
          have e4 : ¬ ((X : Int) % 8 = 4) := by omega
          have e2b : (((X : Int) % 8) == 2) = false := by simp; omega
          have e3b : (((X : Int) % 8) == 3) = false := by simp; omega
          have e4b : (((X : Int) % 8) == 4) = false := by simp; omega
          have hlead := HLEAD.out
          simp only [Lib.checkN, s2, s3, s4, if_false] at hlead
          have HL := Lib.hid hlead
          clear hlead HLEAD hSZ hnt
          go_wp2
          all_goals (go_ret; exact ⟨by rw [HL.out]; rfl, hbw.alloc hbw.size _⟩)
    · have h0z : ¬ ((0 : Int) < (n : Int)) := by omega
      have ht0 : t = [] := List.eq_nil_of_length_eq_zero (by have := HS.out.len.1; omega)
      have hv := HV.out
      rw [ht0, Lib.validD_nil] at hv
      subst hv
      clear ht0
      go_wp2
      go_ret
      exact ⟨rfl, hbw⟩
theorem utf8_Valid.calls (A0 : Option Addr) (c0 : Nat) (l0 : List Int) (r : Bool) (w : World) (HTb_ : Aside0 (Tabs w)) (hr0 : Kd.C (Kd.int .u8) w A0 l0.length l0) (hc0 : l0.length ≤ c0) (h : utf8_Valid.f l0 = some r) :
    Calls Tryd.prog 46 #[.slice A0 l0.length c0] w fun e w' => e = .returned (.bool r) ∧ Below w.heap.size w w' := by
  unfold utf8_Valid.f at h
  split at h
  · rename_i hb
    obtain rfl := Option.some.inj h
    have e := ints_asB hb
    have hl : l0.length = (asB l0).length := by simp [asB]
    exact valid_any A0 l0.length c0 (asB l0) w HTb_.out ⟨hl, hc0, by have := (Kd.reads_of_C (d := (0 : Int)) hr0).2.1; omega, by rw [e]; exact hr0⟩
  · cases h
end Go.Proofs.YtjlhehaagaaihaaDoor.P
