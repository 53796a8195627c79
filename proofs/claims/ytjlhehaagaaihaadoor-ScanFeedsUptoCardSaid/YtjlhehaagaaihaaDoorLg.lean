/- The law ScanGoes: its call comes to true. No condition. -/
import Derived.Test.YtjlhehaagaaihaaDoorGm
namespace Go.Proofs.YtjlhehaagaaihaaDoor.P
open Go.RowKit Go.Lib Go.Proofs.YtjlhehaagaaihaaDoorW.PrintWords Go.Proofs.YtjlhehaagaaihaaDoorW.PrintLast Go.Proofs.YtjlhehaagaaihaaDoorW.PrintMore Go.Proofs.YtjlhehaagaaihaaDoor.Pure
attribute [local go_sem] max2_int min2_int max_two min_two max_three min_three max_four min_four run_fld0 run_fld1 run_fld2
set_option linter.unusedVariables false
set_option linter.unusedSimpArgs false

set_option maxHeartbeats 1000000 in
set_option maxRecDepth 100000 in
theorem goes_no (s b : Int) (l : List Int) (L : Nat) (A : Option Addr) (c : Nat) (v : Value) (w : World) (hT : Tabs w) (hL : l.length = L) (hC : Kd.C (Kd.int .u8) w A L l) (hc : L ≤ c) (hl : Bytes l) (h : ¬ (may0 s b ∧ may1 s b l)) :
    Calls Tryd.prog 15 #[.agg #[.int .i64 s, .int .i64 b, .slice A L c], v] w fun e w' => e = .returned (.bool true) ∧ Below w.heap.size w w' := by
  have hu59 := Tryd.underlying59
  have hW0 : Below w.heap.size w (w.alloc (.cells #[.int .i64 s, .int .i64 b, .slice A L c] 59)) := (Below.refl _ _).alloc (Nat.le_refl _) _
  have hN0 : (w.alloc (.cells #[.int .i64 s, .int .i64 b, .slice A L c] 59)).heap[w.heap.size]? = some (.cells #[.int .i64 s, .int .i64 b, .slice A L c] 59 (0, 0)) := blk_new w _
  have hfr : ∀ W : World, Below w.heap.size w W → Calls Tryd.prog 42 #[.agg #[.int .i64 s, .int .i64 b, .slice A L c]] W fun e w' => e = .returned (.tuple #[.pointer none, .int .i64 2]) ∧ Below W.heap.size W w' := fun W hB => by
    by_cases h0 : may0 s b
    · exact from_no1 s b l L A c W (hT.below hB) hL (Kd.C_below hC hB) hc hl h0 (fun h1 => h ⟨h0, h1⟩)
    · exact from_no0 s b L A c W h0
  have hma : ∀ W : World, Below w.heap.size w W → Calls Tryd.prog 43 #[.agg #[.int .i64 s, .int .i64 b, .slice A L c]] W fun e w' => e = .returned (.bool false) ∧ Below W.heap.size W w' := fun W hB => by
    by_cases h0 : may0 s b
    · exact may_no1 s b l L A c W (hT.below hB) hL (Kd.C_below hC hB) hc hl h0 (fun h1 => h ⟨h0, h1⟩)
    · exact may_no0 s b L A c W h0
  have HFR := Lib.hid hfr
  have HMA := Lib.hid hma
  have HN0 := Lib.hid hN0
  have HW0 := Lib.hid hW0
  clear hfr hma hN0 hW0 hC hc hl h hL
  go_enter Tryd.func15, Tryd.ntmps15
  go_wp2_with (first
    | (go_at_call 42; ((with_reducible refine (HFR.out _ HW0.out).mono ?_); rintro e w1 ⟨rfl, hb1⟩; have HB1 := Lib.hid (below_step HW0.out hb1); have hN1 := blk_below HN0.out hb1; have k0 := (blk_cell hN1 0).trans rfl; have k1 := (blk_cell hN1 1).trans rfl; have k2 := (blk_cell hN1 2).trans rfl; clear hb1))
    | (go_at_call 43; ((with_reducible refine (HMA.out _ HB1.out).mono ?_); rintro e w2 ⟨rfl, hb2⟩; have HB2 := Lib.hid (below_step HB1.out hb2); clear hb2))
    | (go_at_call 33; ((with_reducible refine (scan_awake_any _ (hT.below HB2.out)).mono ?_); rintro e w3 ⟨rfl, hb3⟩; have HB3 := Lib.hid (below_step HB2.out hb3); clear hb3)))
  go_ret
  exact ⟨rfl, HB3.out⟩
theorem grown_of_alloc {w W : World} {o : Obj} {g : Nat} (h : (w.alloc o).grownBy W (some g)) : w.grownBy W (some g) := by
  have h0 := World.grownBy_alloc w o (some g)
  exact grown_trans2 h0 h
set_option maxHeartbeats 1000000 in
set_option maxRecDepth 100000 in
/-- The walk of a scan that goes on, by what Next and Feed come to. -/
theorem goes_yes_ (s b : Int) (l : List Int) (L : Nat) (A : Option Addr) (c : Nat) (A1 : Option Addr) (n1 c1 : Nat) (w : World) (hT : Tabs w) (hL : l.length = L) (hC : Kd.C (Kd.int .u8) w A L l) (hc : L ≤ c) (hl : Bytes l) (h0 : may0 s b) (h1 : may1 s b l)
    (S' B' F : Int) (P : List Int) (m : Nat) (hm : P.length = m) (hS0 : 0 ≤ S') (hS1 : S' ≤ 1099511627776) (hm1 : m ≤ 1099511627776)
    (hnx : ∀ W : World, Below w.heap.size w W → Calls Tryd.prog 37 #[.agg #[.int .i64 s, .int .i64 b, .slice A L c], .slice A1 n1 c1] W fun e w' => ∃ A' c', e = .returned (.tuple #[.agg #[.int .i64 S', .int .i64 B', .slice A' m c'], .int .i64 F]) ∧ Below W.heap.size W w' ∧ m ≤ c' ∧ ∀ g W', w.heap.size ≤ g → g < W.heap.size → w'.grownBy W' (some g) → Kd.C (Kd.int .u8) W' A' m P)
    (hfe : ∀ (W : World) (g : Nat), Below w.heap.size w W → w.heap.size ≤ g → ScanAt W g s b l (fun k => w.heap.size ≤ k) → Calls Tryd.prog 36 #[.pointer (some ⟨g, 0, none⟩), .slice A1 n1 c1] W fun e w' => e = .returned (.int .i64 F) ∧ W.grownBy w' (some g) ∧ ∃ ok, ScanAt w' g S' B' P ok) :
    Calls Tryd.prog 15 #[.agg #[.int .i64 s, .int .i64 b, .slice A L c], .slice A1 n1 c1] w fun e w' => e = .returned (.bool true) ∧ Below w.heap.size w w' := by
  have hu59 := Tryd.underlying59
  have hu52 := Tryd.underlying52
  have hW0 : Below w.heap.size w (w.alloc (.cells #[.int .i64 s, .int .i64 b, .slice A L c] 59)) := (Below.refl _ _).alloc (Nat.le_refl _) _
  have hN0 : (w.alloc (.cells #[.int .i64 s, .int .i64 b, .slice A L c] 59)).heap[w.heap.size]? = some (.cells #[.int .i64 s, .int .i64 b, .slice A L c] 59 (0, 0)) := blk_new w _
  have hL3 : L ≤ 3 ∧ (0 < L → openB l = true ∧ (L : Int) ≤ s ∧ b = -1) := by
    rcases h1 with h | ⟨ho, hls, hb⟩
    · exact ⟨by omega, fun q => by omega⟩
    · have := (open_len ho).2.1
      exact ⟨by omega, fun _ => ⟨ho, by omega, hb⟩⟩
  have hfr : ∀ W : World, Below w.heap.size w W → Calls Tryd.prog 42 #[.agg #[.int .i64 s, .int .i64 b, .slice A L c]] W fun e w' => ∃ g : Nat, e = .returned (.tuple #[.pointer (some ⟨g, 0, none⟩), .int .i64 0]) ∧ W.heap.size ≤ g ∧ Below W.heap.size W w' ∧ ScanAt w' g s b l (fun k => W.heap.size ≤ k) := fun W hB => by
    obtain ⟨q1, q2, q3, q4⟩ := h0
    refine from_ok s b l L A c W (hT.below hB) hL (Kd.C_below hC hB) hc (by omega) q1 q2 q3 (fun hb0 => ⟨by omega, ?_⟩) (fun hp => ?_)
    · rcases Nat.eq_zero_or_pos L with e | e
      · exact e
      · have := (hL3.2 e).2.2; omega
    · obtain ⟨r1, r2, r3⟩ := hL3.2 hp
      exact ⟨by rw [open_f hl, r1], r2, r3⟩
  have hma : ∀ W : World, Below w.heap.size w W → Calls Tryd.prog 43 #[.agg #[.int .i64 s, .int .i64 b, .slice A L c]] W fun e w' => e = .returned (.bool true) ∧ Below W.heap.size W w' := fun W hB => may_yes s b l L A c W hL (Kd.C_below hC hB) hc hl h0 h1
  have hs1 : ∀ (W : World) (g : Nat) (ok : Nat → Prop), Below w.heap.size w W → ScanAt W g s b l ok → Calls Tryd.prog 35 #[.pointer (some ⟨g, 0, none⟩), .agg #[.int .i64 s, .int .i64 b, .slice A L c]] W fun e w' => e = .returned (.bool true) ∧ Below W.heap.size W w' := fun W g ok hB hS => same_true g s b l L hL ok A c W hS (Kd.C_below hC hB) hc h0.1 h0.2.1 (by omega)
  have hs2 : ∀ (W : World) (g : Nat) (ok : Nat → Prop) (A' : Option Addr) (c' : Nat), ScanAt W g S' B' P ok → Kd.C (Kd.int .u8) W A' m P → m ≤ c' → Calls Tryd.prog 35 #[.pointer (some ⟨g, 0, none⟩), .agg #[.int .i64 S', .int .i64 B', .slice A' m c']] W fun e w' => e = .returned (.bool true) ∧ Below W.heap.size W w' := fun W g ok A' c' hS hC' hc' => same_true g S' B' P m hm ok A' c' W hS hC' hc' hS0 hS1 hm1
  have HFR := Lib.hid hfr
  have HMA := Lib.hid hma
  have HS1 := Lib.hid hs1
  have HS2 := Lib.hid hs2
  have HNX := Lib.hid hnx
  have HFE := Lib.hid hfe
  have HN0 := Lib.hid hN0
  have HW0 := Lib.hid hW0
  have hff : (F == F) = true := by simp
  clear hfr hma hs1 hs2 hnx hfe hN0 hW0 hC hc hl h0 h1 hL hL3 hm hS0 hS1 hm1
  have TF0 := True.intro
  go_enter Tryd.func15, Tryd.ntmps15
  go_wp2_with (first
    | (go_at_call 42; ((with_reducible refine (HFR.out _ HW0.out).mono ?_); rintro e w1 ⟨g, rfl, hg, hb1, hsc⟩; have HG := Lib.hid (Nat.le_trans HW0.out.size hg); have HB1 := Lib.hid (below_step HW0.out hb1); have HN1 := Lib.hid (blk_below HN0.out hb1); have HC1 := Lib.hid hsc; have hN1 := blk_below HN0.out hb1; have k0 := (blk_cell hN1 0).trans rfl; have k1 := (blk_cell hN1 1).trans rfl; have k2 := (blk_cell hN1 2).trans rfl; clear hb1 hg hsc hN1))
    | (go_at_call 43; ((with_reducible refine (HMA.out _ HB1.out).mono ?_); rintro e w2 ⟨rfl, hb2⟩; have HB2 := Lib.hid (below_step HB1.out hb2); have HN2 := Lib.hid (blk_below HN1.out hb2); have HC2 := Lib.hid (HC1.out.below hb2); clear k0 k1 k2; have k0 := (blk_cell HN2.out 0).trans rfl; have k1 := (blk_cell HN2.out 1).trans rfl; have k2 := (blk_cell HN2.out 2).trans rfl; clear hb2))
    | (go_at_call 35; (have _t := TF0); ((with_reducible refine (HS1.out _ g _ HB2.out HC2.out).mono ?_); rintro e w3 ⟨rfl, hb3⟩; have HB3 := Lib.hid (below_step HB2.out hb3); have HN3 := Lib.hid (blk_below HN2.out hb3); have HC3 := Lib.hid (HC2.out.below hb3); clear k0 k1 k2; have k0 := (blk_cell HN3.out 0).trans rfl; have k1 := (blk_cell HN3.out 1).trans rfl; have k2 := (blk_cell HN3.out 2).trans rfl; clear hb3 TF0 _t))
    | (go_at_call 37; ((with_reducible refine (HNX.out _ HB3.out).mono ?_); rintro e w4 ⟨A4, c4, rfl, hb4, hc4, hr4⟩; have HB4 := Lib.hid ((below_step HB3.out hb4).alloc (below_step HB3.out hb4).size (.cells #[.int .i64 S', .int .i64 B', .slice A4 m c4] 52)); have HC4 := Lib.hid ((HC3.out.below hb4).below ((Below.refl _ _).alloc (Nat.le_refl _) (.cells #[.int .i64 S', .int .i64 B', .slice A4 m c4] 52))); have HY4 := Lib.hid (blk_new w4 (.cells #[.int .i64 S', .int .i64 B', .slice A4 m c4] 52)); have HR4 := Lib.hid hr4; have HC4c := Lib.hid hc4; have HG4 := Lib.hid (show g < w3.heap.size from HC3.out.lt); have HG5 := Lib.hid (show g ≠ w4.heap.size from Nat.ne_of_lt (Nat.lt_of_lt_of_le HC3.out.lt hb4.size)); clear hb4 hc4 hr4 k0 k1 k2))
    | (go_at_call 36; ((with_reducible refine (HFE.out _ g HB4.out HG.out (HC4.out.mono (fun k hk => Nat.le_trans HW0.out.size hk))).mono ?_); rintro e w5 ⟨rfl, hg5, ok5, hsc5⟩; have HB5 := Lib.hid (pw_below_grown HB4.out (some g) HB4.out.size hg5 (fun k hk => by injection hk with hk; rw [← hk]; exact HG.out)); have HC5 := Lib.hid hsc5; have HP5 := Lib.hid (HR4.out g w5 HG.out HG4.out (grown_of_alloc hg5)); have hY5 := blk_grown HY4.out hg5 (fun e => HG5.out (by injection e with e; exact e.symm)); have y0 := (blk_cell hY5 0).trans rfl; have y1 := (blk_cell hY5 1).trans rfl; have y2 := (blk_cell hY5 2).trans rfl; clear hg5 hsc5))
    | (go_at_call 35; ((with_reducible refine (HS2.out _ g _ A4 c4 HC5.out HP5.out HC4c.out).mono ?_); rintro e w6 ⟨rfl, hb6⟩; have HB6 := Lib.hid (below_step HB5.out hb6); clear hb6))
    | (go_at_call 33; ((with_reducible refine (scan_awake_any _ (hT.below HB6.out)).mono ?_); rintro e w7 ⟨rfl, hb7⟩; have HB7 := Lib.hid (below_step HB6.out hb7); clear hb7)))
  go_ret
  exact ⟨rfl, HB7.out⟩
theorem fresh_grown {w w1 W : World} {A : Option Addr} {m c g : Nat} {P : List Int} (hm : P.length = m) (h : Fresh w w1 (.slice A m c) P) (hg : g < w.heap.size) (k : w1.grownBy W (some g)) : Kd.C (Kd.int .u8) W A m P := by
  subst hm
  have hR := Kd.R_mono (ok' := fun k => w.heap.size ≤ k) (Kd.R_bound h.1) (fun k hk => hk.2.1)
  exact (Kd.R_reads' (Kd.R_grown hR k (fun k hk e => by injection e with e; omega))).2.2
theorem look_both (f from_ : Int) (o : Bool) (hf : -1 ≤ f) : (lookBad 0 (-1) f o = -1 ∧ lookBad from_ (-1) f o = -1) ∨ (0 ≤ lookBad 0 (-1) f o ∧ lookBad from_ (-1) f o = lookBad 0 (-1) f o + from_ ∧ lookBad 0 (-1) f o = f) := by
  unfold lookBad
  by_cases h : f < 0
  · rw [if_pos h, if_pos h]; exact .inl ⟨rfl, rfl⟩
  · rw [if_neg h, if_neg h]
    cases o with
    | true => exact .inl ⟨rfl, rfl⟩
    | false => exact .inr ⟨by simp; omega, by simp; omega, by simp⟩
theorem pend_len (l : List Int) (f : Int) (o : Bool) : (lookPend l f o).length ≤ l.length := by
  unfold lookPend
  split
  · simp
  · split
    · rw [List.length_drop]; omega
    · simp
theorem goes_yes (s b : Int) (l x : List Int) (L : Nat) (A : Option Addr) (c : Nat) (A1 : Option Addr) (n1 c1 : Nat) (w : World) (hT : Tabs w) (hL : l.length = L) (hC : Kd.C (Kd.int .u8) w A L l) (hc : L ≤ c) (hl : Bytes l) (hx : x.length = n1) (hC1 : Kd.C (Kd.int .u8) w A1 n1 x) (hc1 : n1 ≤ c1) (hbx : Bytes x) (hn1 : n1 ≤ 9223372036854775807) (h0 : may0 s b) (h1 : may1 s b l) :
    Calls Tryd.prog 15 #[.agg #[.int .i64 s, .int .i64 b, .slice A L c], .slice A1 n1 c1] w fun e w' => e = .returned (.bool true) ∧ Below w.heap.size w w' := by
  obtain ⟨q1, q2, q3, q4⟩ := h0
  have hL3 : L ≤ 3 ∧ (0 < L → openB l = true ∧ (L : Int) ≤ s ∧ b = -1) := by
    rcases h1 with h | ⟨ho, hls, hb⟩
    · exact ⟨by omega, fun q => by omega⟩
    · have := (open_len ho).2.1
      exact ⟨by omega, fun _ => ⟨ho, by omega, hb⟩⟩
  have hLs : (L : Int) ≤ s := by
    rcases Nat.eq_zero_or_pos L with e | e
    · omega
    · exact (hL3.2 e).2.1
  by_cases hr : 1099511627776 - s < (n1 : Int)
  · refine goes_yes_ s b l L A c A1 n1 c1 w hT hL hC hc hl ⟨q1, q2, q3, q4⟩ h1 s b 13 l L hL q1 q2 (by omega) (fun W hB => ?_) (fun W g hB hg hS => ?_)
    · refine (next_range s b L A c A1 n1 c1 W q1 q2 hr).mono fun e w' h => ⟨A, c, h.1, h.2, hc, fun g W' hg hgW k => ?_⟩
      exact Kd.C_below hC (below_grown (below_step hB h.2) hg k)
    · obtain ⟨A9, c9, r1, r2, r3⟩ := hS
      refine (feed_range g s b _ A1 n1 c1 W r1 q1 q2 (by omega) hn1).mono fun e w' h => ?_
      obtain ⟨he, rfl⟩ := h
      exact ⟨he, grown_self _ g, _, ⟨A9, c9, r1, r2, r3⟩⟩
  · by_cases hb : 0 ≤ b
    · have hL0 : L = 0 := by
        rcases Nat.eq_zero_or_pos L with e | e
        · exact e
        · have := (hL3.2 e).2.2; omega
      have hl0 : l = [] := List.eq_nil_of_length_eq_zero (hL.trans hL0)
      refine goes_yes_ s b l L A c A1 n1 c1 w hT hL hC hc hl ⟨q1, q2, q3, q4⟩ h1 (s + n1) b 0 [] 0 rfl (by omega) (by omega) (by omega) (fun W hB => ?_) (fun W g hB hg hS => ?_)
      · exact (next_bad_ s b l x L A c A1 n1 c1 W q1 q2 hr hb hL hx (by omega) (Kd.C_below hC hB) (Kd.C_below hC1 hB)).mono fun e w' h => ⟨none, 0, h.1, h.2, Nat.le_refl _, fun g W' hg hgW k => (Kd.R_reads' (Kd.R_nil (Kd.int .u8) 5 W' 0 (fun _ => True))).2.2⟩
      · have := feed_bad g s b l (fun k => w.heap.size ≤ k) A1 n1 c1 W hS (by omega) q1 q2 (by omega) hb
        rw [hl0] at this
        exact this.mono fun e w' h => ⟨h.1, h.2.1, _, h.2.2⟩
    · have hb1 : b = -1 := by omega
      have hbl := hl.append hbx
      have hll : (l ++ x).length = L + n1 := by rw [List.length_append, hL, hx]
      have hfl := fault_le (l ++ x) hbl
      obtain ⟨B, hB0⟩ : ∃ B, lookBad 0 (-1) (faultN (l ++ x)) (openB ((l ++ x).drop (faultN (l ++ x)).toNat)) = B := ⟨_, rfl⟩
      obtain ⟨P, hP0⟩ : ∃ P, lookPend (l ++ x) (faultN (l ++ x)) (openB ((l ++ x).drop (faultN (l ++ x)).toNat)) = P := ⟨_, rfl⟩
      have hpl := pend_len (l ++ x) (faultN (l ++ x)) (openB ((l ++ x).drop (faultN (l ++ x)).toNat))
      rw [hP0, hll] at hpl
      have hboth := look_both (faultN (l ++ x)) (s - L) (openB ((l ++ x).drop (faultN (l ++ x)).toNat)) hfl.2
      rw [hB0] at hboth
      obtain ⟨k, hk⟩ := (fault_ev (l ++ x) hbl (by omega)).rounds
      have hfe : ∀ (W : World) (g : Nat), Below w.heap.size w W → w.heap.size ≤ g → ScanAt W g s b l (fun k => w.heap.size ≤ k) → Calls Tryd.prog 36 #[.pointer (some ⟨g, 0, none⟩), .slice A1 n1 c1] W fun e w' => e = .returned (.int .i64 0) ∧ W.grownBy w' (some g) ∧ ∃ ok, ScanAt w' g (s + n1) (lookBad (s - L) (-1) (faultN (l ++ x)) (openB ((l ++ x).drop (faultN (l ++ x)).toNat))) P ok := fun W g hB hg hS => by
        have hF := Kd.F_below (Kd.C_F (Kd.heap_int .u8) hC1) hB
        subst hx
        subst hL
        have := feed_good k g s b (faultN (l ++ x)) (openB ((l ++ x).drop (faultN (l ++ x)).toNat)) l x (fun k => w.heap.size ≤ k) _ A1 c1 w W hT hB hg hS hF (fun k hk => by omega) hc1 hL3.1 hLs q1 q2 (by omega) (by omega) hk (fun _ => open_f (hbl.drop _)) hfl.1
        rw [hP0, hb1] at this
        exact this.mono fun e w' h => ⟨h.1, h.2.1, _, h.2.2⟩
      rcases hboth with ⟨e1, e2⟩ | ⟨e1, e2, e3⟩
      · rw [e2] at hfe
        refine goes_yes_ s b l L A c A1 n1 c1 w hT hL hC hc hl ⟨q1, q2, q3, q4⟩ h1 (s + n1) (-1) 0 P P.length rfl (by omega) (by omega) (by omega) (fun W hB => ?_) hfe
        refine (next_good_b s b l x L A c A1 n1 c1 W q1 q2 hr (by omega) hl hbx hLs B P P.length hB0 hP0 rfl e1 hL hx (by omega) (Kd.C_below hC hB) (Kd.C_below hC1 hB)).mono fun e w' h => ?_
        obtain ⟨A', c', h1, h2⟩ := h
        exact ⟨A', c', by rw [h1, e1], h2.2, (Kd.R_reads' h2.1).2.1, fun g W' hg hgW k => fresh_grown rfl h2 hgW k⟩
      · rw [e2] at hfe
        refine goes_yes_ s b l L A c A1 n1 c1 w hT hL hC hc hl ⟨q1, q2, q3, q4⟩ h1 (s + n1) (B + (s - L)) 0 P P.length rfl (by omega) (by omega) (by omega) (fun W hB => ?_) hfe
        refine (next_good_a s b l x L A c A1 n1 c1 W q1 q2 hr (by omega) hl hbx hLs B P P.length hB0 hP0 rfl (by omega) e1 hL hx (by omega) (Kd.C_below hC hB) (Kd.C_below hC1 hB)).mono fun e w' h => ?_
        obtain ⟨A', c', h1, h2⟩ := h
        exact ⟨A', c', h1, h2.2, (Kd.R_reads' h2.1).2.1, fun g W' hg hgW k => fresh_grown rfl h2 hgW k⟩
def gessolaw02_ScanGoes.f (s b : Int) (l0 l1 : List Int) : Option Bool := if allb l0 = true ∧ allb l1 = true then some true else none
theorem gessolaw02_ScanGoes.calls (s b : Int) (A0 : Option Addr) (c0 : Nat) (l0 : List Int) (A1 : Option Addr) (c1 : Nat) (l1 : List Int) (r : Bool) (w : World) (HTb_ : Aside0 (Tabs w)) (hr0 : Kd.C (Kd.int .u8) w A0 l0.length l0) (hc0 : l0.length ≤ c0) (hr1 : Kd.C (Kd.int .u8) w A1 l1.length l1) (hc1 : l1.length ≤ c1) (h : gessolaw02_ScanGoes.f s b l0 l1 = some r) :
    Calls Tryd.prog 15 #[.agg #[.int .i64 s, .int .i64 b, .slice A0 l0.length c0], .slice A1 l1.length c1] w fun e w' => e = .returned (.bool r) ∧ Below w.heap.size w w' := by
  unfold gessolaw02_ScanGoes.f at h
  split at h
  · rename_i hh
    obtain rfl := Option.some.inj h
    by_cases hm : may0 s b ∧ may1 s b l0
    · exact goes_yes s b l0 l1 l0.length A0 c0 A1 l1.length c1 w HTb_.out rfl hr0 hc0 (bytes_allb hh.1) rfl hr1 hc1 (bytes_allb hh.2) (Kd.reads_of_C (d := (0 : Int)) hr1).2.1 hm.1 hm.2
    · exact goes_no s b l0 l0.length A0 c0 _ w HTb_.out rfl hr0 hc0 (bytes_allb hh.1) hm
  · cases h
end Go.Proofs.YtjlhehaagaaihaaDoor.P
