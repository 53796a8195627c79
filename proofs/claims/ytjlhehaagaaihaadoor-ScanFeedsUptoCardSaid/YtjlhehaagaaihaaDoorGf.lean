/- The calls of a scan's methods, told by all the bytes that it has had. No condition. -/
import Derived.Test.YtjlhehaagaaihaaDoorGe
import Derived.Test.YtjlhehaagaaihaaDoorMf
-- Gf
namespace Go.Proofs.YtjlhehaagaaihaaDoor.P
open Go.RowKit Go.Lib Go.Proofs.YtjlhehaagaaihaaDoorW.PrintWords Go.Proofs.YtjlhehaagaaihaaDoorW.PrintLast Go.Proofs.YtjlhehaagaaihaaDoorW.PrintMore Go.Proofs.YtjlhehaagaaihaaDoor.Pure
attribute [local go_sem] max2_int min2_int max_two min_two max_three min_three max_four min_four run_fld0 run_fld1 run_fld2
set_option linter.unusedVariables false
set_option linter.unusedSimpArgs false

/-- A scan that stands where all bytes have brought it. -/
def OfAt (w : World) (p : Nat) (a : List Int) (ok : Nat → Prop) : Prop := ScanAt w p (a.length : Int) (ofBad a) (ofPend a) ok
theorem bytes_allb {l : List Int} (h : allb l = true) : Bytes l := fun x hx => by
  have := List.all_eq_true.1 h x hx
  simpa [Bool.and_eq_true, decide_eq_true_eq] using this
theorem allb_bytes {l : List Int} (h : Bytes l) : allb l = true := by
  refine List.all_eq_true.2 fun x hx => ?_
  have := h x hx
  simpa [Bool.and_eq_true, decide_eq_true_eq] using this
theorem ones_sum (l : List Int) : (l.map (fun _ => 1)).sum = l.length := by
  induction l with
  | nil => rfl
  | cons x l ih => simp [ih]; omega
theorem bytes_nil : Bytes [] := fun x hx => by cases hx
theorem new_of (W0 : World) : Calls Tryd.prog 34 #[] W0 fun e w' => ∃ p : Nat, e = .returned (.pointer (some ⟨p, 0, none⟩)) ∧ W0.heap.size ≤ p ∧ Below W0.heap.size W0 w' ∧ OfAt w' p [] (fun _ => False) :=
  (new_any W0).mono fun e w' ⟨he, hw⟩ => ⟨W0.heap.size, he, Nat.le_refl _, by rw [hw]; exact (Below.refl _ _).alloc (Nat.le_refl _) _, by rw [hw]; exact ScanAt.new W0 0 (-1) _⟩
theorem feed_of (a x : List Int) (p : Nat) (ok okx : Nat → Prop) (A : Option Addr) (c L : Nat) (W0 w : World) (hL : x.length = L) (hT : Tabs W0) (hB : Below W0.heap.size W0 w) (hp : W0.heap.size ≤ p) (hS : OfAt w p a ok)
    (hF : Kd.F (Kd.int .u8) w okx A L x) (hox : ∀ k, okx k → k ≠ p) (hc : L ≤ c) (ha : Bytes a) (hx : Bytes x) (hl : a.length + x.length ≤ 1099511627776) :
    Calls Tryd.prog 36 #[.pointer (some ⟨p, 0, none⟩), .slice A L c] w fun e w' => e = .returned (.int .i64 0) ∧ w.grownBy w' (some p) ∧ Below W0.heap.size W0 w' ∧ OfAt w' p (a ++ x) (fun k => ok k ∨ w.heap.size ≤ k) := by
  subst hL
  unfold OfAt at hS ⊢
  have hlen : ((a ++ x).length : Int) = (a.length : Int) + (x.length : Int) := by rw [List.length_append]; omega
  by_cases h : 0 ≤ ofBad a
  · obtain ⟨q1, q2, q3⟩ := next_bad a x ha hx h
    rw [q2] at hS
    refine (feed_bad p a.length (ofBad a) [] ok A x.length c w hS (by simp) (by omega) (by omega) (by omega) h).mono fun e w' ⟨he, hg, hs⟩ => ⟨he, hg, below_grown hB hp hg, ?_⟩
    rw [hlen, q1, q3]
    exact hs.mono (fun k hk => .inl hk)
  · obtain ⟨q1, q2, q3, q4, q5, q6⟩ := next_good a x ha hx (by omega)
    obtain ⟨k, hf⟩ := (fault_ev (ofPend a ++ x) (q4.append hx) (by rw [List.length_append]; omega)).rounds
    have hle := fault_le (ofPend a ++ x) (q4.append hx)
    have hop := open_f (l := (ofPend a ++ x).drop (faultN (ofPend a ++ x)).toNat) ((q4.append hx).drop _)
    rw [q1] at hS
    refine (feed_good k p a.length (-1) (faultN (ofPend a ++ x)) _ (ofPend a) x ok okx A c W0 w hT hB hp hS hF hox hc q2 (by omega) (by omega) (by omega) (by omega) (by omega) hf (fun _ => hop) hle.1).mono fun e w' ⟨he, hg, hs⟩ => ⟨he, hg, below_grown hB hp hg, ?_⟩
    rw [hlen, ← q5, ← q6]
    exact hs.mono (fun k hk => .inr hk)
theorem OfAt.below {w w1 : World} {p : Nat} {a : List Int} {ok : Nat → Prop} (h : OfAt w p a ok) (hb : Below w.heap.size w w1) : OfAt w1 p a ok := ScanAt.below h hb
theorem OfAt.mono {w : World} {p : Nat} {a : List Int} {ok ok' : Nat → Prop} (h : OfAt w p a ok) (hk : ∀ k, ok k → ok' k) : OfAt w p a ok' := ScanAt.mono h hk
theorem fault_of (p : Nat) (a : List Int) (b : Int) (hb : ofBad a = b) (ok : Nat → Prop) (w : World) (h : OfAt w p a ok) : Calls Tryd.prog 38 #[.pointer (some ⟨p, 0, none⟩)] w fun e w' => e = .returned (.int .i64 b) ∧ w' = w := by
  subst hb
  obtain ⟨A, c, h1, _⟩ := h
  exact fault_any p _ _ _ w h1
theorem end_of_ (p : Nat) (a : List Int) (r : Int) (ha : Bytes a) (hl : a.length ≤ 1099511627776) (hr : faultN a = r) (ok : Nat → Prop) (w : World) (h : OfAt w p a ok) : Calls Tryd.prog 39 #[.pointer (some ⟨p, 0, none⟩)] w fun e w' => e = .returned (.int .i64 r) ∧ ∃ n, w' = w.drewN n := by
  obtain ⟨A, c, h1, _⟩ := h
  have := bad_le a ha
  exact end_is p _ _ A _ c r ((end_of a ha).trans hr) w h1 (by omega) (by omega) (by omega)
theorem state_of (p : Nat) (a : List Int) (s b : Int) (L : Nat) (ha : Bytes a) (hs : (a.length : Int) = s) (hb : ofBad a = b) (hL : (ofPend a).length = L) (ok : Nat → Prop) (w : World) (h : OfAt w p a ok) :
    Calls Tryd.prog 40 #[.pointer (some ⟨p, 0, none⟩)] w fun e w' => ∃ A c, e = .returned (.agg #[.int .i64 s, .int .i64 b, .slice A L c]) ∧ Fresh w w' (.slice A L c) (ofPend a) := by
  subst hs
  subst hb
  have := bad_le a ha
  exact state_sl p _ _ _ L hL ok w h (by omega)

end Go.Proofs.YtjlhehaagaaihaaDoor.P
-- Gg
namespace Go.Proofs.YtjlhehaagaaihaaDoor.P
open Go.RowKit Go.Lib Go.Proofs.YtjlhehaagaaihaaDoorW.PrintWords Go.Proofs.YtjlhehaagaaihaaDoorW.PrintLast Go.Proofs.YtjlhehaagaaihaaDoorW.PrintMore Go.Proofs.YtjlhehaagaaihaaDoor.Pure
attribute [local go_sem] max2_int min2_int max_two min_two max_three min_three max_four min_four run_fld0 run_fld1 run_fld2
set_option linter.unusedVariables false
set_option linter.unusedSimpArgs false

set_option maxHeartbeats 1000000 in
set_option maxRecDepth 100000 in
theorem from_ok (s b : Int) (pend : List Int) (L : Nat) (A : Option Addr) (c : Nat) (w : World) (hT : Tabs w) (hL : pend.length = L) (hC : Kd.C (Kd.int .u8) w A L pend) (hc : L ≤ c) (hl3 : L ≤ 140737488351232)
    (hs0 : 0 ≤ s) (hs1 : s ≤ 1099511627776) (hb1 : -1 ≤ b) (hbs : 0 ≤ b → b < s ∧ L = 0) (hp : 0 < L → scan_Open.f pend = some true ∧ (L : Int) ≤ s ∧ b = -1) :
    Calls Tryd.prog 42 #[.agg #[.int .i64 s, .int .i64 b, .slice A L c]] w fun e w' => ∃ g : Nat, e = .returned (.tuple #[.pointer (some ⟨g, 0, none⟩), .int .i64 0]) ∧ w.heap.size ≤ g ∧ Below w.heap.size w w' ∧ ScanAt w' g s b pend (fun k => w.heap.size ≤ k) := by
  have hu59 := Tryd.underlying59
  have hu78 := Tryd.underlying78
  have HC := Lib.hid hC
  have HL := Lib.hid hL
  have s0 : ¬ s < 0 := by omega
  have s1 : ¬ (1099511627776 : Int) < s := by omega
  have b1 : ¬ b < -1 := by omega
  have hW0 : Below w.heap.size w (w.alloc (.cells #[.int .i64 s, .int .i64 b, .slice A L c] 59)) := (Below.refl _ _).alloc (Nat.le_refl _) _
  have hN0 : (w.alloc (.cells #[.int .i64 s, .int .i64 b, .slice A L c] 59)).heap[w.heap.size]? = some (.cells #[.int .i64 s, .int .i64 b, .slice A L c] 59 (0, 0)) := blk_new w _
  have hcl : ∀ W : World, Below w.heap.size w W → Calls Tryd.prog 57 #[.slice A L c] W fun e w' => ∃ A' c', e = .returned (.slice A' L c') ∧ Fresh W w' (.slice A' L c') pend := fun W hbW => by
    have h_ := HL.out
    subst h_
    refine (clone_any A c pend W (Kd.C_below HC.out hbW) hc hl3).mono fun e w' ⟨v, he, hf⟩ => ?_
    obtain ⟨A', c', ev⟩ := Kd.R_slice hf.1
    subst ev
    exact ⟨A', c', he, hf⟩
  have HCL := Lib.hid hcl
  have hop : ∀ W : World, Below w.heap.size w W → 0 < L → Calls Tryd.prog 31 #[.slice A L c] W fun e w' => e = .returned (.bool true) ∧ Below W.heap.size W w' := fun W hbW h0 => by
    have h_ := HL.out
    subst h_
    exact scan_Open.calls A c pend true W ⟨hT.below hbW⟩ (Kd.C_below HC.out hbW) hc (hp h0).1
  have HOP := Lib.hid hop
  have HP := Lib.hid hp
  have HW0 := Lib.hid hW0
  have HN0 := Lib.hid hN0
  clear hC hL hcl hop hT hp hW0 hN0
  by_cases hb0 : 0 ≤ b
  · obtain ⟨hbs1, hL0⟩ := hbs hb0
    have bs : ¬ s ≤ b := by omega
    have l0 : ¬ (0 : Int) < (L : Int) := by omega
    clear hbs hL0
    go_enter Tryd.func42, Tryd.ntmps42
    go_wp2
    obtain ⟨Wc, hWc⟩ : ∃ Wc, w.alloc (.cells #[.int .i64 s, .int .i64 b, .slice A L c] 59) = Wc := ⟨_, rfl⟩
    have hBc := HW0.out
    have hNc := HN0.out
    rw [hWc] at hBc hNc ⊢
    clear hWc HW0 HN0
    have hk0 : ∀ W : World, Below Wc.heap.size Wc W → W.cell? ⟨w.heap.size, 0, none⟩ = some (.int .i64 s) := fun W hB => pw_cell_below hB ((blk_cell hNc 0).trans rfl)
    have hk1 : ∀ W : World, Below Wc.heap.size Wc W → W.cell? ⟨w.heap.size, 1, none⟩ = some (.int .i64 b) := fun W hB => pw_cell_below hB ((blk_cell hNc 1).trans rfl)
    have hk2 : ∀ W : World, Below Wc.heap.size Wc W → W.cell? ⟨w.heap.size, 2, none⟩ = some (.slice A L c) := fun W hB => pw_cell_below hB ((blk_cell hNc 2).trans rfl)
    have HK0 := Lib.hid hk0
    have HK1 := Lib.hid hk1
    have HK2 := Lib.hid hk2
    have HBc := Lib.hid hBc
    have hrd : Below Wc.heap.size Wc Wc.drew := (Below.refl _ _).drew
    have HRD := Lib.hid hrd
    clear hk0 hk1 hk2 hBc hNc hrd
    go_region_held3 (fun w' => w'.cell? ⟨w.heap.size, 0, none⟩ = some (.int .i64 s) ∧ w'.cell? ⟨w.heap.size, 1, none⟩ = some (.int .i64 b) ∧ w'.cell? ⟨w.heap.size, 2, none⟩ = some (.slice A L c))
      (first | (exact ⟨HK0.out _ HRD.out, HK1.out _ HRD.out, HK2.out _ HRD.out⟩) | (exact ⟨HK0.out _ HB1.out, HK1.out _ HB1.out, HK2.out _ HB1.out⟩) | (exact ⟨HK0.out _ (HB1.out.alloc HB1.out.size _), HK1.out _ (HB1.out.alloc HB1.out.size _), HK2.out _ (HB1.out.alloc HB1.out.size _)⟩) | go_keep)
      ((go_at_call 57; refine (HCL.out _ (below_step HBc.out HRD.out)).mono ?_; rintro e w1 ⟨A1, c1, rfl, hf1⟩; have HB1 := Lib.hid (below_step HRD.out hf1.2); have HR1 := Lib.hid hf1.1; clear hf1))
    go_wp2
    go_ret2
    have hbb := below_step HBc.out HB1.out
    refine ⟨w1.heap.size, rfl, hbb.size, hbb.alloc hbb.size _, A1, c1, ?_, ?_, ?_⟩
    · rw [HL.out]; exact blk_new w1 _
    · have := (Kd.R_reads' HR1.out).2.1
      rw [HL.out]; exact this
    · rw [HL.out]
      refine Kd.F_mono (Kd.F_alloc (Kd.R_F (Kd.R_bound HR1.out)) _) (fun k hk => ⟨Nat.le_trans (below_step HBc.out HRD.out).size hk.2.1, ?_⟩)
      obtain ⟨_, _, hlt, q, hq, cells, hcl⟩ := hk
      have : q = 5 := by simpa [Kd.int, Kd.scalar] using hq
      subst this
      exact ⟨cells, _, blk_alloc hcl _⟩
  · have hbm : b = -1 := by omega
    subst hbm
    by_cases hL0 : 0 < L
    · have l0 : (0 : Int) < (L : Int) := by omega
      obtain ⟨_, hls, _⟩ := HP.out hL0
      have ls : ¬ s < (L : Int) := by omega
      have HL0 := Lib.hid hL0
      clear hbs hL0
      go_enter Tryd.func42, Tryd.ntmps42
      go_wp2_with (go_at_call 31; ((with_reducible refine (HOP.out _ HW0.out HL0.out).mono ?_); rintro e Wc ⟨rfl, hb2⟩; have HBc0 := Lib.hid (below_step HW0.out hb2); have HNc0 := Lib.hid (blk_below HN0.out hb2); clear hb2; have g0 : Wc.cell? ⟨w.heap.size, 0, none⟩ = some (.int .i64 s) := (blk_cell HNc0.out 0).trans rfl; have g1 : Wc.cell? ⟨w.heap.size, 1, none⟩ = some (.int .i64 (-1)) := (blk_cell HNc0.out 1).trans rfl; have g2 : Wc.cell? ⟨w.heap.size, 2, none⟩ = some (.slice A L c) := (blk_cell HNc0.out 2).trans rfl))
      have hBc := HBc0.out
      have hNc := HNc0.out
      clear HW0 HN0 HBc0 HNc0 g0 g1 g2
      have hk0 : ∀ W : World, Below Wc.heap.size Wc W → W.cell? ⟨w.heap.size, 0, none⟩ = some (.int .i64 s) := fun W hB => pw_cell_below hB ((blk_cell hNc 0).trans rfl)
      have hk1 : ∀ W : World, Below Wc.heap.size Wc W → W.cell? ⟨w.heap.size, 1, none⟩ = some (.int .i64 (-1)) := fun W hB => pw_cell_below hB ((blk_cell hNc 1).trans rfl)
      have hk2 : ∀ W : World, Below Wc.heap.size Wc W → W.cell? ⟨w.heap.size, 2, none⟩ = some (.slice A L c) := fun W hB => pw_cell_below hB ((blk_cell hNc 2).trans rfl)
      have HK0 := Lib.hid hk0
      have HK1 := Lib.hid hk1
      have HK2 := Lib.hid hk2
      have HBc := Lib.hid hBc
      have hrd : Below Wc.heap.size Wc Wc.drew := (Below.refl _ _).drew
      have HRD := Lib.hid hrd
      clear hk0 hk1 hk2 hBc hNc hrd
      go_region_held3 (fun w' => w'.cell? ⟨w.heap.size, 0, none⟩ = some (.int .i64 s) ∧ w'.cell? ⟨w.heap.size, 1, none⟩ = some (.int .i64 (-1)) ∧ w'.cell? ⟨w.heap.size, 2, none⟩ = some (.slice A L c))
        (first | (exact ⟨HK0.out _ HRD.out, HK1.out _ HRD.out, HK2.out _ HRD.out⟩) | (exact ⟨HK0.out _ HB1.out, HK1.out _ HB1.out, HK2.out _ HB1.out⟩) | (exact ⟨HK0.out _ (HB1.out.alloc HB1.out.size _), HK1.out _ (HB1.out.alloc HB1.out.size _), HK2.out _ (HB1.out.alloc HB1.out.size _)⟩) | go_keep)
        ((go_at_call 57; refine (HCL.out _ (below_step HBc.out HRD.out)).mono ?_; rintro e w1 ⟨A1, c1, rfl, hf1⟩; have HB1 := Lib.hid (below_step HRD.out hf1.2); have HR1 := Lib.hid hf1.1; clear hf1))
      go_wp2
      go_ret2
      have hbb := below_step HBc.out HB1.out
      refine ⟨w1.heap.size, rfl, hbb.size, hbb.alloc hbb.size _, A1, c1, ?_, ?_, ?_⟩
      · rw [HL.out]; exact blk_new w1 _
      · have := (Kd.R_reads' HR1.out).2.1
        rw [HL.out]; exact this
      · rw [HL.out]
        refine Kd.F_mono (Kd.F_alloc (Kd.R_F (Kd.R_bound HR1.out)) _) (fun k hk => ⟨Nat.le_trans (below_step HBc.out HRD.out).size hk.2.1, ?_⟩)
        obtain ⟨_, _, hlt, q, hq, cells, hcl⟩ := hk
        have : q = 5 := by simpa [Kd.int, Kd.scalar] using hq
        subst this
        exact ⟨cells, _, blk_alloc hcl _⟩
    · have l0 : ¬ (0 : Int) < (L : Int) := by omega
      clear hbs hL0
      go_enter Tryd.func42, Tryd.ntmps42
      go_wp2
      obtain ⟨Wc, hWc⟩ : ∃ Wc, w.alloc (.cells #[.int .i64 s, .int .i64 (-1), .slice A L c] 59) = Wc := ⟨_, rfl⟩
      have hBc := HW0.out
      have hNc := HN0.out
      rw [hWc] at hBc hNc ⊢
      clear hWc HW0 HN0
      have hk0 : ∀ W : World, Below Wc.heap.size Wc W → W.cell? ⟨w.heap.size, 0, none⟩ = some (.int .i64 s) := fun W hB => pw_cell_below hB ((blk_cell hNc 0).trans rfl)
      have hk1 : ∀ W : World, Below Wc.heap.size Wc W → W.cell? ⟨w.heap.size, 1, none⟩ = some (.int .i64 (-1)) := fun W hB => pw_cell_below hB ((blk_cell hNc 1).trans rfl)
      have hk2 : ∀ W : World, Below Wc.heap.size Wc W → W.cell? ⟨w.heap.size, 2, none⟩ = some (.slice A L c) := fun W hB => pw_cell_below hB ((blk_cell hNc 2).trans rfl)
      have HK0 := Lib.hid hk0
      have HK1 := Lib.hid hk1
      have HK2 := Lib.hid hk2
      have HBc := Lib.hid hBc
      have hrd : Below Wc.heap.size Wc Wc.drew := (Below.refl _ _).drew
      have HRD := Lib.hid hrd
      clear hk0 hk1 hk2 hBc hNc hrd
      go_region_held3 (fun w' => w'.cell? ⟨w.heap.size, 0, none⟩ = some (.int .i64 s) ∧ w'.cell? ⟨w.heap.size, 1, none⟩ = some (.int .i64 (-1)) ∧ w'.cell? ⟨w.heap.size, 2, none⟩ = some (.slice A L c))
        (first | (exact ⟨HK0.out _ HRD.out, HK1.out _ HRD.out, HK2.out _ HRD.out⟩) | (exact ⟨HK0.out _ HB1.out, HK1.out _ HB1.out, HK2.out _ HB1.out⟩) | (exact ⟨HK0.out _ (HB1.out.alloc HB1.out.size _), HK1.out _ (HB1.out.alloc HB1.out.size _), HK2.out _ (HB1.out.alloc HB1.out.size _)⟩) | go_keep)
        ((go_at_call 57; refine (HCL.out _ (below_step HBc.out HRD.out)).mono ?_; rintro e w1 ⟨A1, c1, rfl, hf1⟩; have HB1 := Lib.hid (below_step HRD.out hf1.2); have HR1 := Lib.hid hf1.1; clear hf1))
      go_wp2
      go_ret2
      have hbb := below_step HBc.out HB1.out
      refine ⟨w1.heap.size, rfl, hbb.size, hbb.alloc hbb.size _, A1, c1, ?_, ?_, ?_⟩
      · rw [HL.out]; exact blk_new w1 _
      · have := (Kd.R_reads' HR1.out).2.1
        rw [HL.out]; exact this
      · rw [HL.out]
        refine Kd.F_mono (Kd.F_alloc (Kd.R_F (Kd.R_bound HR1.out)) _) (fun k hk => ⟨Nat.le_trans (below_step HBc.out HRD.out).size hk.2.1, ?_⟩)
        obtain ⟨_, _, hlt, q, hq, cells, hcl⟩ := hk
        have : q = 5 := by simpa [Kd.int, Kd.scalar] using hq
        subst this
        exact ⟨cells, _, blk_alloc hcl _⟩
end Go.Proofs.YtjlhehaagaaihaaDoor.P
