/- May a scan go on from a state: the reference's answer, and From that refuses. No condition. -/
import Derived.Test.YtjlhehaagaaihaaDoorGs
import Derived.Test.YtjlhehaagaaihaaDoorGn
namespace Go.Proofs.YtjlhehaagaaihaaDoor.P
open Go.RowKit Go.Lib Go.Proofs.YtjlhehaagaaihaaDoorW.PrintWords Go.Proofs.YtjlhehaagaaihaaDoorW.PrintLast Go.Proofs.YtjlhehaagaaihaaDoorW.PrintMore Go.Proofs.YtjlhehaagaaihaaDoor.Pure
attribute [local go_sem] max2_int min2_int max_two min_two max_three min_three max_four min_four run_fld0 run_fld1 run_fld2
set_option linter.unusedVariables false
set_option linter.unusedSimpArgs false

def may0 (s b : Int) : Prop := 0 ≤ s ∧ s ≤ 1099511627776 ∧ -1 ≤ b ∧ ¬ (s ≤ b ∧ 0 ≤ b)
def may1 (s b : Int) (l : List Int) : Prop := l.length = 0 ∨ (openB l = true ∧ (l.length : Int) ≤ s ∧ b = -1)
set_option maxHeartbeats 1000000 in
set_option maxRecDepth 100000 in
theorem from_no0 (s b : Int) (L : Nat) (A : Option Addr) (c : Nat) (w : World) (h : ¬ may0 s b) :
    Calls Tryd.prog 42 #[.agg #[.int .i64 s, .int .i64 b, .slice A L c]] w fun e w' => e = .returned (.tuple #[.pointer none, .int .i64 2]) ∧ Below w.heap.size w w' := by
  have hu59 := Tryd.underlying59
  have hW0 : Below w.heap.size w (w.alloc (.cells #[.int .i64 s, .int .i64 b, .slice A L c] 59)) := (Below.refl _ _).alloc (Nat.le_refl _) _
  unfold may0 at h
  by_cases c1 : s < 0
  · clear h
    go_enter Tryd.func42, Tryd.ntmps42
    go_wp2
    exact bodyPost_ret (v := .tuple #[.pointer none, .int .i64 2]) (by simp [results, Tryd.results42, go_sem]) rfl ⟨rfl, hW0⟩
  by_cases c2 : 1099511627776 < s
  · clear h
    go_enter Tryd.func42, Tryd.ntmps42
    go_wp2
    exact bodyPost_ret (v := .tuple #[.pointer none, .int .i64 2]) (by simp [results, Tryd.results42, go_sem]) rfl ⟨rfl, hW0⟩
  by_cases c3 : b < -1
  · clear h
    go_enter Tryd.func42, Tryd.ntmps42
    go_wp2
    exact bodyPost_ret (v := .tuple #[.pointer none, .int .i64 2]) (by simp [results, Tryd.results42, go_sem]) rfl ⟨rfl, hW0⟩
  have hb0 : 0 ≤ b := by omega
  have hbs : s ≤ b := by omega
  clear h
  go_enter Tryd.func42, Tryd.ntmps42
  go_wp2
  exact bodyPost_ret (v := .tuple #[.pointer none, .int .i64 2]) (by simp [results, Tryd.results42, go_sem]) rfl ⟨rfl, hW0⟩
set_option maxHeartbeats 1000000 in
set_option maxRecDepth 100000 in
theorem from_no1 (s b : Int) (l : List Int) (L : Nat) (A : Option Addr) (c : Nat) (w : World) (hT : Tabs w) (hL : l.length = L) (hC : Kd.C (Kd.int .u8) w A L l) (hc : L ≤ c) (hl : Bytes l) (h0 : may0 s b) (h : ¬ may1 s b l) :
    Calls Tryd.prog 42 #[.agg #[.int .i64 s, .int .i64 b, .slice A L c]] w fun e w' => e = .returned (.tuple #[.pointer none, .int .i64 2]) ∧ Below w.heap.size w w' := by
  have hu59 := Tryd.underlying59
  have hW0 : Below w.heap.size w (w.alloc (.cells #[.int .i64 s, .int .i64 b, .slice A L c] 59)) := (Below.refl _ _).alloc (Nat.le_refl _) _
  obtain ⟨q1, q2, q3, q4⟩ := h0
  have c1 : ¬ s < 0 := by omega
  have c2 : ¬ 1099511627776 < s := by omega
  have c3 : ¬ b < -1 := by omega
  have hL0 : 0 < L := by
    rcases Nat.eq_zero_or_pos L with e | e
    · exact absurd (Or.inl (hL.trans e)) h
    · exact e
  have l0 : (0 : Int) < (L : Int) := by omega
  have hop : ∀ W : World, Below w.heap.size w W → Calls Tryd.prog 31 #[.slice A L c] W fun e w' => e = .returned (.bool (openB l)) ∧ Below W.heap.size W w' := fun W hbW => by
    subst hL
    exact scan_Open.calls A c l _ W ⟨hT.below hbW⟩ (Kd.C_below hC hbW) hc (open_f hl)
  have hN0 : (w.alloc (.cells #[.int .i64 s, .int .i64 b, .slice A L c] 59)).heap[w.heap.size]? = some (.cells #[.int .i64 s, .int .i64 b, .slice A L c] 59 (0, 0)) := blk_new w _
  have HN0 := Lib.hid hN0
  have HW0 := Lib.hid hW0
  have hmay : ¬ (openB l = true ∧ (L : Int) ≤ s ∧ b = -1) := fun q => h (.inr (by rw [hL]; exact q))
  obtain ⟨o, ho⟩ : ∃ o, openB l = o := ⟨_, rfl⟩
  rw [ho] at hop hmay
  have HOP := Lib.hid hop
  clear hop hN0 hW0 hC hc hl h hL hT ho
  have hguard : (0 ≤ b) = False ∨ (0 ≤ b ∧ ¬ s ≤ b) := by
    by_cases e : 0 ≤ b
    · exact .inr ⟨e, fun e2 => q4 ⟨e2, e⟩⟩
    · exact .inl (eq_false e)
  have key : ∀ (hx : o = false ∨ (o = true ∧ ¬ (L : Int) ≤ s) ∨ (o = true ∧ (L : Int) ≤ s ∧ ¬ b = -1)), True := fun _ => trivial
  rcases hguard with hb | ⟨hb0, hbs⟩
  · have hb0 : ¬ 0 ≤ b := fun e => by rw [hb] at e; exact e
    clear hb
    cases o with
    | false =>
      clear hmay
      go_enter Tryd.func42, Tryd.ntmps42
      go_wp2_with (first | (go_at_call 31; ((with_reducible refine (HOP.out _ HW0.out).mono ?_); rintro e w1 ⟨rfl, hb1⟩; have HB1 := Lib.hid (below_step HW0.out hb1))))
      exact bodyPost_ret (v := .tuple #[.pointer none, .int .i64 2]) (by simp [results, Tryd.results42, go_sem]) rfl ⟨rfl, HB1.out⟩
    | true =>
      by_cases hLs : s < (L : Int)
      · clear hmay
        go_enter Tryd.func42, Tryd.ntmps42
        go_wp2_with (first | (go_at_call 31; ((with_reducible refine (HOP.out _ HW0.out).mono ?_); rintro e w1 ⟨rfl, hb1⟩; have HB1 := Lib.hid (below_step HW0.out hb1); have hN1 := blk_below HN0.out hb1; have k0 := (blk_cell hN1 0).trans rfl; have k1 := (blk_cell hN1 1).trans rfl; have k2 := (blk_cell hN1 2).trans rfl)))
        exact bodyPost_ret (v := .tuple #[.pointer none, .int .i64 2]) (by simp [results, Tryd.results42, go_sem]) rfl ⟨rfl, HB1.out⟩
      · exfalso
        exact hmay ⟨rfl, by omega, by omega⟩
  · have hbne : (b == -1) = false := beq_eq_false_iff_ne.2 (by omega)
    have hbne2 : (b != -1) = true := by rw [bne, hbne]; rfl
    clear hmay
    cases o with
    | false =>
      go_enter Tryd.func42, Tryd.ntmps42
      go_wp2_with (first | (go_at_call 31; ((with_reducible refine (HOP.out _ HW0.out).mono ?_); rintro e w1 ⟨rfl, hb1⟩; have HB1 := Lib.hid (below_step HW0.out hb1))))
      exact bodyPost_ret (v := .tuple #[.pointer none, .int .i64 2]) (by simp [results, Tryd.results42, go_sem]) rfl ⟨rfl, HB1.out⟩
    | true =>
      by_cases hLs : s < (L : Int)
      · go_enter Tryd.func42, Tryd.ntmps42
        go_wp2_with (first | (go_at_call 31; ((with_reducible refine (HOP.out _ HW0.out).mono ?_); rintro e w1 ⟨rfl, hb1⟩; have HB1 := Lib.hid (below_step HW0.out hb1); have hN1 := blk_below HN0.out hb1; have k0 := (blk_cell hN1 0).trans rfl; have k1 := (blk_cell hN1 1).trans rfl; have k2 := (blk_cell hN1 2).trans rfl)))
        exact bodyPost_ret (v := .tuple #[.pointer none, .int .i64 2]) (by simp [results, Tryd.results42, go_sem]) rfl ⟨rfl, HB1.out⟩
      · go_enter Tryd.func42, Tryd.ntmps42
        go_wp2_with (first | (go_at_call 31; ((with_reducible refine (HOP.out _ HW0.out).mono ?_); rintro e w1 ⟨rfl, hb1⟩; have HB1 := Lib.hid (below_step HW0.out hb1); have hN1 := blk_below HN0.out hb1; have k0 := (blk_cell hN1 0).trans rfl; have k1 := (blk_cell hN1 1).trans rfl; have k2 := (blk_cell hN1 2).trans rfl)))
        exact bodyPost_ret (v := .tuple #[.pointer none, .int .i64 2]) (by simp [results, Tryd.results42, go_sem]) rfl ⟨rfl, HB1.out⟩
set_option maxHeartbeats 1000000 in
set_option maxRecDepth 100000 in
theorem may_no0 (s b : Int) (L : Nat) (A : Option Addr) (c : Nat) (w : World) (h : ¬ may0 s b) :
    Calls Tryd.prog 43 #[.agg #[.int .i64 s, .int .i64 b, .slice A L c]] w fun e w' => e = .returned (.bool false) ∧ Below w.heap.size w w' := by
  have hu52 := Tryd.underlying52
  have hW0 : Below w.heap.size w (w.alloc (.cells #[.int .i64 s, .int .i64 b, .slice A L c] 52)) := (Below.refl _ _).alloc (Nat.le_refl _) _
  unfold may0 at h
  by_cases c1 : s < 0
  · clear h
    go_enter Tryd.func43, Tryd.ntmps43
    go_wp2
    go_ret
    exact ⟨rfl, hW0⟩
  by_cases c2 : 1099511627776 < s
  · clear h
    go_enter Tryd.func43, Tryd.ntmps43
    go_wp2
    go_ret
    exact ⟨rfl, hW0⟩
  by_cases c3 : b < -1
  · clear h
    go_enter Tryd.func43, Tryd.ntmps43
    go_wp2
    go_ret
    exact ⟨rfl, hW0⟩
  have hb0 : 0 ≤ b := by omega
  have hbs : s ≤ b := by omega
  clear h
  go_enter Tryd.func43, Tryd.ntmps43
  go_wp2
  go_ret
  exact ⟨rfl, hW0⟩
set_option maxHeartbeats 1000000 in
set_option maxRecDepth 100000 in
theorem may_no1 (s b : Int) (l : List Int) (L : Nat) (A : Option Addr) (c : Nat) (w : World) (hT : Tabs w) (hL : l.length = L) (hC : Kd.C (Kd.int .u8) w A L l) (hc : L ≤ c) (hl : Bytes l) (h0 : may0 s b) (h : ¬ may1 s b l) :
    Calls Tryd.prog 43 #[.agg #[.int .i64 s, .int .i64 b, .slice A L c]] w fun e w' => e = .returned (.bool false) ∧ Below w.heap.size w w' := by
  have hu52 := Tryd.underlying52
  have hW0 : Below w.heap.size w (w.alloc (.cells #[.int .i64 s, .int .i64 b, .slice A L c] 52)) := (Below.refl _ _).alloc (Nat.le_refl _) _
  obtain ⟨q1, q2, q3, q4⟩ := h0
  have c1 : ¬ s < 0 := by omega
  have c2 : ¬ 1099511627776 < s := by omega
  have c3 : ¬ b < -1 := by omega
  have hL0 : 0 < L := by
    rcases Nat.eq_zero_or_pos L with e | e
    · exact absurd (Or.inl (hL.trans e)) h
    · exact e
  have e0 : ((L : Int) == 0) = false := beq_eq_false_iff_ne.2 (by omega)
  have hop : ∀ W : World, Below w.heap.size w W → Calls Tryd.prog 32 #[.slice A L c] W fun e w' => e = .returned (.bool (openB l)) ∧ Below W.heap.size W w' := fun W hbW => by
    subst hL
    obtain ⟨k, hk⟩ := (ref_open l hl).rounds
    exact gessoref02_Open.calls k A c l _ W (Kd.C_below hC hbW) hc hk
  have hN0 : (w.alloc (.cells #[.int .i64 s, .int .i64 b, .slice A L c] 52)).heap[w.heap.size]? = some (.cells #[.int .i64 s, .int .i64 b, .slice A L c] 52 (0, 0)) := blk_new w _
  have HN0 := Lib.hid hN0
  have HW0 := Lib.hid hW0
  have hmay : ¬ (openB l = true ∧ (L : Int) ≤ s ∧ b = -1) := fun q => h (.inr (by rw [hL]; exact q))
  obtain ⟨o, ho⟩ : ∃ o, openB l = o := ⟨_, rfl⟩
  rw [ho] at hop hmay
  have HOP := Lib.hid hop
  clear hop hN0 hW0 hC hc hl h hL hT ho
  have hguard : (0 ≤ b) = False ∨ (0 ≤ b ∧ ¬ s ≤ b) := by
    by_cases e : 0 ≤ b
    · exact .inr ⟨e, fun e2 => q4 ⟨e2, e⟩⟩
    · exact .inl (eq_false e)
  have key : ∀ (hx : o = false ∨ (o = true ∧ ¬ (L : Int) ≤ s) ∨ (o = true ∧ (L : Int) ≤ s ∧ ¬ b = -1)), True := fun _ => trivial
  rcases hguard with hb | ⟨hb0, hbs⟩
  · have hb0 : ¬ 0 ≤ b := fun e => by rw [hb] at e; exact e
    clear hb
    cases o with
    | false =>
      clear hmay
      go_enter Tryd.func43, Tryd.ntmps43
      go_wp2_with (first | (go_at_call 32; ((with_reducible refine (HOP.out _ HW0.out).mono ?_); rintro e w1 ⟨rfl, hb1⟩; have HB1 := Lib.hid (below_step HW0.out hb1))))
      go_ret
      exact ⟨rfl, HB1.out⟩
    | true =>
      by_cases hLs : s < (L : Int)
      · clear hmay
        go_enter Tryd.func43, Tryd.ntmps43
        go_wp2_with (first | (go_at_call 32; ((with_reducible refine (HOP.out _ HW0.out).mono ?_); rintro e w1 ⟨rfl, hb1⟩; have HB1 := Lib.hid (below_step HW0.out hb1); have hN1 := blk_below HN0.out hb1; have k0 := (blk_cell hN1 0).trans rfl; have k1 := (blk_cell hN1 1).trans rfl; have k2 := (blk_cell hN1 2).trans rfl)))
        go_ret
        exact ⟨rfl, HB1.out⟩
      · exfalso
        exact hmay ⟨rfl, by omega, by omega⟩
  · have hbne : (b == -1) = false := beq_eq_false_iff_ne.2 (by omega)
    have hbne2 : (b != -1) = true := by rw [bne, hbne]; rfl
    clear hmay
    cases o with
    | false =>
      go_enter Tryd.func43, Tryd.ntmps43
      go_wp2_with (first | (go_at_call 32; ((with_reducible refine (HOP.out _ HW0.out).mono ?_); rintro e w1 ⟨rfl, hb1⟩; have HB1 := Lib.hid (below_step HW0.out hb1))))
      go_ret
      exact ⟨rfl, HB1.out⟩
    | true =>
      by_cases hLs : s < (L : Int)
      · go_enter Tryd.func43, Tryd.ntmps43
        go_wp2_with (first | (go_at_call 32; ((with_reducible refine (HOP.out _ HW0.out).mono ?_); rintro e w1 ⟨rfl, hb1⟩; have HB1 := Lib.hid (below_step HW0.out hb1); have hN1 := blk_below HN0.out hb1; have k0 := (blk_cell hN1 0).trans rfl; have k1 := (blk_cell hN1 1).trans rfl; have k2 := (blk_cell hN1 2).trans rfl)))
        go_ret
        exact ⟨rfl, HB1.out⟩
      · go_enter Tryd.func43, Tryd.ntmps43
        go_wp2_with (first | (go_at_call 32; ((with_reducible refine (HOP.out _ HW0.out).mono ?_); rintro e w1 ⟨rfl, hb1⟩; have HB1 := Lib.hid (below_step HW0.out hb1); have hN1 := blk_below HN0.out hb1; have k0 := (blk_cell hN1 0).trans rfl; have k1 := (blk_cell hN1 1).trans rfl; have k2 := (blk_cell hN1 2).trans rfl)))
        go_ret
        exact ⟨rfl, HB1.out⟩
set_option maxHeartbeats 1000000 in
set_option maxRecDepth 100000 in
theorem may_yes (s b : Int) (l : List Int) (L : Nat) (A : Option Addr) (c : Nat) (w : World) (hL : l.length = L) (hC : Kd.C (Kd.int .u8) w A L l) (hc : L ≤ c) (hl : Bytes l) (h0 : may0 s b) (h : may1 s b l) :
    Calls Tryd.prog 43 #[.agg #[.int .i64 s, .int .i64 b, .slice A L c]] w fun e w' => e = .returned (.bool true) ∧ Below w.heap.size w w' := by
  have hu52 := Tryd.underlying52
  have hW0 : Below w.heap.size w (w.alloc (.cells #[.int .i64 s, .int .i64 b, .slice A L c] 52)) := (Below.refl _ _).alloc (Nat.le_refl _) _
  obtain ⟨q1, q2, q3, q4⟩ := h0
  have c1 : ¬ s < 0 := by omega
  have c2 : ¬ 1099511627776 < s := by omega
  have c3 : ¬ b < -1 := by omega
  have hop : openB l = true → ∀ W : World, Below w.heap.size w W → Calls Tryd.prog 32 #[.slice A L c] W fun e w' => e = .returned (.bool true) ∧ Below W.heap.size W w' := fun ho W hbW => by
    subst hL
    obtain ⟨k, hk⟩ := (ref_open l hl).rounds
    rw [ho] at hk
    exact gessoref02_Open.calls k A c l _ W (Kd.C_below hC hbW) hc hk
  have hN0 : (w.alloc (.cells #[.int .i64 s, .int .i64 b, .slice A L c] 52)).heap[w.heap.size]? = some (.cells #[.int .i64 s, .int .i64 b, .slice A L c] 52 (0, 0)) := blk_new w _
  have HN0 := Lib.hid hN0
  have HW0 := Lib.hid hW0
  by_cases hL0 : L = 0
  · have e0 : ((L : Int) == 0) = true := beq_iff_eq.2 (by omega)
    clear hop hN0 hW0 hC hc hl h
    by_cases hbs : s ≤ b
    · exact absurd ⟨hbs, by omega⟩ q4
    · have hW := HW0.out
      rw [hL0] at hW
      go_enter Tryd.func43, Tryd.ntmps43
      go_wp2
      go_ret
      exact ⟨rfl, hW⟩
  · have e0 : ((L : Int) == 0) = false := beq_eq_false_iff_ne.2 (by omega)
    have hh : openB l = true ∧ (L : Int) ≤ s ∧ b = -1 := h.elim (fun e => absurd (hL.symm.trans e) hL0) (fun q => by rw [← hL]; exact q)
    obtain ⟨ho, hLs, hbb⟩ := hh
    subst hbb
    have HOP := Lib.hid (hop ho)
    have hbs : ¬ s ≤ -1 := by omega
    clear hop hN0 hW0 hC hc hl h ho
    go_enter Tryd.func43, Tryd.ntmps43
    go_wp2_with (first | (go_at_call 32; ((with_reducible refine (HOP.out _ HW0.out).mono ?_); rintro e w1 ⟨rfl, hb1⟩; have HB1 := Lib.hid (below_step HW0.out hb1); have hN1 := blk_below HN0.out hb1; have k0 := (blk_cell hN1 0).trans rfl; have k1 := (blk_cell hN1 1).trans rfl; have k2 := (blk_cell hN1 2).trans rfl)))
    go_ret
    exact ⟨rfl, HB1.out⟩
end Go.Proofs.YtjlhehaagaaihaaDoor.P
