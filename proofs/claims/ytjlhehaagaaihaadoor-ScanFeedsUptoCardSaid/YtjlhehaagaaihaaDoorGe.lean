/- slices.Clone, slices.Grow and slices.Concat over bytes: their calls come to rows of bytes of the call's own. No condition. -/
import Derived.Test.YtjlhehaagaaihaaDoorEd
import Derived.WalkSpells
import Derived.Test.YtjlhehaagaaihaaDoorPx18
import Derived.Test.YtjlhehaagaaihaaDoorPx3
import Derived.Deep.RegionHeld3
-- Ga
namespace Go.Proofs.YtjlhehaagaaihaaDoor.P
open Go.RowKit Go.Lib Go.Proofs.YtjlhehaagaaihaaDoorW.PrintWords Go.Proofs.YtjlhehaagaaihaaDoorW.PrintLast Go.Proofs.YtjlhehaagaaihaaDoorW.PrintMore
attribute [local go_sem] max2_int min2_int max_two min_two max_three min_three max_four min_four
set_option linter.unusedVariables false
set_option linter.unusedSimpArgs false

/-- A fresh row of bytes. -/
def Fresh (w w' : World) (v : Value) (xs : List Int) : Prop := Kd.R (Kd.int .u8) 5 w' w.heap.size (fun _ => True) v xs ∧ Below w.heap.size w w'

set_option maxHeartbeats 1000000 in
set_option maxRecDepth 100000 in
theorem clone_any (A0 : Option Addr) (c0 : Nat) (l0 : List Int) (w : World) (hr0 : Kd.C (Kd.int .u8) w A0 l0.length l0) (hc0 : l0.length ≤ c0) (hl : l0.length ≤ 140737488351232) :
    Calls Tryd.prog 57 #[.slice A0 l0.length c0] w fun e w' => ∃ v0_ : Value, e = .returned v0_ ∧ Fresh w w' v0_ l0 := by
  cases A0 with
  | none =>
    have hn : l0.length = 0 := by
      have := (Kd.reads_of_C (d := (0 : Int)) hr0).2.2
      by_cases h : 0 < l0.length
      · obtain ⟨ad, e, _⟩ := this h; cases e
      · omega
    have hnil : l0 = [] := List.eq_nil_of_length_eq_zero hn
    subst hnil
    clear hr0 hc0 hl hn
    have heq := fun W : World => Lib.run_eql_slice_nil (P := Tryd.prog) W 23 5 none 0 c0 0 0 Tryd.underlying23
    go_enter Tryd.func57, Tryd.ntmps57
    go_wp2
    go_ret
    exact ⟨_, rfl, Kd.R_nil _ _ _ _ _, Below.refl _ _⟩
  | some ad =>
    have HR := Lib.hid hr0
    clear hr0
    have HB0 := Aside0.mk (Below.refl w.heap.size w)
    have heq := fun W : World => Lib.run_eql_slice_nil (P := Tryd.prog) W 23 5 (some ad) l0.length c0 0 0 Tryd.underlying23
    go_enter Tryd.func57, Tryd.ntmps57
    go_wp2_with (first
      | ((with_reducible refine gate_dst (N := 5) rfl ?_); refine Kd.R_lit (Kd.int .u8) (w0 := w) w.heap.size 5 ?hg (N := 5) ?hd (xs := ([] : List Int)) (inner := []) (ok := fun _ => True) (okp := fun _ => True) ?hr ?hp (fun _ hk => hk) trivial (Below.refl _ _) (Nat.le_refl _) (by simp) ?_; (case hd => rfl); (case hg => rfl); (case hr => first | (go_simp; done) | (go_simp; rfl)); (case hp => exact (Reps.none _ _)); intro v1 w1 ho1 hb1 hg1 hn1; have HO1 := Lib.hid ho1; have HB1 := Lib.hid hb1; clear ho1 hb1 hg1 hn1)
      | ((with_reducible refine gate_builtin (b := .append) (xs := #[.tmp 5, .tmp 6]) rfl ?_); at_builtin; refine Kd.R_append_rows (Kd.int .u8) (w0 := w) w.heap.size rfl (.tmp 5) (.tmp 6) 23 5 (.int .u8 0) 1 rfl Tryd.underlying23 info5 rfl (by decide) (by omega) v1 [] l0 _ _ _ (fun _ => True) (fun _ => False) rfl rfl ?aO ?aR (fun _ _ h => h) (fun _ h => h.elim) ?aF ?aB ?aS ?aL ?_; (case aR => exact Kd.C_below HR.out HB1.out); (case aB => exact HB1.out); (case aF => exact (fun _ _ => trivial)); (case aO => exact HO1.out); (case aS => exact HB1.out.size); (case aL => simp; omega); intro v2 w2 ho2 hb2 hg2 hn2; have HO2 := Lib.hid ho2; have HB2 := Lib.hid hb2; clear ho2 hb2 hg2 hn2))
    go_ret
    exact ⟨_, rfl, HO2.out, HB2.out⟩

theorem R_head {w : World} {base : Nat} {ok : Nat → Prop} {A : Option Addr} {n c : Nat} {xs : List Int} (h : Kd.R (Kd.int .u8) 5 w base ok (.slice A n c) xs) : Kd.R (Kd.int .u8) 5 w base ok (.slice A 0 c) [] := by
  obtain ⟨h0, inner, ho, hr⟩ := h
  refine ⟨fun k hk => h0 k (by cases A <;> exact hk), [], ⟨by simp, ?_⟩, Reps.none _ _⟩
  rcases ho.2 with ⟨e, _⟩ | ⟨g, cap, cur, e, h1, h2, h3, h4, h5, h6⟩
  · injection e with e1 e2 e3
    subst e1; subst e3
    exact .inl ⟨rfl, rfl⟩
  · injection e with e1 e2 e3
    subst e1; subst e3
    exact .inr ⟨g, c, cur, rfl, h1, h2, Nat.zero_le _, h4, h5, by simp⟩
set_option maxHeartbeats 1000000 in
set_option maxRecDepth 100000 in
theorem grow_nil (n : Nat) (w : World) (hl : n ≤ 140737488351232) :
    Calls Tryd.prog 62 #[.slice none 0 0, .int .i64 (n : Int)] w fun e w' => ∃ v0_ : Value, e = .returned v0_ ∧ Fresh w w' v0_ [] := by
  by_cases h0 : n = 0
  · subst h0
    go_enter Tryd.func62, Tryd.ntmps62
    go_wp2
    go_ret
    exact ⟨_, rfl, Kd.R_nil _ _ _ _ _, Below.refl _ _⟩
  · have hp : (0 : Int) < (n : Int) := by omega
    have hnn : ¬ ((n : Int) < 0) := by omega
    go_enter Tryd.func62, Tryd.ntmps62
    go_wp2_with (first
      | ((with_reducible refine gate_builtin (b := .append) (xs := #[.tmp 20, .tmp 21]) rfl ?_); at_builtin; refine Kd.R_append_zeros (Kd.int .u8) (w0 := w) w.heap.size rfl (.tmp 20) (.tmp 21) 23 3 5 (.int .u8 0) 1 rfl Tryd.underlying23 Tryd.underlying3 info5 rfl (by decide) (by omega) (.slice none 0 0) [] (0 : Int) (n : Int) (fun _ => True) rfl rfl rfl (fun _ _ => trivial) (Kd.R_nil _ _ _ _ _) (by omega) (Below.refl _ _) (Nat.le_refl _) (by simp; omega) ?_; intro v2 w2 ho2 hb2 hg2 hn2; obtain ⟨A2, c2, eo2⟩ := Kd.R_slice ho2; subst eo2; (obtain ⟨N2, hN2⟩ : ∃ N2, ([] ++ List.replicate (n : Int).toNat (0 : Int)).length = N2 := ⟨_, rfl⟩); rw [hN2] at ho2; (try rw [hN2]); have hcut2 : ∀ W : World, (Instr.slice 23 (.slice A2 N2 c2) none (some (.int .i64 0)) none).run Tryd.prog W = .ok (.slice A2 0 c2) W := (have h_ := ho2.2; by obtain ⟨i07, hi07, _, hsz7, _⟩ := info_parts info5; exact cut_to (P := Tryd.prog) 23 5 .i64 Tryd.underlying23 hi07 A2 N2 c2 0 (by omega) (by omega) (by obtain ⟨inner, ho_, _⟩ := h_; rw [hN2] at ho_; rcases ho_.2 with ⟨e, e'⟩ | ⟨g, cap, cur, e, _, _, h3, _⟩ <;> (injection e with e1 e2 e3; omega))); have HO2 := Lib.hid (R_head ho2); have HB2 := Lib.hid hb2; clear ho2 hb2 hg2 hn2 hN2))
    go_ret
    exact ⟨_, rfl, HO2.out, HB2.out⟩

set_option maxHeartbeats 2000000 in
set_option maxRecDepth 100000 in
/-- Two slices of bytes, one behind the other, as a row of its own. -/
theorem concat_two (g : Nat) (A1 A2 : Option Addr) (c1 c2 : Nat) (l1 l2 : List Int) (w : World) (hg0 : w.cell? ⟨g, 0, none⟩ = some (.slice A1 l1.length c1)) (hg1 : w.cell? ⟨g, 1, none⟩ = some (.slice A2 l2.length c2))
    (hr1 : Kd.C (Kd.int .u8) w A1 l1.length l1) (hr2 : Kd.C (Kd.int .u8) w A2 l2.length l2) (hl : l1.length + l2.length ≤ 140737488351232) :
    Calls Tryd.prog 55 #[.slice (some ⟨g, 0, none⟩) 2 2] w fun e w' => ∃ v0_ : Value, e = .returned v0_ ∧ Fresh w w' v0_ (l1 ++ l2) := by
  have hlt := block_lt_of_cell hg0
  have HG0 := Lib.hid hg0
  have HG1 := Lib.hid hg1
  have HR1 := Lib.hid hr1
  have HR2 := Lib.hid hr2
  clear hr1 hr2
  obtain ⟨n1, hn1⟩ : ∃ n1, l1.length = n1 := ⟨_, rfl⟩
  obtain ⟨n2, hn2⟩ : ∃ n2, l2.length = n2 := ⟨_, rfl⟩
  rw [hn1] at hg0 hl HR1 HG0
  rw [hn2] at hg1 hl HR2 HG1
  have HN1 := Lib.hid hn1
  have HN2 := Lib.hid hn2
  clear hn1 hn2
  go_enter Tryd.func55, Tryd.ntmps55
  go_wp2
  have cG : Calls Tryd.prog 62 #[.slice none 0 0, .int .i64 ((n1 : Int) + (n2 : Int))] w fun e w' => ∃ v0_ : Value, e = .returned v0_ ∧ Fresh w w' v0_ [] := by
    have := grow_nil (n1 + n2) w hl
    rw [Int.natCast_add] at this
    exact this
  have CG := Lib.hid cG
  clear cG
  go_loopg [3, 5, 11] 3 (fun gk s3 s5 s11 wx => wx = w ∧ (gk = 3 ∧ s11 = .int .i64 0 ∧ s3 = .int .i64 0 ∨ gk = 2 ∧ s11 = .int .i64 1 ∧ s3 = .int .i64 (n1 : Int) ∨ gk = 1 ∧ s11 = .int .i64 2 ∧ s3 = .int .i64 ((n1 : Int) + (n2 : Int))))
  case atStart => exact ⟨rfl, .inl ⟨rfl, rfl, rfl⟩⟩
  case round =>
    obtain ⟨rfl, hrel⟩ := hrel
    rcases hrel with ⟨hgk, rfl, rfl⟩ | ⟨hgk, rfl, rfl⟩ | ⟨hgk, rfl, rfl⟩
    · go_wp2
      go_roundg 2
      case measure => omega
      case rel => exact ⟨rfl, .inr (.inl ⟨rfl, rfl, rfl⟩)⟩
    · go_wp2
      go_roundg 1
      case measure => omega
      case rel => exact ⟨rfl, .inr (.inr ⟨rfl, rfl, rfl⟩)⟩
    · clear hg0 hg1
      go_wp2_with (go_at_call 62; ((with_reducible refine CG.out.mono ?_); rintro e w1 ⟨v1, rfl, ho1, hb1⟩; have HO1 := Lib.hid ho1; have HB1 := Lib.hid hb1; clear ho1 hb1))
      obtain ⟨wo, rfl⟩ : ∃ wo : World, wo = wr := ⟨_, rfl⟩
      go_loopg [6, 8, 27] 3 (fun gk s6 s8 s27 wx => Aside0 (Below wo.heap.size wo wx) ∧ (gk = 3 ∧ s27 = .int .i64 0 ∧ Aside0 (Kd.R (Kd.int .u8) 5 wx wo.heap.size (fun _ => True) s6 []) ∨ gk = 2 ∧ s27 = .int .i64 1 ∧ Aside0 (Kd.R (Kd.int .u8) 5 wx wo.heap.size (fun _ => True) s6 l1) ∨ gk = 1 ∧ s27 = .int .i64 2 ∧ Aside0 (Kd.R (Kd.int .u8) 5 wx wo.heap.size (fun _ => True) s6 (l1 ++ l2))))
      case atStart => exact ⟨⟨HB1.out⟩, .inl ⟨rfl, rfl, ⟨HO1.out⟩⟩⟩
      case round =>
        obtain ⟨HB, hrel⟩ := hrel
        clear HB1 HO1
        rcases hrel with ⟨hgk, rfl, HO⟩ | ⟨hgk, rfl, HO⟩ | ⟨hgk, rfl, HO⟩
        · have hq := pw_cell_below HB.out HG0.out
          go_wp2_with (first | ((with_reducible refine gate_builtin (b := .append) (xs := #[.tmp 31, .tmp 32]) rfl ?_); at_builtin; refine Kd.R_append_rows (Kd.int .u8) (w0 := wo) wo.heap.size rfl (.tmp 31) (.tmp 32) 23 5 (.int .u8 0) 1 rfl Tryd.underlying23 info5 rfl (by decide) (by omega) u6 [] l1 _ _ _ (fun _ => True) (fun _ => False) rfl rfl ?aO ?aR (fun _ _ h => h) (fun _ h => h.elim) ?aF ?aB ?aS ?aL ?_; (case aR => exact Kd.C_below HR1.out HB.out); (case aB => exact HB.out); (case aF => exact (fun _ _ => trivial)); (case aO => exact HO.out); (case aS => exact HB.out.size); (case aL => have q1 := HN1.out; have q2 := HN2.out; simp; omega); intro v2 w2 ho2 hb2 hg2 hn2; have HO2 := Lib.hid ho2; have HB2 := Lib.hid hb2; clear ho2 hb2 hg2 hn2))
          go_roundg 2
          case measure => omega
          case rel => exact ⟨⟨HB2.out⟩, .inr (.inl ⟨rfl, rfl, ⟨HO2.out⟩⟩)⟩
        · have hq := pw_cell_below HB.out HG1.out
          go_wp2_with (first | ((with_reducible refine gate_builtin (b := .append) (xs := #[.tmp 31, .tmp 32]) rfl ?_); at_builtin; refine Kd.R_append_rows (Kd.int .u8) (w0 := wo) wo.heap.size rfl (.tmp 31) (.tmp 32) 23 5 (.int .u8 0) 1 rfl Tryd.underlying23 info5 rfl (by decide) (by omega) u6 l1 l2 _ _ _ (fun _ => True) (fun _ => False) rfl rfl ?aO ?aR (fun _ _ h => h) (fun _ h => h.elim) ?aF ?aB ?aS ?aL ?_; (case aR => exact Kd.C_below HR2.out HB.out); (case aB => exact HB.out); (case aF => exact (fun _ _ => trivial)); (case aO => exact HO.out); (case aS => exact HB.out.size); (case aL => have q1 := HN1.out; have q2 := HN2.out; simp; omega); intro v2 w2 ho2 hb2 hg2 hn2; have HO2 := Lib.hid ho2; have HB2 := Lib.hid hb2; clear ho2 hb2 hg2 hn2))
          go_roundg 1
          case measure => omega
          case rel => exact ⟨⟨HB2.out⟩, .inr (.inr ⟨rfl, rfl, ⟨HO2.out⟩⟩)⟩
        · go_wp2
          go_ret
          exact ⟨_, rfl, HO.out, HB.out⟩
end Go.Proofs.YtjlhehaagaaihaaDoor.P
-- Gb
namespace Go.Proofs.YtjlhehaagaaihaaDoor.P
open Go.RowKit Go.Lib Go.Proofs.YtjlhehaagaaihaaDoorW.PrintWords Go.Proofs.YtjlhehaagaaihaaDoorW.PrintLast Go.Proofs.YtjlhehaagaaihaaDoorW.PrintMore
attribute [local go_sem] max2_int min2_int max_two min_two max_three min_three max_four min_four
set_option linter.unusedVariables false
set_option linter.unusedSimpArgs false

/-- A row of bytes in a world. -/
def U8 (w : World) (k : Nat) : Prop := ∃ cs fz, w.heap[k]? = some (.cells cs 5 fz)
/-- A scan at block p: how far it has come, where bytes are not right, what is pending; what is pending lies in rows of bytes that meet 'ok'. -/
def ScanAt (w : World) (p : Nat) (s b : Int) (pend : List Int) (ok : Nat → Prop) : Prop :=
  ∃ A c, w.heap[p]? = some (.cells #[.int .i64 s, .int .i64 b, .slice A pend.length c] 78 (0, 0)) ∧ pend.length ≤ c ∧ Kd.F (Kd.int .u8) w (fun k => ok k ∧ U8 w k) A pend.length pend
theorem U8.move {w w1 : World} {k : Nat} (h : U8 w k) (hm : w1.heap[k]? = w.heap[k]?) : U8 w1 k := by
  obtain ⟨cs, fz, h⟩ := h
  exact ⟨cs, fz, hm.trans h⟩
/-- A scan stays where its blocks stay. -/
theorem ScanAt.step {w w1 : World} {p : Nat} {s b : Int} {pend : List Int} {ok : Nat → Prop} (h : ScanAt w p s b pend ok) (hp : w1.heap[p]? = w.heap[p]?) (hm : ∀ k, ok k → U8 w k → k < w.heap.size → w1.heap[k]? = w.heap[k]?) : ScanAt w1 p s b pend ok := by
  obtain ⟨A, c, h1, h2, h3⟩ := h
  refine ⟨A, c, hp.trans h1, h2, ?_⟩
  exact Kd.F_mono (Kd.F_step (Kd.F_bound h3) (fun k hk hlt => hm k hk.1.1 hk.1.2 hlt)) (fun k hk => ⟨hk.1.1, hk.1.2.move (hm k hk.1.1 hk.1.2 hk.2)⟩)
theorem ScanAt.lt {w : World} {p : Nat} {s b : Int} {pend : List Int} {ok : Nat → Prop} (h : ScanAt w p s b pend ok) : p < w.heap.size := by
  obtain ⟨A, c, h1, _⟩ := h
  exact blk_lt h1
theorem ScanAt.below {w w1 : World} {p : Nat} {s b : Int} {pend : List Int} {ok : Nat → Prop} (h : ScanAt w p s b pend ok) (hb : Below w.heap.size w w1) : ScanAt w1 p s b pend ok :=
  h.step (hb.block p h.lt) (fun k _ _ hlt => hb.block k hlt)
theorem ScanAt.bound {w : World} {p : Nat} {s b : Int} {pend : List Int} {ok : Nat → Prop} (h : ScanAt w p s b pend ok) : ScanAt w p s b pend (fun k => ok k ∧ k < w.heap.size) := by
  obtain ⟨A, c, h1, h2, h3⟩ := h
  exact ⟨A, c, h1, h2, Kd.F_mono (Kd.F_bound h3) (fun k hk => ⟨⟨hk.1.1, hk.2⟩, hk.1.2⟩)⟩
theorem ScanAt.mono {w : World} {p : Nat} {s b : Int} {pend : List Int} {ok ok' : Nat → Prop} (h : ScanAt w p s b pend ok) (hok : ∀ k, ok k → ok' k) : ScanAt w p s b pend ok' := by
  obtain ⟨A, c, h1, h2, h3⟩ := h
  exact ⟨A, c, h1, h2, Kd.F_mono h3 (fun k hk => ⟨hok k hk.1, hk.2⟩)⟩
/-- Another scan has been written. -/
theorem ScanAt.other {w w1 : World} {p q : Nat} {s b s' b' : Int} {pend pend' : List Int} {ok ok' : Nat → Prop} (h : ScanAt w p s b pend ok) (h' : ScanAt w q s' b' pend' ok') (hne : p ≠ q) (hg : w.grownBy w1 (some q)) : ScanAt w1 p s b pend ok := by
  obtain ⟨A', c', h1', _⟩ := h'
  refine h.step (hg.block p h.lt (fun e => hne (by injection e))) (fun k _ hu hlt => hg.block k hlt (fun e => ?_))
  obtain ⟨cs, fz, hu⟩ := hu
  have : k = q := by injection e
  subst this
  rw [h1'] at hu
  injection hu with hu
  injection hu with _ hu
  exact absurd hu (by decide)
theorem ScanAt.new (w : World) (s b : Int) (ok : Nat → Prop) : ScanAt (w.alloc (.cells #[.int .i64 s, .int .i64 b, .slice none 0 0] 78)) w.heap.size s b [] ok :=
  ⟨none, 0, blk_new w _, Nat.le_refl _, Kd.F_nil _ _ _⟩

set_option maxRecDepth 100000 in
theorem new_any (w : World) : Calls Tryd.prog 34 #[] w fun e w' => e = .returned (.pointer (some ⟨w.heap.size, 0, none⟩)) ∧ w' = w.alloc (.cells #[.int .i64 0, .int .i64 (-1), .slice none 0 0] 78) := by
  have hu78 := Tryd.underlying78
  go_enter Tryd.func34, Tryd.ntmps34
  go_wp2
  go_ret
  exact ⟨rfl, rfl⟩
set_option maxRecDepth 100000 in
theorem fault_nil (w : World) : Calls Tryd.prog 38 #[.pointer none] w fun e w' => e = .returned (.int .i64 (-1)) ∧ w' = w := by
  go_enter Tryd.func38, Tryd.ntmps38
  go_wp2
  go_ret
  exact ⟨rfl, rfl⟩
set_option maxRecDepth 100000 in
theorem fault_any (p : Nat) (s b : Int) (v : Value) (w : World) (h : w.heap[p]? = some (.cells #[.int .i64 s, .int .i64 b, v] 78 (0, 0))) :
    Calls Tryd.prog 38 #[.pointer (some ⟨p, 0, none⟩)] w fun e w' => e = .returned (.int .i64 b) ∧ w' = w := by
  have h1 : w.cell? ⟨p, 1, none⟩ = some (.int .i64 b) := (blk_cell h 1).trans rfl
  have hu78 := Tryd.underlying78
  clear h
  go_enter Tryd.func38, Tryd.ntmps38
  go_wp2
  go_ret
  exact ⟨rfl, rfl⟩
set_option maxRecDepth 100000 in
theorem end_nil (w : World) : Calls Tryd.prog 39 #[.pointer none] w fun e w' => e = .returned (.int .i64 (-1)) ∧ ∃ n, w' = w.drewN n := by
  go_enter Tryd.func39, Tryd.ntmps39
  go_wp2_with (go_at_call 38; ((with_reducible refine (fault_nil _).mono ?_); rintro e w' ⟨rfl, rfl⟩))
  go_ret
  exact ⟨rfl, 0, rfl⟩
/-- Where bytes are not right, if none come any more. -/
def endOf (s b : Int) (n : Nat) : Int := if b ≥ 0 then b else if n = 0 then b else s - n
set_option maxHeartbeats 400000 in
set_option maxRecDepth 100000 in
theorem end_any (p : Nat) (s b : Int) (A : Option Addr) (n c : Nat) (w : World) (h : w.heap[p]? = some (.cells #[.int .i64 s, .int .i64 b, .slice A n c] 78 (0, 0))) (hs : 0 ≤ s) (hs' : s ≤ 1099511627776) (hn : n ≤ 1099511627776) :
    Calls Tryd.prog 39 #[.pointer (some ⟨p, 0, none⟩)] w fun e w' => e = .returned (.int .i64 (endOf s b n)) ∧ ∃ n, w' = w.drewN n := by
  have cF := fault_any p s b _ w h
  have CF := Lib.hid cF
  have h0 : w.cell? ⟨p, 0, none⟩ = some (.int .i64 s) := (blk_cell h 0).trans rfl
  have h1 : w.cell? ⟨p, 1, none⟩ = some (.int .i64 b) := (blk_cell h 1).trans rfl
  have h2 : w.cell? ⟨p, 2, none⟩ = some (.slice A n c) := (blk_cell h 2).trans rfl
  have hu78 := Tryd.underlying78
  clear cF h
  unfold endOf
  by_cases hb : b ≥ 0
  · rw [if_pos hb]
    have hb' : (0 : Int) ≤ b := hb
    go_enter Tryd.func39, Tryd.ntmps39
    go_wp2_with (go_at_call 38; ((with_reducible refine CF.out.mono ?_); rintro e w' ⟨rfl, rfl⟩))
    go_ret
    exact ⟨rfl, 0, rfl⟩
  · rw [if_neg hb]
    have hb' : ¬ (0 : Int) ≤ b := hb
    by_cases hn0 : n = 0
    · rw [if_pos hn0]
      have hnb : ((n : Int) == 0) = true := by simp [hn0]
      clear hn0
      go_enter Tryd.func39, Tryd.ntmps39
      go_wp2_with (go_at_call 38; ((with_reducible refine CF.out.mono ?_); rintro e w' ⟨rfl, rfl⟩))
      go_ret
      exact ⟨rfl, 0, rfl⟩
    · rw [if_neg hn0]
      have hnb : ((n : Int) == 0) = false := beq_eq_false_iff_ne.mpr (by omega)
      go_enter Tryd.func39, Tryd.ntmps39
      go_wp2
      go_quiet (fail)
      go_wp2
      go_ret
      exact ⟨rfl, _, rfl⟩
end Go.Proofs.YtjlhehaagaaihaaDoor.P
-- Gc
namespace Go.Proofs.YtjlhehaagaaihaaDoor.P
open Go.RowKit Go.Lib Go.Proofs.YtjlhehaagaaihaaDoorW.PrintWords Go.Proofs.YtjlhehaagaaihaaDoorW.PrintLast Go.Proofs.YtjlhehaagaaihaaDoorW.PrintMore
attribute [local go_sem] max2_int min2_int max_two min_two max_three min_three max_four min_four
set_option linter.unusedVariables false
set_option linter.unusedSimpArgs false

set_option maxHeartbeats 400000 in
set_option maxRecDepth 100000 in
theorem state_nil (w : World) : Calls Tryd.prog 40 #[.pointer none] w fun e w' => e = .returned (.agg #[.int .i64 0, .int .i64 (-1), .slice none 0 0]) ∧ Below w.heap.size w w' := by
  have hu59 := Tryd.underlying59
  go_enter Tryd.func40, Tryd.ntmps40
  go_wp2
  exact bodyPost_ret (v := .agg #[.int .i64 0, .int .i64 (-1), .slice none 0 0]) (by simp [results, Tryd.results40, go_sem]) rfl ⟨rfl, by repeat (first | exact Below.refl _ _ | (refine Below.alloc ?_ (Nat.le_refl _) _))⟩

set_option maxHeartbeats 400000 in
set_option maxRecDepth 100000 in
theorem state_any (p : Nat) (s b : Int) (pend : List Int) (ok : Nat → Prop) (w : World) (h : ScanAt w p s b pend ok) (hl : pend.length ≤ 140737488351232) :
    Calls Tryd.prog 40 #[.pointer (some ⟨p, 0, none⟩)] w fun e w' => ∃ v : Value, e = .returned (.agg #[.int .i64 s, .int .i64 b, v]) ∧ Fresh w w' v pend := by
  obtain ⟨A, c, hb, hc, hF⟩ := h
  have hu59 := Tryd.underlying59
  have hu78 := Tryd.underlying78
  have h0 : w.cell? ⟨p, 0, none⟩ = some (.int .i64 s) := (blk_cell hb 0).trans rfl
  have h1 : w.cell? ⟨p, 1, none⟩ = some (.int .i64 b) := (blk_cell hb 1).trans rfl
  have h2 : w.cell? ⟨p, 2, none⟩ = some (.slice A pend.length c) := (blk_cell hb 2).trans rfl
  have HC := Lib.hid (Kd.F_now hF)
  have hlt := blk_lt hb
  clear hF hb
  have hcl : ∀ W : World, Below w.heap.size w W → Calls Tryd.prog 57 #[.slice A pend.length c] W fun e w' => ∃ v0_ : Value, e = .returned v0_ ∧ Fresh W w' v0_ pend := fun W hbW => clone_any A c pend W (Kd.C_below HC.out hbW) hc hl
  have HCL := Lib.hid hcl
  clear hcl
  have hk0 : ∀ W : World, Below w.heap.size w W → W.cell? ⟨p, 0, none⟩ = some (.int .i64 s) := fun W hbW => pw_cell_below hbW h0
  have hk1 : ∀ W : World, Below w.heap.size w W → W.cell? ⟨p, 1, none⟩ = some (.int .i64 b) := fun W hbW => pw_cell_below hbW h1
  have hk2 : ∀ W : World, Below w.heap.size w W → W.cell? ⟨p, 2, none⟩ = some (.slice A pend.length c) := fun W hbW => pw_cell_below hbW h2
  have HK0 := Lib.hid hk0
  have HK1 := Lib.hid hk1
  have HK2 := Lib.hid hk2
  clear hk0 hk1 hk2
  go_enter Tryd.func40, Tryd.ntmps40
  go_wp2
  have hW0 : Below w.heap.size w (w.alloc (Obj.cells #[Value.int IntKind.i64 0, Value.int IntKind.i64 0, Value.slice none 0 0] 59)) := (Below.refl _ _).alloc (Nat.le_refl _) _
  have hN0 : (w.alloc (Obj.cells #[Value.int IntKind.i64 0, Value.int IntKind.i64 0, Value.slice none 0 0] 59)).heap[w.heap.size]? = some (Obj.cells #[Value.int IntKind.i64 0, Value.int IntKind.i64 0, Value.slice none 0 0] 59) := blk_new w _
  generalize w.alloc (Obj.cells #[Value.int IntKind.i64 0, Value.int IntKind.i64 0, Value.slice none 0 0] 59) = W0 at *
  go_region_held3 (fun w' => w'.cell? ⟨p, 0, none⟩ = some (.int .i64 s) ∧ w'.cell? ⟨p, 1, none⟩ = some (.int .i64 b) ∧ w'.cell? ⟨p, 2, none⟩ = some (.slice A pend.length c) ∧ Below w.heap.size w w')
    (first | (exact ⟨HK0.out _ hW0.drew, HK1.out _ hW0.drew, HK2.out _ hW0.drew, hW0.drew⟩) | (have hb_ : Below w.heap.size w w1 := below_step hW0.drew hf1.2; exact ⟨HK0.out _ hb_, HK1.out _ hb_, HK2.out _ hb_, hb_⟩) | (have hb_ : Below w.heap.size w _ := ((((below_step hW0.drew hf1.2).setCell (p := ⟨w.heap.size, 0, none⟩) (Nat.le_refl _) (.int .i64 s)).setCell (p := ⟨w.heap.size, 1, none⟩) (Nat.le_refl _) (.int .i64 b)).setCell (p := ⟨w.heap.size, 2, none⟩) (Nat.le_refl _) (.slice Av pend.length cv)); exact ⟨HK0.out _ hb_, HK1.out _ hb_, HK2.out _ hb_, hb_⟩) | go_keep)
    ((go_at_call 57; refine (HCL.out _ hW0.drew).mono ?_; rintro e w1 ⟨v1, rfl, hf1⟩; (obtain ⟨Av, cv, ev⟩ := Kd.R_slice hf1.1); subst ev; have hN1 := blk_below (blk_drew hN0) hf1.2; have g0 : w1.cell? ⟨w.heap.size, 0, none⟩ = some (.int .i64 0) := (blk_cell hN1 0).trans rfl; have g1 : w1.cell? ⟨w.heap.size, 1, none⟩ = some (.int .i64 0) := (blk_cell hN1 1).trans rfl; have g2 : w1.cell? ⟨w.heap.size, 2, none⟩ = some (.slice none 0 0) := (blk_cell hN1 2).trans rfl; have f0 := blk_frozen hN1 0; have f1 := blk_frozen hN1 1; have f2 := blk_frozen hN1 2))
  have hb3 : Below w.heap.size w _ := ((((below_step hW0.drew hf1.2).setCell (p := ⟨w.heap.size, 0, none⟩) (Nat.le_refl _) (.int .i64 s)).setCell (p := ⟨w.heap.size, 1, none⟩) (Nat.le_refl _) (.int .i64 b)).setCell (p := ⟨w.heap.size, 2, none⟩) (Nat.le_refl _) (.slice Av pend.length cv))
  have hN3 := blk_set (blk_set (blk_set hN1 0 (.int .i64 s)) 1 (.int .i64 b)) 2 (.slice Av pend.length cv)
  have hlt0 := blk_lt hN0
  have hR0 : Kd.R (Kd.int .u8) 5 w1 W0.drew.heap.size (fun k => W0.drew.heap.size ≤ k) (.slice Av pend.length cv) pend := Kd.R_mono (Kd.R_bound hf1.1) (fun k hk => hk.2.1)
  have hne : ∀ k, W0.drew.heap.size ≤ k → k ≠ w.heap.size := fun k hk e => by have : W0.drew.heap.size = W0.heap.size := rfl; omega
  have hR3 := Kd.R_mono (ok' := fun _ => True) (Kd.R_lower (Kd.R_far (p := ⟨w.heap.size, 2, none⟩) (Kd.R_far (p := ⟨w.heap.size, 1, none⟩) (Kd.R_far (p := ⟨w.heap.size, 0, none⟩) hR0 hne (.int .i64 s)) hne (.int .i64 b)) hne (.slice Av pend.length cv)) hW0.size) (fun _ _ => trivial)
  have q0 : World.cell? _ ⟨w.heap.size, 0, none⟩ = some (Value.int .i64 s) := (blk_cell hN3 0).trans rfl
  have q1 : World.cell? _ ⟨w.heap.size, 1, none⟩ = some (Value.int .i64 b) := (blk_cell hN3 1).trans rfl
  have q2 : World.cell? _ ⟨w.heap.size, 2, none⟩ = some (Value.slice Av pend.length cv) := (blk_cell hN3 2).trans rfl
  have HR3 := Lib.hid hR3
  have HB3 := Lib.hid hb3
  clear hR3 hb3 hR0 hne hN3 hN1 g0 g1 g2
  generalize (((w1.setCell ⟨w.heap.size, 0, none⟩ (.int .i64 s)).setCell ⟨w.heap.size, 1, none⟩ (.int .i64 b)).setCell ⟨w.heap.size, 2, none⟩ (.slice Av pend.length cv)) = W3 at *
  go_wp2
  exact bodyPost_ret (v := .agg #[.int .i64 s, .int .i64 b, .slice Av pend.length cv]) (by simp [results, Tryd.results40, go_sem, q0, q1, q2]) rfl ⟨_, rfl, HR3.out, HB3.out⟩

theorem grown_below {a w w1 : World} {g : Nat} (h : a.grownBy w (some g)) (hb : Below w.heap.size w w1) : a.grownBy w1 (some g) :=
  ⟨hb.os.trans h.os, hb.tape.trans h.tape, hb.output.trans h.output, Nat.le_trans h.size hb.size, fun i hi hne => (hb.block i (Nat.lt_of_lt_of_le hi h.size)).trans (h.block i hi hne)⟩
theorem grown_set {a w : World} {g : Nat} (h : a.grownBy w (some g)) (j : Nat) (u : Value) : a.grownBy (w.setCell ⟨g, j, none⟩ u) (some g) :=
  ⟨h.os, h.tape, h.output, by simpa [World.setCell] using h.size, fun i hi hne => (Below.heap_setCell w ⟨g, j, none⟩ u i (fun e => hne (by rw [e]))).trans (h.block i hi hne)⟩
theorem grown_self (w : World) (g : Nat) : w.grownBy w (some g) := ⟨rfl, rfl, rfl, Nat.le_refl _, fun _ _ _ => rfl⟩
theorem below_grown {W0 w w1 : World} {g : Nat} (h : Below W0.heap.size W0 w) (hg : W0.heap.size ≤ g) (k : w.grownBy w1 (some g)) : Below W0.heap.size W0 w1 :=
  ⟨k.os.trans h.os, k.tape.trans h.tape, k.output.trans h.output, Nat.le_trans h.size k.size, fun i hi => (k.block i (Nat.lt_of_lt_of_le hi h.size) (fun e => by injection e with e; omega)).trans (h.block i hi)⟩
/-- What is only read stays, if one block of another kind is written. -/
theorem F_other {w w1 : World} {p : Nat} {cs : Array Value} {A : Option Addr} {n : Nat} {l : List Int} {ok : Nat → Prop} (hb : w.heap[p]? = some (.cells cs 78 (0, 0))) (hg : w.grownBy w1 (some p)) (h : Kd.F (Kd.int .u8) w (fun k => ok k ∧ U8 w k) A n l) :
    Kd.F (Kd.int .u8) w1 (fun k => ok k ∧ U8 w1 k) A n l := by
  have hm : ∀ k, U8 w k → k < w.heap.size → w1.heap[k]? = w.heap[k]? := fun k hu hlt => hg.block k hlt (fun e => by
    injection e with e
    subst e
    obtain ⟨cs', fz, hu⟩ := hu
    rw [hb] at hu
    injection hu with hu
    injection hu with _ hu
    exact absurd hu (by decide))
  exact Kd.F_mono (Kd.F_step (Kd.F_bound h) (fun k hk hlt => hm k hk.1.2 hlt)) (fun k hk => ⟨hk.1.1, hk.1.2.move (hm k hk.1.2 hk.2)⟩)
/-- The block of a scan is of another kind than rows of bytes. -/
theorem F_cut {W : World} {ok : Nat → Prop} {A : Option Addr} {c : Nat} {l : List Int} (h : Kd.F (Kd.int .u8) W ok A l.length l) (hc : l.length ≤ c) (j : Nat) (hj : j ≤ l.length) :
    ∃ A' n' c', (∀ W' : World, (Instr.slice 23 (.slice A l.length c) (some (.int .i64 (j : Int))) none none).run Tryd.prog W' = .ok (.slice A' n' c') W') ∧ Kd.F (Kd.int .u8) W ok A' n' (l.drop j) ∧ n' = (l.drop j).length ∧ n' ≤ c' := by
  obtain ⟨i013, hi013, _, hsz13, _⟩ := info_parts info5
  have hcut13 := cut_from (P := Tryd.prog) 23 5 .i64 Tryd.underlying23 hi013 1 hsz13 A l.length c (j : Int) (by omega) (by omega)
  have hr13 := Kd.F_cut (m := j) (c := c) h hj hc
  rw [show (Kd.int .u8).sz = 1 from rfl] at hr13
  refine ⟨_, _, _, hcut13, ?_, by rw [List.length_drop]; simp, by simp; omega⟩
  simpa using hr13

/-- What 'look' makes of bytes: where they are not right, what is pending. -/
def lookBad (from_ b f : Int) (o : Bool) : Int := if f < 0 then b else if o = true then b else from_ + f
def lookPend (l : List Int) (f : Int) (o : Bool) : List Int := if f < 0 then [] else if o = true then l.drop f.toNat else []

set_option maxHeartbeats 1000000 in
set_option maxRecDepth 100000 in
theorem look_any (k : Nat) (p : Nat) (s b from_ f : Int) (o : Bool) (v0 : Value) (A : Option Addr) (c : Nat) (l : List Int) (ok : Nat → Prop) (W0 w : World) (hT : Tabs W0) (hB : Below W0.heap.size W0 w) (hp : W0.heap.size ≤ p)
    (hb : w.heap[p]? = some (.cells #[.int .i64 s, .int .i64 b, v0] 78 (0, 0))) (hF : Kd.F (Kd.int .u8) w (fun k => ok k ∧ U8 w k) A l.length l) (hc : l.length ≤ c)
    (hf : code_Fault.f k l = some f) (ho : 0 ≤ f → scan_Open.f (l.drop f.toNat) = some o) (hfl : f ≤ l.length) (hr : 0 ≤ from_) (hr' : from_ ≤ 1099511627776) (hll : l.length ≤ 4398046511104) :
    Calls Tryd.prog 54 #[.pointer (some ⟨p, 0, none⟩), .int .i64 from_, .slice A l.length c] w fun e w' => e = .returned (.tuple #[]) ∧ w.grownBy w' (some p) ∧ ScanAt w' p s (lookBad from_ b f o) (lookPend l f o) ok := by
  have hu78 := Tryd.underlying78
  have hs2 : w.cell? ⟨p, 2, none⟩ = some v0 := (blk_cell hb 2).trans rfl
  have hz2 := blk_frozen hb 2
  have hb1 : (w.setCell ⟨p, 2, none⟩ (.slice none 0 0)).heap[p]? = some (.cells #[.int .i64 s, .int .i64 b, .slice none 0 0] 78 (0, 0)) := by simpa using blk_set hb 2 (.slice none 0 0)
  have hg1 : w.grownBy (w.setCell ⟨p, 2, none⟩ (.slice none 0 0)) (some p) := grown_set (grown_self w p) 2 _
  have hF1 := F_other hb hg1 hF
  have hT1 : Tabs (w.setCell ⟨p, 2, none⟩ (.slice none 0 0)) := hT.below (below_grown hB hp hg1)
  have cF := code_Fault.calls k A c l f _ ⟨hT1⟩ (Kd.F_now hF1) hc hf
  have CF := Lib.hid cF
  have HB1 := Lib.hid hb1
  have HG1 := Lib.hid hg1
  have HF1 := Lib.hid hF1
  clear cF hF hb hF1
  by_cases f0 : f < 0
  · have f0' : (f < (0 : Int)) := f0
    simp only [lookBad, lookPend, if_pos f0]
    clear hb1 hg1 hT1
    go_enter Tryd.func54, Tryd.ntmps54
    go_wp2_with (go_at_call 20; ((with_reducible refine CF.out.mono ?_); rintro e w2 ⟨rfl, hb2⟩; have HB2 := Lib.hid hb2; clear hb2))
    go_end0
    exact ⟨rfl, grown_below HG1.out HB2.out, none, 0, blk_below HB1.out HB2.out, Nat.le_refl _, Kd.F_nil _ _ _⟩
  · have f0' : ¬ (f < (0 : Int)) := f0
    have fp : 0 ≤ f := by omega
    obtain ⟨A2, n2, c2, hcut, hF2, hn2, hc2⟩ := F_cut HF1.out hc f.toNat (by omega)
    have hcut : ∀ W' : World, (Instr.slice 23 (.slice A l.length c) (some (.int .i64 f)) none none).run Tryd.prog W' = .ok (.slice A2 n2 c2) W' := by
      rw [show f = ((f.toNat : Nat) : Int) by omega]; exact hcut
    have hO := ho fp
    have hTT : ∀ W : World, Below (w.setCell ⟨p, 2, none⟩ (.slice none 0 0)).heap.size (w.setCell ⟨p, 2, none⟩ (.slice none 0 0)) W → Tabs W := fun W h => hT1.below h
    have hcO : ∀ W : World, Below (w.setCell ⟨p, 2, none⟩ (.slice none 0 0)).heap.size (w.setCell ⟨p, 2, none⟩ (.slice none 0 0)) W → Calls Tryd.prog 31 #[.slice A2 n2 c2] W fun e w' => e = .returned (.bool o) ∧ Below W.heap.size W w' := fun W h => by
      have hF3 := Kd.F_below hF2 h
      subst hn2
      exact scan_Open.calls A2 c2 (l.drop f.toNat) o W ⟨hT1.below h⟩ (Kd.F_now hF3) hc2 hO
    have HCO := Lib.hid hcO
    have HF2 := Lib.hid hF2
    have HN2 := Lib.hid hn2
    clear hO hTT hcO hF2 hn2 ho hT1 hb1 hg1
    cases o with
    | true =>
      simp only [lookBad, lookPend, if_neg f0, if_true]
      go_enter Tryd.func54, Tryd.ntmps54
      go_wp2_with (first
        | (go_at_call 20; ((with_reducible refine CF.out.mono ?_); rintro e w2 ⟨rfl, hb2⟩; have HB2 := Lib.hid hb2; clear hb2))
        | (go_at_call 31; ((with_reducible refine (HCO.out _ HB2.out).mono ?_); rintro e w3 ⟨rfl, hb3⟩; have HB3 := Lib.hid (below_step HB2.out hb3); clear hb3; have hb3 := blk_below HB1.out HB3.out; have g3 : w3.cell? ⟨p, 2, none⟩ = some (.slice none 0 0) := (blk_cell hb3 2).trans rfl; have f3 := blk_frozen hb3 2; have HBB := Lib.hid hb3; clear hb3)))
      go_end0
      have hg3 := grown_set (grown_below HG1.out HB3.out) 2 (.slice A2 n2 c2)
      have hb3 := blk_set HBB.out 2 (.slice A2 n2 c2)
      refine ⟨rfl, hg3, A2, c2, ?_, by have := HN2.out; omega, ?_⟩
      · rw [← HN2.out]; simpa using hb3
      · have hF3 := Kd.F_below HF2.out HB3.out
        rw [← HN2.out]
        have hF4 := F_other HBB.out (grown_set (grown_self w3 p) 2 (.slice A2 n2 c2)) (ok := ok) (Kd.F_mono (Kd.F_below (Kd.F_bound HF2.out) HB3.out) (fun k hk => ⟨hk.1.1, hk.1.2.move (HB3.out.block k hk.2)⟩))
        exact hF4
    | false =>
      simp only [lookBad, lookPend, if_neg f0, if_false, Bool.false_eq_true]
      go_enter Tryd.func54, Tryd.ntmps54
      go_wp2_with (first
        | (go_at_call 20; ((with_reducible refine CF.out.mono ?_); rintro e w2 ⟨rfl, hb2⟩; have HB2 := Lib.hid hb2; clear hb2))
        | (go_at_call 31; ((with_reducible refine (HCO.out _ HB2.out).mono ?_); rintro e w3 ⟨rfl, hb3⟩; have HB3 := Lib.hid (below_step HB2.out hb3); clear hb3; have hb3 := blk_below HB1.out HB3.out; have g3 : w3.cell? ⟨p, 1, none⟩ = some (.int .i64 b) := (blk_cell hb3 1).trans rfl; have f3 := blk_frozen hb3 1; have HBB := Lib.hid hb3; clear hb3)))
      go_end0
      have hg3 := grown_set (grown_below HG1.out HB3.out) 1 (.int .i64 (from_ + f))
      have hb3 := blk_set HBB.out 1 (.int .i64 (from_ + f))
      exact ⟨rfl, hg3, none, 0, by simpa using hb3, Nat.le_refl _, Kd.F_nil _ _ _⟩
end Go.Proofs.YtjlhehaagaaihaaDoor.P
-- Gd
namespace Go.Proofs.YtjlhehaagaaihaaDoor.P
open Go.RowKit Go.Lib Go.Proofs.YtjlhehaagaaihaaDoorW.PrintWords Go.Proofs.YtjlhehaagaaihaaDoorW.PrintLast Go.Proofs.YtjlhehaagaaihaaDoorW.PrintMore
attribute [local go_sem] max2_int min2_int max_two min_two max_three min_three max_four min_four
set_option linter.unusedVariables false
set_option linter.unusedSimpArgs false

theorem grown_trans2 {a w w1 : World} {g : Nat} (h : a.grownBy w (some g)) (k : w.grownBy w1 (some g)) : a.grownBy w1 (some g) :=
  ⟨k.os.trans h.os, k.tape.trans h.tape, k.output.trans h.output, Nat.le_trans h.size k.size, fun i hi hne => (k.block i (Nat.lt_of_lt_of_le hi h.size) hne).trans (h.block i hi hne)⟩
/-- What is known behind the joined pieces. -/
theorem feed_mid {w W1 w3 : World} {p : Nat} {s b s0 : Int} {m c2 : Nat} {A2 : Option Addr} {o : Obj} {v3 : Value} {l : List Int} (hbl : w.heap[p]? = some (.cells #[.int .i64 s0, .int .i64 b, .slice A2 m c2] 78 (0, 0))) (hg : w.grownBy W1 (some p))
    (hb : W1.heap[p]? = some (.cells #[.int .i64 s, .int .i64 b, .slice A2 m c2] 78 (0, 0))) (hf : Fresh (W1.alloc o) w3 v3 l) :
    (∃ A c, v3 = .slice A l.length c) ∧ w.grownBy w3 (some p) ∧ w3.heap[p]? = some (.cells #[.int .i64 s, .int .i64 b, .slice A2 m c2] 78 (0, 0)) ∧ ∀ A c, v3 = .slice A l.length c → Kd.F (Kd.int .u8) w3 (fun k => w.heap.size ≤ k ∧ U8 w3 k) A l.length l ∧ l.length ≤ c := by
  have hB : Below W1.heap.size W1 w3 := below_step ((Below.refl _ _).alloc (Nat.le_refl _) o) hf.2
  refine ⟨Kd.R_slice hf.1, grown_below hg hB, blk_below hb hB, fun A c e => ?_⟩
  subst e
  have hsz : w.heap.size ≤ (W1.alloc o).heap.size := Nat.le_trans hg.size (by simp)
  refine ⟨Kd.F_mono (Kd.R_F (Kd.R_bound hf.1)) (fun k hk => ⟨Nat.le_trans hsz hk.2.1, ?_⟩), (Kd.R_reads' hf.1).2.1⟩
  obtain ⟨_, _, _, q, hq, cells, hc⟩ := hk
  have : q = 5 := by simpa [Kd.int, Kd.scalar] using hq
  subst this
  exact ⟨cells, _, hc⟩
set_option maxRecDepth 100000 in
theorem feed_nil (v : Value) (w : World) : Calls Tryd.prog 36 #[.pointer none, v] w fun e w' => e = .returned (.int .i64 1) ∧ w' = w := by
  go_enter Tryd.func36, Tryd.ntmps36
  go_wp2
  go_ret
  exact ⟨rfl, rfl⟩
set_option maxHeartbeats 400000 in
set_option maxRecDepth 100000 in
theorem feed_range (p : Nat) (s b : Int) (v : Value) (A : Option Addr) (n c : Nat) (w : World) (h : w.heap[p]? = some (.cells #[.int .i64 s, .int .i64 b, v] 78 (0, 0))) (hs : 0 ≤ s) (hs' : s ≤ 1099511627776) (hn : (n : Int) > 1099511627776 - s) (hn' : n ≤ 9223372036854775807) :
    Calls Tryd.prog 36 #[.pointer (some ⟨p, 0, none⟩), .slice A n c] w fun e w' => e = .returned (.int .i64 13) ∧ w' = w := by
  have hu78 := Tryd.underlying78
  have h0 : w.cell? ⟨p, 0, none⟩ = some (.int .i64 s) := (blk_cell h 0).trans rfl
  have hg : (1099511627776 - s < (n : Int)) := hn
  clear h
  go_enter Tryd.func36, Tryd.ntmps36
  go_wp2
  go_ret
  exact ⟨rfl, rfl⟩
set_option maxHeartbeats 400000 in
set_option maxRecDepth 100000 in
theorem feed_bad (p : Nat) (s b : Int) (pend : List Int) (ok : Nat → Prop) (A : Option Addr) (n c : Nat) (w : World) (h : ScanAt w p s b pend ok) (hpl : pend.length ≤ 1099511627776) (hs : 0 ≤ s) (hs' : s ≤ 1099511627776) (hn : (n : Int) ≤ 1099511627776 - s) (hb : 0 ≤ b) :
    Calls Tryd.prog 36 #[.pointer (some ⟨p, 0, none⟩), .slice A n c] w fun e w' => e = .returned (.int .i64 0) ∧ w.grownBy w' (some p) ∧ ScanAt w' p (s + n) b pend ok := by
  obtain ⟨A2, c2, hblk, hc2, hF⟩ := h
  have hu78 := Tryd.underlying78
  have h0 : w.cell? ⟨p, 0, none⟩ = some (.int .i64 s) := (blk_cell hblk 0).trans rfl
  have h1 : w.cell? ⟨p, 1, none⟩ = some (.int .i64 b) := (blk_cell hblk 1).trans rfl
  have h2 : w.cell? ⟨p, 2, none⟩ = some (.slice A2 pend.length c2) := (blk_cell hblk 2).trans rfl
  have hz := blk_frozen hblk 0
  have hg : ¬ (1099511627776 - s < (n : Int)) := by omega
  have HBL := Lib.hid hblk
  have HF := Lib.hid hF
  clear hblk hF
  go_enter Tryd.func36, Tryd.ntmps36
  go_wp2
  go_quiet (fail)
  go_wp2
  go_ret
  have hg3 := grown_set (grown_self w p) 0 (.int .i64 (s + n))
  have hb3 := blk_set HBL.out 0 (.int .i64 (s + n))
  have hF3 := F_other HBL.out hg3 HF.out
  refine ⟨rfl, ?_, A2, c2, ?_, hc2, ?_⟩
  · exact grown_set (grown_below (grown_self w p) (pw_below_drewN (Below.refl _ _) _)) 0 _
  · simpa using blk_set (blk_drewN HBL.out _) 0 (.int .i64 (s + n))
  · exact hF3

set_option maxHeartbeats 1000000 in
set_option maxRecDepth 100000 in
theorem feed_good (k : Nat) (p : Nat) (s b f : Int) (o : Bool) (pend x : List Int) (ok okx : Nat → Prop) (A : Option Addr) (c : Nat) (W0 w : World) (hT : Tabs W0) (hB : Below W0.heap.size W0 w) (hp : W0.heap.size ≤ p)
    (h : ScanAt w p s b pend ok) (hF : Kd.F (Kd.int .u8) w okx A x.length x) (hox : ∀ k, okx k → k ≠ p) (hc : x.length ≤ c) (hpl : pend.length ≤ 3) (hps : (pend.length : Int) ≤ s) (hs : 0 ≤ s) (hs' : s ≤ 1099511627776) (hn : (x.length : Int) ≤ 1099511627776 - s) (hb : b < 0)
    (hf : code_Fault.f k (pend ++ x) = some f) (ho : 0 ≤ f → scan_Open.f ((pend ++ x).drop f.toNat) = some o) (hfl : f ≤ (pend ++ x).length) :
    Calls Tryd.prog 36 #[.pointer (some ⟨p, 0, none⟩), .slice A x.length c] w fun e w' => e = .returned (.int .i64 0) ∧ w.grownBy w' (some p) ∧ ScanAt w' p (s + x.length) (lookBad (s - pend.length) b f o) (lookPend (pend ++ x) f o) (fun k => w.heap.size ≤ k) := by
  obtain ⟨A2, c2, hblk, hc2, hF2⟩ := h
  have hu78 := Tryd.underlying78
  have hu48 := Tryd.underlying48
  have h0 : w.cell? ⟨p, 0, none⟩ = some (.int .i64 s) := (blk_cell hblk 0).trans rfl
  have h1 : w.cell? ⟨p, 1, none⟩ = some (.int .i64 b) := (blk_cell hblk 1).trans rfl
  have h2 : w.cell? ⟨p, 2, none⟩ = some (.slice A2 pend.length c2) := (blk_cell hblk 2).trans rfl
  have hz := blk_frozen hblk 0
  have hlt := blk_lt hblk
  have hg : ¬ (1099511627776 - s < (x.length : Int)) := by omega
  have hb' : ¬ (0 ≤ b) := by omega
  have HBL := Lib.hid hblk
  have HF2 := Lib.hid hF2
  have HF := Lib.hid hF
  have HFF := Lib.hid hf
  have HOO := Lib.hid ho
  have HFL := Lib.hid hfl
  obtain ⟨m, hm⟩ : ∃ m, pend.length = m := ⟨_, rfl⟩
  obtain ⟨n, hn'⟩ : ∃ n, x.length = n := ⟨_, rfl⟩
  rw [hm] at h2 hpl hps hc2 HF2 HBL
  rw [hn'] at hg hn hc HF
  rw [hm, hn']
  have HM := Lib.hid hm
  have HN := Lib.hid hn'
  clear hblk hF2 hF hf ho hfl hm hn'
  obtain ⟨L, hL⟩ : ∃ L, (pend ++ x).length = L := ⟨_, rfl⟩
  have HL := Lib.hid hL
  clear hL
  have hcon : ∀ (W : World) (g : Nat), W.cell? ⟨g, 0, none⟩ = some (.slice A2 m c2) → W.cell? ⟨g, 1, none⟩ = some (.slice A n c) → Kd.C (Kd.int .u8) W A2 m pend → Kd.C (Kd.int .u8) W A n x →
      Calls Tryd.prog 55 #[.slice (some ⟨g, 0, none⟩) 2 2] W fun e w' => ∃ A3 c3, e = .returned (.slice A3 L c3) ∧ Fresh W w' (.slice A3 (pend ++ x).length c3) (pend ++ x) := fun W g q0 q1 q2 q3 => by
    have e1 := HM.out
    have e2 := HN.out
    subst e1
    subst e2
    refine (concat_two g A2 A c2 c pend x W q0 q1 q2 q3 (by omega)).mono fun e w' ⟨v, he, hf⟩ => ?_
    obtain ⟨A3, c3, ev⟩ := Kd.R_slice hf.1
    subst ev
    exact ⟨A3, c3, by rw [he, HL.out], hf⟩
  have hlook : ∀ (w3 : World) (A3 : Option Addr) (c3 : Nat), w.grownBy w3 (some p) → w3.heap[p]? = some (.cells #[.int .i64 (s + n), .int .i64 b, .slice A2 m c2] 78 (0, 0)) → Kd.F (Kd.int .u8) w3 (fun k => w.heap.size ≤ k ∧ U8 w3 k) A3 (pend ++ x).length (pend ++ x) ∧ (pend ++ x).length ≤ c3 →
      Calls Tryd.prog 54 #[.pointer (some ⟨p, 0, none⟩), .int .i64 (s - m), .slice A3 L c3] w3 fun e w' => e = .returned (.tuple #[]) ∧ w3.grownBy w' (some p) ∧ ScanAt w' p (s + n) (lookBad (s - m) b f o) (lookPend (pend ++ x) f o) (fun k => w.heap.size ≤ k) := fun w3 A3 c3 g1 g2 g3 => by
    have := look_any k p (s + n) b (s - m) f o (.slice A2 m c2) A3 c3 (pend ++ x) (fun k => w.heap.size ≤ k) W0 w3 hT (below_grown hB hp g1) hp g2 g3.1 g3.2 HFF.out HOO.out HFL.out (by omega) (by omega) (by have q1 := HM.out; have q2 := HN.out; rw [List.length_append]; omega)
    rw [HL.out] at this
    exact this
  have HLOOK := Lib.hid hlook
  clear hlook
  have HCON := Lib.hid hcon
  clear hcon
  have hstep : ∀ q : Nat, w.grownBy ((w.drewN q).setCell ⟨p, 0, none⟩ (.int .i64 (s + n))) (some p) := fun q => grown_set (grown_below (grown_self w p) (pw_below_drewN (Below.refl _ _) q)) 0 _
  have HST := Lib.hid hstep
  have hk2 : ∀ q : Nat, Kd.C (Kd.int .u8) ((w.drewN q).setCell ⟨p, 0, none⟩ (.int .i64 (s + n))) A2 m pend := fun q => Kd.F_now (F_other HBL.out (HST.out q) HF2.out)
  have hk3 : ∀ q : Nat, Kd.C (Kd.int .u8) ((w.drewN q).setCell ⟨p, 0, none⟩ (.int .i64 (s + n))) A n x := fun q => Kd.F_now (Kd.F_grown HF.out (HST.out q) (fun k hk e => hox k hk (by injection e)))
  have hk4 : ∀ q : Nat, ((w.drewN q).setCell ⟨p, 0, none⟩ (.int .i64 (s + n))).heap[p]? = some (.cells #[.int .i64 (s + n), .int .i64 b, .slice A2 m c2] 78 (0, 0)) := fun q => by simpa using blk_set (blk_drewN HBL.out q) 0 (.int .i64 (s + n))
  have hk5 : ∀ (q : Nat) (ob : Obj), (((w.drewN q).setCell ⟨p, 0, none⟩ (.int .i64 (s + n))).alloc ob).heap[w.heap.size]? = some ob := fun q ob => by
    have h_ := blk_new ((w.drewN q).setCell ⟨p, 0, none⟩ (.int .i64 (s + n))) ob
    rwa [show ((w.drewN q).setCell ⟨p, 0, none⟩ (.int .i64 (s + n))).heap.size = w.heap.size by simp [World.setCell]] at h_
  have HK5 := Lib.hid hk5
  have HK2 := Lib.hid hk2
  have HK3 := Lib.hid hk3
  have HK4 := Lib.hid hk4
  clear hstep hk2 hk3 hk4 hk5
  go_enter Tryd.func36, Tryd.ntmps36
  go_wp2
  go_quiet (fail)
  go_wp2_with (first
    | (go_at_call 55; (refine (HCON.out _ _ ?q0 ?q1 ?q2 ?q3).mono ?_); (case q0 => exact (blk_cell (HK5.out _ _) 0).trans rfl); (case q1 => exact (blk_cell (HK5.out _ _) 1).trans rfl); (case q2 => exact Kd.C_alloc (HK2.out _) _); (case q3 => exact Kd.C_alloc (HK3.out _) _); rintro e w3 ⟨A3, c3, rfl, hf3⟩; have HF3 := Lib.hid (feed_mid HBL.out (HST.out nq) (HK4.out nq) hf3); clear hf3)
    | (go_at_call 54; ((with_reducible refine (HLOOK.out _ _ _ HF3.out.2.1 HF3.out.2.2.1 (HF3.out.2.2.2 _ _ rfl)).mono ?_); rintro e w4 ⟨rfl, hg4, hs4⟩; have HG4 := Lib.hid (grown_trans2 HF3.out.2.1 hg4); have HS4 := Lib.hid hs4; clear hg4 hs4)))
  go_ret
  exact ⟨rfl, HG4.out, HS4.out⟩
end Go.Proofs.YtjlhehaagaaihaaDoor.P
-- Ge
namespace Go.Proofs.YtjlhehaagaaihaaDoor.P
open Go.RowKit Go.Lib Go.Proofs.YtjlhehaagaaihaaDoorW.PrintWords Go.Proofs.YtjlhehaagaaihaaDoorW.PrintLast Go.Proofs.YtjlhehaagaaihaaDoorW.PrintMore
attribute [local go_sem] max2_int min2_int max_two min_two max_three min_three max_four min_four
set_option linter.unusedVariables false
set_option linter.unusedSimpArgs false

/-- A block of bytes reads as them. -/
theorem F_block {w : World} {g : Nat} {l : List Int} {n : Nat} (h : w.heap[g]? = some (.cells (l.map (Value.int .u8)).toArray 5 (0, 0))) (hn : n = l.length) (hl : l.length ≤ 1000) : Kd.F (Kd.int .u8) w (fun k => k = g) (some ⟨g, 0, none⟩) n l := by
  subst hn
  intro W' hW
  have h' := (hW g rfl (blk_lt h)).trans h
  refine Kd.C_of_reads (d := (0 : Int)) (h1 := fun _ => rfl) ⟨rfl, by omega, fun _ => ⟨_, rfl, fun j hj => ?_⟩⟩
  have := blk_cell h' j
  have e : (⟨g, 0, none⟩ : Addr).add j = ⟨g, j, none⟩ := by
    simp only [Addr.add, Nat.zero_add]
    split
    · rename_i h0; rw [h0]
    · rfl
  rw [e, this]
  simp [List.getD, hj]
theorem state_sl (p : Nat) (s b : Int) (pend : List Int) (L : Nat) (hL : pend.length = L) (ok : Nat → Prop) (w : World) (h : ScanAt w p s b pend ok) (hl : L ≤ 140737488351232) :
    Calls Tryd.prog 40 #[.pointer (some ⟨p, 0, none⟩)] w fun e w' => ∃ A c, e = .returned (.agg #[.int .i64 s, .int .i64 b, .slice A L c]) ∧ Fresh w w' (.slice A L c) pend := by
  subst hL
  refine (state_any p s b pend ok w h hl).mono fun e w' ⟨v, he, hf⟩ => ?_
  obtain ⟨A, c, ev⟩ := Kd.R_slice hf.1
  subst ev
  exact ⟨A, c, he, hf⟩
theorem run_fld0 (a b : Int) (A : Option Addr) (L c : Nat) (w : World) : (Instr.field 59 (.agg #[.int .i64 a, .int .i64 b, .slice A L c]) 0).run Tryd.prog w = .ok (.int .i64 a) w := by kernel_rfl
theorem run_fld1 (a b : Int) (A : Option Addr) (L c : Nat) (w : World) : (Instr.field 59 (.agg #[.int .i64 a, .int .i64 b, .slice A L c]) 1).run Tryd.prog w = .ok (.int .i64 b) w := by kernel_rfl
theorem run_fld2 (a b : Int) (A : Option Addr) (L c : Nat) (w : World) : (Instr.field 59 (.agg #[.int .i64 a, .int .i64 b, .slice A L c]) 2).run Tryd.prog w = .ok (.slice A L c) w := by kernel_rfl
attribute [local go_sem] run_fld0 run_fld1 run_fld2
theorem end_is (p : Nat) (s b : Int) (A : Option Addr) (n c : Nat) (r : Int) (hr : endOf s b n = r) (w : World) (h : w.heap[p]? = some (.cells #[.int .i64 s, .int .i64 b, .slice A n c] 78 (0, 0))) (hs : 0 ≤ s) (hs' : s ≤ 1099511627776) (hn : n ≤ 1099511627776) :
    Calls Tryd.prog 39 #[.pointer (some ⟨p, 0, none⟩)] w fun e w' => e = .returned (.int .i64 r) ∧ ∃ n, w' = w.drewN n := hr ▸ end_any p s b A n c w h hs hs' hn
theorem fault_65_195 : code_Fault.f 10 ([] ++ [65, 195]) = some 1 := by decide +kernel
theorem open_195 : scan_Open.f [195] = some true := by decide +kernel
theorem open_224_160 : scan_Open.f [224, 160] = some true := by decide +kernel
theorem open_224_159 : scan_Open.f [224, 159] = some false := by decide +kernel

set_option maxHeartbeats 1000000 in
set_option maxRecDepth 100000 in
theorem scan_awake_any (w : World) (hT : Tabs w) : Calls Tryd.prog 33 #[] w fun e w' => e = .returned (.bool true) ∧ Below w.heap.size w w' := by
  have hu59 := Tryd.underlying59
  have hu78 := Tryd.underlying78
  have hp : Below w.heap.size w (w.alloc (.cells #[.int .i64 0, .int .i64 (-1), .slice none 0 0] 78)) := (Below.refl _ _).alloc (Nat.le_refl _) _
  have hs0 := ScanAt.new w 0 (-1) (fun _ => False)
  have hfeed : ∀ W1 : World, W1 = (w.alloc (.cells #[.int .i64 0, .int .i64 (-1), .slice none 0 0] 78)).alloc (.cells #[.int .u8 65, .int .u8 195] 5) → Calls Tryd.prog 36 #[.pointer (some ⟨w.heap.size, 0, none⟩), .slice (some ⟨w.heap.size + 1, 0, none⟩) 2 2] W1 fun e w' => e = .returned (.int .i64 0) ∧ Below w.heap.size w w' ∧ w.heap.size < w'.heap.size ∧ ScanAt w' w.heap.size 2 (-1) [195] (fun k => True) := fun W1 hW => by
    subst hW
    have hB : Below w.heap.size w ((w.alloc (.cells #[.int .i64 0, .int .i64 (-1), .slice none 0 0] 78)).alloc (.cells #[.int .u8 65, .int .u8 195] 5)) := hp.alloc hp.size _
    have hblk : ((w.alloc (.cells #[.int .i64 0, .int .i64 (-1), .slice none 0 0] 78)).alloc (.cells #[.int .u8 65, .int .u8 195] 5)).heap[w.heap.size + 1]? = some (.cells ([65, 195].map (Value.int .u8)).toArray 5 (0, 0)) := by
      have := blk_new (w.alloc (.cells #[.int .i64 0, .int .i64 (-1), .slice none 0 0] 78)) (.cells #[.int .u8 65, .int .u8 195] 5)
      simpa using this
    have := feed_good 10 w.heap.size 0 (-1) 1 true [] [65, 195] (fun _ => False) (fun k => k = w.heap.size + 1) (some ⟨w.heap.size + 1, 0, none⟩) 2 w _ hT hB (Nat.le_refl _) (hs0.below ((Below.refl _ _).alloc (Nat.le_refl _) _)) (F_block hblk rfl (by decide)) (fun k hk => by omega) (by decide) (by decide) (by decide) (by decide) (by decide) (by decide) (by decide) fault_65_195 (fun _ => open_195) (by decide)
    refine this.mono fun e w' ⟨he, hg, hs⟩ => ⟨he, below_grown hB (Nat.le_refl _) hg, Nat.lt_of_lt_of_le (by simp; omega) hg.size, hs.mono (fun _ _ => trivial)⟩
  have HFEED := Lib.hid hfeed
  clear hfeed hs0 hp
  have hop : ∀ (W : World) (x y : Int) (o : Bool), scan_Open.f [x, y] = some o → Below w.heap.size w W → Calls Tryd.prog 31 #[.slice (some ⟨W.heap.size, 0, none⟩) 2 2] (W.alloc (.cells #[.int .u8 x, .int .u8 y] 5)) fun e w' => e = .returned (.bool o) ∧ Below w.heap.size w w' := fun W x y o ho hB => by
    have hb1 : Below w.heap.size w (W.alloc (.cells #[.int .u8 x, .int .u8 y] 5)) := hB.alloc hB.size _
    have hblk : (W.alloc (.cells #[.int .u8 x, .int .u8 y] 5)).heap[W.heap.size]? = some (.cells ([x, y].map (Value.int .u8)).toArray 5 (0, 0)) := blk_new W _
    exact (scan_Open.calls (some ⟨W.heap.size, 0, none⟩) 2 [x, y] o _ ⟨hT.below hb1⟩ (Kd.F_now (F_block (n := 2) hblk rfl (show [x, y].length ≤ 1000 from (by simp)))) (Nat.le_refl _) ho).mono fun e w' ⟨he, hb⟩ => ⟨he, below_step hb1 hb⟩
  have HOP := Lib.hid hop
  clear hop
  go_enter Tryd.func33, Tryd.ntmps33
  go_wp2_with (first
    | (go_at_call 34; ((with_reducible refine (new_any _).mono ?_); rintro e w1 ⟨rfl, rfl⟩))
    | (go_at_call 36; ((with_reducible refine (HFEED.out _ rfl).mono ?_); rintro e w2 ⟨rfl, hb2, hz2, hs2⟩; have HB2 := Lib.hid hb2; have HS2 := Lib.hid hs2; clear hb2 hs2; (obtain ⟨A2, c2, hk2, hc2, hF2⟩ := HS2.out); have HK2 := Lib.hid hk2; clear hk2 hc2 hF2))
    | (go_at_call 38; ((with_reducible refine (fault_any _ _ _ _ _ HK2.out).mono ?_); rintro e w3 ⟨rfl, rfl⟩))
    | (go_at_call 39; ((with_reducible refine (end_is _ _ _ _ _ _ 1 rfl _ HK2.out (by decide) (by decide) (by decide)).mono ?_); rintro e w3 ⟨rfl, n3, rfl⟩))
    | (go_at_call 40; ((with_reducible refine (state_sl _ _ _ _ 1 rfl _ _ (HS2.out.below (pw_below_drewN (Below.refl _ _) _)) (by decide)).mono ?_); rintro e w4 ⟨A4, c4, rfl, hf4⟩; have HB4 := Lib.hid (below_step (pw_below_drewN HB2.out _) hf4.2); have hcv : Sem.run Tryd.prog (convert 23 9 (.slice A4 1 c4)) w4 = Result.ok (Value.string ⟨#[195]⟩) w4 := own_string (P := Tryd.prog) Tryd.underlying23 Tryd.underlying5 Tryd.underlying9 (Kd.own_of_R hf4.1); clear hf4))
    | (go_at_call 31; ((with_reducible refine (HOP.out _ _ _ _ open_224_160 HB4.out).mono ?_); rintro e w5 ⟨rfl, hb5⟩; have HB5 := Lib.hid hb5; clear hb5))
    | (go_at_call 31; ((with_reducible refine (HOP.out _ _ _ _ open_224_159 HB5.out).mono ?_); rintro e w6 ⟨rfl, hb6⟩; have HB6 := Lib.hid hb6; clear hb6)))
  go_ret
  exact ⟨rfl, HB6.out⟩
end Go.Proofs.YtjlhehaagaaihaaDoor.P
