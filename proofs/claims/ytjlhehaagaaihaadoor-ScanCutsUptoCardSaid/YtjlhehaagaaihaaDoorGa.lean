/- slices.Clone, slices.Grow and slices.Concat over bytes: their calls come to rows of bytes of the call's own. No condition. -/
import Derived.Test.YtjlhehaagaaihaaDoorEd
import Derived.WalkSpells
namespace Go.Proofs.YtjlhehaagaaihaaDoor.P
open Go.RowKit Go.Lib Go.Proofs.YtjlhehaagaaihaaDoorW.PrintWords Go.Proofs.YtjlhehaagaaihaaDoorW.PrintLast Go.Proofs.YtjlhehaagaaihaaDoorW.PrintMore
attribute [local go_sem] max2_int min2_int max_two min_two max_three min_three max_four min_four
set_option linter.unusedVariables false
set_option linter.unusedSimpArgs false

/-- A fresh row of bytes. -/
def Fresh (w w' : World) (v : Value) (xs : List Int) : Prop := Kd.R (Kd.int .u8) 5 w' w.heap.size (fun _ => True) v xs ∧ Below w.heap.size w w'

set_option maxHeartbeats 1000000 in
set_option maxRecDepth 100000 in
theorem clone_any (A0 : Option Addr) (c0 : Nat) (l0 : List Int) (w : World) (hr0 : Kd.C (Kd.int .u8) w A0 l0.length l0) (hc0 : l0.length ≤ c0) (hl : l0.length ≤ 140737488351232) :
    Calls Tryd.prog 57 #[.slice A0 l0.length c0] w fun e w' => ∃ v0_ : Value, e = .returned v0_ ∧ Fresh w w' v0_ l0 := by
  cases A0 with
  | none =>
    have hn : l0.length = 0 := by
      have := (Kd.reads_of_C (d := (0 : Int)) hr0).2.2
      by_cases h : 0 < l0.length
      · obtain ⟨ad, e, _⟩ := this h; cases e
      · omega
    have hnil : l0 = [] := List.eq_nil_of_length_eq_zero hn
    subst hnil
    clear hr0 hc0 hl hn
    have heq := fun W : World => Lib.run_eql_slice_nil (P := Tryd.prog) W 23 5 none 0 c0 0 0 Tryd.underlying23
    go_enter Tryd.func57, Tryd.ntmps57
    go_wp2
    go_ret
    exact ⟨_, rfl, Kd.R_nil _ _ _ _ _, Below.refl _ _⟩
  | some ad =>
    have HR := Lib.hid hr0
    clear hr0
    have HB0 := Aside0.mk (Below.refl w.heap.size w)
    have heq := fun W : World => Lib.run_eql_slice_nil (P := Tryd.prog) W 23 5 (some ad) l0.length c0 0 0 Tryd.underlying23
    go_enter Tryd.func57, Tryd.ntmps57
    go_wp2_with (first
      | ((with_reducible refine gate_dst (N := 5) rfl ?_); refine Kd.R_lit (Kd.int .u8) (w0 := w) w.heap.size 5 ?hg (N := 5) ?hd (xs := ([] : List Int)) (inner := []) (ok := fun _ => True) (okp := fun _ => True) ?hr ?hp (fun _ hk => hk) trivial (Below.refl _ _) (Nat.le_refl _) (by simp) ?_; (case hd => rfl); (case hg => rfl); (case hr => first | (go_simp; done) | (go_simp; rfl)); (case hp => exact (Reps.none _ _)); intro v1 w1 ho1 hb1 hg1 hn1; have HO1 := Lib.hid ho1; have HB1 := Lib.hid hb1; clear ho1 hb1 hg1 hn1)
      | ((with_reducible refine gate_builtin (b := .append) (xs := #[.tmp 5, .tmp 6]) rfl ?_); at_builtin; refine Kd.R_append_rows (Kd.int .u8) (w0 := w) w.heap.size rfl (.tmp 5) (.tmp 6) 23 5 (.int .u8 0) 1 rfl Tryd.underlying23 info5 rfl (by decide) (by omega) v1 [] l0 _ _ _ (fun _ => True) (fun _ => False) rfl rfl ?aO ?aR (fun _ _ h => h) (fun _ h => h.elim) ?aF ?aB ?aS ?aL ?_; (case aR => exact Kd.C_below HR.out HB1.out); (case aB => exact HB1.out); (case aF => exact (fun _ _ => trivial)); (case aO => exact HO1.out); (case aS => exact HB1.out.size); (case aL => simp; omega); intro v2 w2 ho2 hb2 hg2 hn2; have HO2 := Lib.hid ho2; have HB2 := Lib.hid hb2; clear ho2 hb2 hg2 hn2))
    go_ret
    exact ⟨_, rfl, HO2.out, HB2.out⟩

theorem R_head {w : World} {base : Nat} {ok : Nat → Prop} {A : Option Addr} {n c : Nat} {xs : List Int} (h : Kd.R (Kd.int .u8) 5 w base ok (.slice A n c) xs) : Kd.R (Kd.int .u8) 5 w base ok (.slice A 0 c) [] := by
  obtain ⟨h0, inner, ho, hr⟩ := h
  refine ⟨fun k hk => h0 k (by cases A <;> exact hk), [], ⟨by simp, ?_⟩, Reps.none _ _⟩
  rcases ho.2 with ⟨e, _⟩ | ⟨g, cap, cur, e, h1, h2, h3, h4, h5, h6⟩
  · injection e with e1 e2 e3
    subst e1; subst e3
    exact .inl ⟨rfl, rfl⟩
  · injection e with e1 e2 e3
    subst e1; subst e3
    exact .inr ⟨g, c, cur, rfl, h1, h2, Nat.zero_le _, h4, h5, by simp⟩
set_option maxHeartbeats 1000000 in
set_option maxRecDepth 100000 in
theorem grow_nil (n : Nat) (w : World) (hl : n ≤ 140737488351232) :
    Calls Tryd.prog 62 #[.slice none 0 0, .int .i64 (n : Int)] w fun e w' => ∃ v0_ : Value, e = .returned v0_ ∧ Fresh w w' v0_ [] := by
  by_cases h0 : n = 0
  · subst h0
    go_enter Tryd.func62, Tryd.ntmps62
    go_wp2
    go_ret
    exact ⟨_, rfl, Kd.R_nil _ _ _ _ _, Below.refl _ _⟩
  · have hp : (0 : Int) < (n : Int) := by omega
    have hnn : ¬ ((n : Int) < 0) := by omega
    go_enter Tryd.func62, Tryd.ntmps62
    go_wp2_with (first
      | ((with_reducible refine gate_builtin (b := .append) (xs := #[.tmp 20, .tmp 21]) rfl ?_); at_builtin; refine Kd.R_append_zeros (Kd.int .u8) (w0 := w) w.heap.size rfl (.tmp 20) (.tmp 21) 23 3 5 (.int .u8 0) 1 rfl Tryd.underlying23 Tryd.underlying3 info5 rfl (by decide) (by omega) (.slice none 0 0) [] (0 : Int) (n : Int) (fun _ => True) rfl rfl rfl (fun _ _ => trivial) (Kd.R_nil _ _ _ _ _) (by omega) (Below.refl _ _) (Nat.le_refl _) (by simp; omega) ?_; intro v2 w2 ho2 hb2 hg2 hn2; obtain ⟨A2, c2, eo2⟩ := Kd.R_slice ho2; subst eo2; (obtain ⟨N2, hN2⟩ : ∃ N2, ([] ++ List.replicate (n : Int).toNat (0 : Int)).length = N2 := ⟨_, rfl⟩); rw [hN2] at ho2; (try rw [hN2]); have hcut2 : ∀ W : World, (Instr.slice 23 (.slice A2 N2 c2) none (some (.int .i64 0)) none).run Tryd.prog W = .ok (.slice A2 0 c2) W := (have h_ := ho2.2; by obtain ⟨i07, hi07, _, hsz7, _⟩ := info_parts info5; exact cut_to (P := Tryd.prog) 23 5 .i64 Tryd.underlying23 hi07 A2 N2 c2 0 (by omega) (by omega) (by obtain ⟨inner, ho_, _⟩ := h_; rw [hN2] at ho_; rcases ho_.2 with ⟨e, e'⟩ | ⟨g, cap, cur, e, _, _, h3, _⟩ <;> (injection e with e1 e2 e3; omega))); have HO2 := Lib.hid (R_head ho2); have HB2 := Lib.hid hb2; clear ho2 hb2 hg2 hn2 hN2))
    go_ret
    exact ⟨_, rfl, HO2.out, HB2.out⟩

set_option maxHeartbeats 2000000 in
set_option maxRecDepth 100000 in
/-- Two slices of bytes, one behind the other, as a row of its own. -/
theorem concat_two (g : Nat) (A1 A2 : Option Addr) (c1 c2 : Nat) (l1 l2 : List Int) (w : World) (hg0 : w.cell? ⟨g, 0, none⟩ = some (.slice A1 l1.length c1)) (hg1 : w.cell? ⟨g, 1, none⟩ = some (.slice A2 l2.length c2))
    (hr1 : Kd.C (Kd.int .u8) w A1 l1.length l1) (hr2 : Kd.C (Kd.int .u8) w A2 l2.length l2) (hl : l1.length + l2.length ≤ 140737488351232) :
    Calls Tryd.prog 55 #[.slice (some ⟨g, 0, none⟩) 2 2] w fun e w' => ∃ v0_ : Value, e = .returned v0_ ∧ Fresh w w' v0_ (l1 ++ l2) := by
  have hlt := block_lt_of_cell hg0
  have HG0 := Lib.hid hg0
  have HG1 := Lib.hid hg1
  have HR1 := Lib.hid hr1
  have HR2 := Lib.hid hr2
  clear hr1 hr2
  obtain ⟨n1, hn1⟩ : ∃ n1, l1.length = n1 := ⟨_, rfl⟩
  obtain ⟨n2, hn2⟩ : ∃ n2, l2.length = n2 := ⟨_, rfl⟩
  rw [hn1] at hg0 hl HR1 HG0
  rw [hn2] at hg1 hl HR2 HG1
  have HN1 := Lib.hid hn1
  have HN2 := Lib.hid hn2
  clear hn1 hn2
  go_enter Tryd.func55, Tryd.ntmps55
  go_wp2
  have cG : Calls Tryd.prog 62 #[.slice none 0 0, .int .i64 ((n1 : Int) + (n2 : Int))] w fun e w' => ∃ v0_ : Value, e = .returned v0_ ∧ Fresh w w' v0_ [] := by
    have := grow_nil (n1 + n2) w hl
    rw [Int.natCast_add] at this
    exact this
  have CG := Lib.hid cG
  clear cG
  go_loopg [3, 5, 11] 3 (fun gk s3 s5 s11 wx => wx = w ∧ (gk = 3 ∧ s11 = .int .i64 0 ∧ s3 = .int .i64 0 ∨ gk = 2 ∧ s11 = .int .i64 1 ∧ s3 = .int .i64 (n1 : Int) ∨ gk = 1 ∧ s11 = .int .i64 2 ∧ s3 = .int .i64 ((n1 : Int) + (n2 : Int))))
  case atStart => exact ⟨rfl, .inl ⟨rfl, rfl, rfl⟩⟩
  case round =>
    obtain ⟨rfl, hrel⟩ := hrel
    rcases hrel with ⟨hgk, rfl, rfl⟩ | ⟨hgk, rfl, rfl⟩ | ⟨hgk, rfl, rfl⟩
    · go_wp2
      go_roundg 2
      case measure => omega
      case rel => exact ⟨rfl, .inr (.inl ⟨rfl, rfl, rfl⟩)⟩
    · go_wp2
      go_roundg 1
      case measure => omega
      case rel => exact ⟨rfl, .inr (.inr ⟨rfl, rfl, rfl⟩)⟩
    · clear hg0 hg1
      go_wp2_with (go_at_call 62; ((with_reducible refine CG.out.mono ?_); rintro e w1 ⟨v1, rfl, ho1, hb1⟩; have HO1 := Lib.hid ho1; have HB1 := Lib.hid hb1; clear ho1 hb1))
      obtain ⟨wo, rfl⟩ : ∃ wo : World, wo = wr := ⟨_, rfl⟩
      go_loopg [6, 8, 27] 3 (fun gk s6 s8 s27 wx => Aside0 (Below wo.heap.size wo wx) ∧ (gk = 3 ∧ s27 = .int .i64 0 ∧ Aside0 (Kd.R (Kd.int .u8) 5 wx wo.heap.size (fun _ => True) s6 []) ∨ gk = 2 ∧ s27 = .int .i64 1 ∧ Aside0 (Kd.R (Kd.int .u8) 5 wx wo.heap.size (fun _ => True) s6 l1) ∨ gk = 1 ∧ s27 = .int .i64 2 ∧ Aside0 (Kd.R (Kd.int .u8) 5 wx wo.heap.size (fun _ => True) s6 (l1 ++ l2))))
      case atStart => exact ⟨⟨HB1.out⟩, .inl ⟨rfl, rfl, ⟨HO1.out⟩⟩⟩
      case round =>
        obtain ⟨HB, hrel⟩ := hrel
        clear HB1 HO1
        rcases hrel with ⟨hgk, rfl, HO⟩ | ⟨hgk, rfl, HO⟩ | ⟨hgk, rfl, HO⟩
        · have hq := pw_cell_below HB.out HG0.out
          go_wp2_with (first | ((with_reducible refine gate_builtin (b := .append) (xs := #[.tmp 31, .tmp 32]) rfl ?_); at_builtin; refine Kd.R_append_rows (Kd.int .u8) (w0 := wo) wo.heap.size rfl (.tmp 31) (.tmp 32) 23 5 (.int .u8 0) 1 rfl Tryd.underlying23 info5 rfl (by decide) (by omega) u6 [] l1 _ _ _ (fun _ => True) (fun _ => False) rfl rfl ?aO ?aR (fun _ _ h => h) (fun _ h => h.elim) ?aF ?aB ?aS ?aL ?_; (case aR => exact Kd.C_below HR1.out HB.out); (case aB => exact HB.out); (case aF => exact (fun _ _ => trivial)); (case aO => exact HO.out); (case aS => exact HB.out.size); (case aL => have q1 := HN1.out; have q2 := HN2.out; simp; omega); intro v2 w2 ho2 hb2 hg2 hn2; have HO2 := Lib.hid ho2; have HB2 := Lib.hid hb2; clear ho2 hb2 hg2 hn2))
          go_roundg 2
          case measure => omega
          case rel => exact ⟨⟨HB2.out⟩, .inr (.inl ⟨rfl, rfl, ⟨HO2.out⟩⟩)⟩
        · have hq := pw_cell_below HB.out HG1.out
          go_wp2_with (first | ((with_reducible refine gate_builtin (b := .append) (xs := #[.tmp 31, .tmp 32]) rfl ?_); at_builtin; refine Kd.R_append_rows (Kd.int .u8) (w0 := wo) wo.heap.size rfl (.tmp 31) (.tmp 32) 23 5 (.int .u8 0) 1 rfl Tryd.underlying23 info5 rfl (by decide) (by omega) u6 l1 l2 _ _ _ (fun _ => True) (fun _ => False) rfl rfl ?aO ?aR (fun _ _ h => h) (fun _ h => h.elim) ?aF ?aB ?aS ?aL ?_; (case aR => exact Kd.C_below HR2.out HB.out); (case aB => exact HB.out); (case aF => exact (fun _ _ => trivial)); (case aO => exact HO.out); (case aS => exact HB.out.size); (case aL => have q1 := HN1.out; have q2 := HN2.out; simp; omega); intro v2 w2 ho2 hb2 hg2 hn2; have HO2 := Lib.hid ho2; have HB2 := Lib.hid hb2; clear ho2 hb2 hg2 hn2))
          go_roundg 1
          case measure => omega
          case rel => exact ⟨⟨HB2.out⟩, .inr (.inr ⟨rfl, rfl, ⟨HO2.out⟩⟩)⟩
        · go_wp2
          go_ret
          exact ⟨_, rfl, HO.out, HB.out⟩
end Go.Proofs.YtjlhehaagaaihaaDoor.P
