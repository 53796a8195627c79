/- Functions of the translated program as plain Lean functions, and proofs that their calls come to these. Written by a program of the session. No condition. -/
import Derived.Test.YtejbkjbldmaodaaPx0
import Derived.Test.YtejbkjbldmaodaaPx1
import Derived.Test.YtejbkjbldmaodaaEc
namespace Go.Proofs.Ytejbkjbldmaodaa.P
open Go.RowKit Go.Proofs.YtejbkjbldmaodaaW.PrintWords Go.Proofs.YtejbkjbldmaodaaW.PrintLast Go.Proofs.YtejbkjbldmaodaaW.PrintMore
attribute [local go_sem] max2_int min2_int max_two min_two max_three min_three max_four min_four   -- for this text's walks alone
set_option linter.unusedVariables false
set_option linter.unusedSimpArgs false

/-! ### pack_Texts: function 20 -/
def pack_Texts.l0 : Nat → List (List Int) → List ByteArray → Int → Int → Option (List Int × Int)
  | 0, _, _, _, _ => none
  | k + 1, x4, x10, x11, x12 => if x12 < x11 then (if 0 ≤ x12 then (if x12 < (x10.length : Int) then ((conv_bytes.f (rdOf ByteArray.empty x10 x12)).bind fun t317 => (if x12 < (x4.length : Int) then (pack_Texts.l0 k (x4.set (x12 : Int).toNat t317) x10 x11 (wrap64 (x12 + 1))) else (none))) else (none)) else (none)) else ((pack_Pack.f k x4).bind fun bt321 => (some (bt321.1, bt321.2)))
def pack_Texts.f (k : Nat) (l0 : List ByteArray) : Option (List Int × Int) := if 0 ≤ (l0.length : Int) then (if ((l0.length : Int) : Int).toNat ≤ 11728124029610 then (pack_Texts.l0 k (List.replicate ((l0.length : Int) : Int).toNat []) l0 (l0.length : Int) 0) else (none)) else (none)
theorem pack_Texts.mono_l : ∀ k, (∀ y0 y1 y2 y3, LeO (pack_Texts.l0 k y0 y1 y2 y3) (pack_Texts.l0 (k + 1) y0 y1 y2 y3))
  | 0 => fun _ _ _ _ r h => by simp [pack_Texts.l0] at h
  | k + 1 => by
    have ih0 := pack_Texts.mono_l k
    · intro y0 y1 y2 y3
      unfold pack_Texts.l0
      repeat' first
      | (with_reducible exact ih0 _ _ _ _)
      | (with_reducible exact pack_Pack.mono _ _)
      | (with_reducible exact LeO.refl _)
      | (with_reducible exact LeO.none _)
      | (with_reducible refine LeO.ite ?_ ?_)
      | (with_reducible refine LeO.bind ?_ (fun _ => ?_))
      | exact ih0 _ _ _ _
      | exact pack_Pack.mono _ _
      | exact LeO.none _
      | refine LeO.ite ?_ ?_
      | refine LeO.bind ?_ (fun _ => ?_)
theorem pack_Texts.mono : ∀ a0 k, LeO (pack_Texts.f k a0) (pack_Texts.f (k + 1) a0) := by
  intro a0 k
  have ih0 := pack_Texts.mono_l k
  unfold pack_Texts.f
  repeat' first
      | (with_reducible exact ih0 _ _ _ _)
      | (with_reducible exact pack_Pack.mono _ _)
      | (with_reducible exact LeO.refl _)
      | (with_reducible exact LeO.none _)
      | (with_reducible refine LeO.ite ?_ ?_)
      | (with_reducible refine LeO.bind ?_ (fun _ => ?_))
      | exact ih0 _ _ _ _
      | exact pack_Pack.mono _ _
      | exact LeO.none _
      | refine LeO.ite ?_ ?_
      | refine LeO.bind ?_ (fun _ => ?_)
set_option maxHeartbeats 8000000 in
set_option maxRecDepth 100000 in
theorem pack_Texts.calls (k : Nat) (A0 : Option Addr) (c0 : Nat) (l0 : List ByteArray) (r1 : List Int) (r2 : Int) (w : World) (hr0 : Kd.C Kd.string w A0 l0.length l0) (hc0 : l0.length ≤ c0) (h : pack_Texts.f k l0 = some (r1, r2)) :
    Calls Try.prog 20 #[.slice A0 l0.length c0] w fun e w' => ∃ v0_ : Value, e = .returned (.tuple #[v0_, .int .i64 r2]) ∧ Kd.R (Kd.int .u8) 5 w' w.heap.size (fun _ => True) v0_ r1 ∧ Below w.heap.size w w' := by
  have HR0 := Aside0.mk hr0
  have HC0 := Aside0.mk hc0
  clear hr0 hc0
  have HB := Aside0.mk (Below.refl w.heap.size w)
  have H : (if 0 ≤ (l0.length : Int) then (if ((l0.length : Int) : Int).toNat ≤ 11728124029610 then (pack_Texts.l0 k (List.replicate ((l0.length : Int) : Int).toNat []) l0 (l0.length : Int) 0) else (none)) else (none)) = some (r1, r2) := h
  clear h
  by_cases c2 : 0 ≤ (l0.length : Int)
  · rw [if_pos c2] at H
    have c2b0 := eq_true c2
    have c2b1 : decide (0 ≤ (l0.length : Int)) = true := decide_eq_true c2
    clear c2
    by_cases c3 : ((l0.length : Int) : Int).toNat ≤ 11728124029610
    · rw [if_pos c3] at H
      have c3b0 := eq_true c3
      have c3b1 : decide (((l0.length : Int) : Int).toNat ≤ 11728124029610) = true := decide_eq_true c3
      clear c3
      obtain ⟨y313, hy313⟩ : ∃ y_ : List (List Int), y_ = (List.replicate ((l0.length : Int) : Int).toNat []) := ⟨_, rfl⟩
      replace H : (pack_Texts.l0 k y313 l0 (l0.length : Int) 0) = some (r1, r2) := by first | (rw [hy313]; with_reducible exact H) | (have H2_ := (Option.bind_some _ _).symm.trans H; rw [hy313]; with_reducible exact H2_) | (have H2_ := (Option.bind_some _ _).symm.trans H; with_reducible exact H2_) | with_reducible exact H | (rw [hy313]; exact H) | exact H
      have Ny313 := Aside0.mk hy313
      clear hy313
      have H' := Aside0.mk H
      clear H
      go_enter Try.func20, Try.ntmps20
      go_wp2_with (first | ((with_reducible refine gate_dst (N := 9) rfl ?_); refine Kd.N_make (Kd.slice 5 (Kd.int .u8)) _ 23 rfl (N' := 9) rfl 22 _ _ rfl (l0.length : Int) rfl rfl Try.underlying22 (.slice none 0 0) 24 info23 rfl (by decide) (by omega) [] (ok := fun k_ => w.heap.size ≤ k_) (okp := fun _ => False) (Kd.FK_slice_mk (Nat.le_refl _) (Kd.F_nil _ _ _)) (fun _ hk => hk.elim) (Nat.le_refl _) (of_decide_eq_true (by first | (with_reducible assumption) | assumption)) (Nat.le_trans (Nat.mul_le_mul_right _ (of_decide_eq_true (by first | (with_reducible assumption) | assumption) : (l0.length : Int).toNat ≤ 11728124029610)) (by omega)) (Below.refl _ _) (Nat.le_refl _) ?_; intro v314 w4 ho5 hb hg_ hnew_; clear hg_ hnew_; (first | rw [← Ny313.out] at ho5 | (simp only [Int.reduceToNat] at ho5; rw [← Ny313.out] at ho5)); have n0_ := Aside0.mk (Kd.N_lower (Kd.N_mono (ok' := fun k_ => True) ho5 (fun k_ hk_ => trivial)) (below_size (by repeat (first | (with_reducible first | exact HB.out | apply below_alloc | apply pw_below_drewN | apply below_drew1) | exact HB.out)))); have n1_ := Aside0.mk (below_step (by repeat (first | (with_reducible first | exact HB.out | apply below_alloc | apply pw_below_drewN | apply below_drew1) | exact HB.out)) hb); clear HB; have HO315 := n0_; have HB := n1_; clear n0_ n1_; clear hb ho5))
      go_loopg [12] k (fun kq v12 w' => ∃ (x4_1 : List (List Int)) (x12_1 : Int), v12 = .int .i64 x12_1 ∧ Aside0 (pack_Texts.l0 kq x4_1 l0 (l0.length : Int) x12_1 = some (r1, r2)) ∧ Aside0 (kq ≤ k) ∧ Aside0 (Kd.N (Kd.slice 5 (Kd.int .u8)) 23 w' w.heap.size (fun _ => True) v314 x4_1) ∧ Aside0 (Below w.heap.size w w'))
      case atStart => exact ⟨(y313), (0), (by first | rfl | (simp; done) | (simp [*]; done)), H', ⟨Nat.le_refl _⟩, ⟨by (with_reducible repeat (first | apply Kd.N_alloc | apply Kd.N_drewN | apply Kd.N_drew)); exact HO315.out⟩, ⟨by repeat (first | (with_reducible first | exact HB.out | apply below_alloc | apply pw_below_drewN | apply below_drew1) | exact HB.out)⟩⟩
      case round =>
        clear H'
        try clear c2
        try clear c2b0
        try clear c2b1
        try clear p2
        try clear c3
        try clear c3b0
        try clear c3b1
        obtain ⟨x4_1, x12_1, rfl, HA, HK1, HO_4, HB⟩ := hrel
        cases gk with
        | zero => exact absurd HA.out (by simp [pack_Texts.l0])
        | succ k1 =>
          have H := HA.out
          clear HA
          simp only [pack_Texts.l0] at H
          by_cases c6 : x12_1 < (l0.length : Int)
          · rw [if_pos c6] at H
            have c6b0 : decide (x12_1 < (l0.length : Int)) = true := decide_eq_true c6
            clear c6
            by_cases c7 : 0 ≤ x12_1
            · rw [if_pos c7] at H
              have c7b0 : decide (0 ≤ x12_1) = true := decide_eq_true c7
              clear c7
              by_cases c8 : x12_1 < (l0.length : Int)
              · rw [if_pos c8] at H
                have c8b0 : decide (x12_1 < (l0.length : Int)) = true := decide_eq_true c8
                clear c8
                replace H := Option.bind_eq_some_iff.mp H
                obtain ⟨t317, A90, H⟩ := H
                replace H : (if x12_1 < (x4_1.length : Int) then (pack_Texts.l0 k1 (x4_1.set (x12_1 : Int).toNat t317) l0 (l0.length : Int) (wrap64 (x12_1 + 1))) else (none)) = some (r1, r2) := H
                have A9 := Aside0.mk A90
                clear A90
                by_cases c10 : x12_1 < (x4_1.length : Int)
                · rw [if_pos c10] at H
                  have c10b0 : decide (x12_1 < (x4_1.length : Int)) = true := decide_eq_true c10
                  clear c10
                  obtain ⟨y320, hy320⟩ : ∃ y_ : List (List Int), y_ = (x4_1.set (x12_1 : Int).toNat t317) := ⟨_, rfl⟩
                  replace H : (pack_Texts.l0 k1 y320 l0 (l0.length : Int) (wrap64 (x12_1 + 1))) = some (r1, r2) := by first | (rw [hy320]; with_reducible exact H) | (have H2_ := (Option.bind_some _ _).symm.trans H; rw [hy320]; with_reducible exact H2_) | (have H2_ := (Option.bind_some _ _).symm.trans H; with_reducible exact H2_) | with_reducible exact H | (rw [hy320]; exact H) | exact H
                  have Ny320 := Aside0.mk hy320
                  clear hy320
                  have H' := Aside0.mk H
                  clear H
                  have p316 : 0 ≤ (x12_1 : Int) := of_decide_eq_true (by first | (with_reducible assumption) | assumption)
                  have q316 : x12_1 < (l0.length : Int) := of_decide_eq_true (by first | (with_reducible assumption) | assumption)
                  obtain ⟨ad316, e316, hx316_0⟩ := Kd.at_string HR0.out x12_1 p316 q316
                  cases e316
                  replace hx316_0 := (HB.out.cell (World.block_lt_of_cell? w _ hx316_0)).trans hx316_0
                  replace p316 := eq_true p316
                  replace q316 := eq_true q316
                  go_wp2_with (first | ((with_reducible refine gate_conv (s_ := 9) (d_ := 23) rfl ?_); refine goesC_ (some 20) rfl rfl 9 23 (.string (rdOf ByteArray.empty l0 x12_1)) rfl (by (try simp only [List.map_toArray, List.map_cons, List.map_nil]); first | done | rfl | (simp only [List.length_drop, List.length_take]; rfl)) ?_; (with_reducible refine (conv_bytes.calls (rdOf ByteArray.empty l0 x12_1) t317 _ A9.out).mono ?_); rintro e w12 ⟨v318, rfl, ho0, hb⟩; refine ⟨_, rfl, ?_⟩; have n0_ := Aside0.mk (Kd.N_below (by (with_reducible repeat (first | apply Kd.N_alloc | apply Kd.N_drewN | apply Kd.N_drew)); exact HO_4.out) hb); have n1_ := Aside0.mk (Kd.V_lower (Kd.V_mono (ok' := fun k_ => some k_ ≠ (v314 : Value).ownBlock) ho0 (fun k_ hk_ => (Kd.fresh' (Kd.N_lt (by (with_reducible repeat (first | apply Kd.N_alloc | apply Kd.N_drewN | apply Kd.N_drew)); exact HO_4.out)) k_ hk_))) (below_size (by repeat (first | (with_reducible first | exact HB.out | apply below_alloc | apply pw_below_drewN | apply below_drew1) | exact HB.out)))); have n2_ := Aside0.mk (below_step (by repeat (first | (with_reducible first | exact HB.out | apply below_alloc | apply pw_below_drewN | apply below_drew1) | exact HB.out)) hb); clear HO_4; clear HB; have HO_4 := n0_; have HO319 := n1_; have HB := n2_; clear n0_ n1_ n2_; (try clear hb); (try clear hb2); (try clear hk); (try clear hi); (try clear ho0); obtain ⟨Av318, cv318, ev318⟩ := Kd.V_slice HO319.out; subst ev318; have p11 : 0 ≤ (x12_1 : Int) := of_decide_eq_true (by first | (with_reducible assumption) | assumption); have q11 : (x12_1 : Int) < ((x4_1.length : Int) : Int) := of_decide_eq_true (by first | (with_reducible assumption) | assumption); obtain ⟨go11, co11, eo11, gb11, gl11, cl11, HG11⟩ := Kd.N_form HO_4.out (by omega); (first | cases eo11 | (injection eo11 with ea_ en_ ec_; (first | subst ea_ | (injection ea_ with ea_; subst ea_)); subst ec_; clear en_)); have GB11 := Aside0.mk gb11; have GG11 := Aside0.mk HG11; clear gb11 gl11 HG11; obtain ⟨ce11, hcl11, hM11, hcc11, hfr11⟩ := Kd.N_elem HO_4.out [] (x12_1 : Int) p11 q11; obtain ⟨ua11_0, uc11_0, rfl, ul11_0, ge11_0⟩ := Kd.FK_slice_open hM11; have hx11_0 := hcc11 0 _ rfl; have hf11_0 := hfr11 0; (try simp only [show ((Kd.slice 5 (Kd.int .u8))).sz = 1 from rfl, Nat.mul_one, Nat.add_zero] at hx11_0); (try simp only [show ((Kd.slice 5 (Kd.int .u8))).sz = 1 from rfl, Nat.mul_one, Nat.add_zero] at hf11_0); clear hcl11 hcc11 hfr11 hM11; replace p11 := eq_true p11; replace q11 := eq_true q11; have HX13 := Aside0.mk (show Kd.N (Kd.slice 5 (Kd.int .u8)) 23 w12 w.heap.size (fun _ => True) (.slice (some ⟨go11, 0, none⟩) x4_1.length co11) x4_1 from (by (with_reducible repeat (first | apply Kd.N_alloc | apply Kd.N_drewN | apply Kd.N_drew)); exact HO_4.out)); obtain ⟨ce13, hcl13, hM13, hcc13, hfr13⟩ := Kd.N_elem HX13.out [] (x12_1 : Int) (of_decide_eq_true (by first | (with_reducible assumption) | assumption)) (by have h_ : (x12_1 : Int) < ((x4_1.length : Int) : Int) := of_decide_eq_true (by first | (with_reducible assumption) | assumption); first | exact h_ | (have e_ := (Kd.N_reads' HO_4.out).1; omega) | simpa using h_); obtain ⟨ua13_0, uc13_0, rfl, ul13_0, ge13_0⟩ := Kd.FK_slice_open hM13; have HP13 := Kd.N_seg HX13.out (x12_1 : Int) (of_decide_eq_true (by first | (with_reducible assumption) | assumption)) (by have h_ : (x12_1 : Int) < ((x4_1.length : Int) : Int) := of_decide_eq_true (by first | (with_reducible assumption) | assumption); first | exact h_ | (have e_ := (Kd.N_reads' HO_4.out).1; omega) | simpa using h_) (seg := [(.slice Av318 t317.length cv318 : Value)]) (j := 0) hcl13 hcc13 (show 1 ≤ 1 from by decide) (x' := t317) (Kd.FK_slice_mk (Kd.V_reads' (Kd.V_mono (ok' := (fun k_ => ((fun _ => True)) k_ ∧ k_ ≠ go11)) (HO319.out) (fun k_ hk => ⟨trivial, fun e_ => (hk) (by rw [e_]; rfl)⟩))).2.1 (Kd.V_F (Kd.V_mono (ok' := (fun k_ => ((fun _ => True)) k_ ∧ k_ ≠ go11)) (HO319.out) (fun k_ hk => ⟨trivial, fun e_ => (hk) (by rw [e_]; rfl)⟩)))) (fun _ hk => hk); have hx13_0 := hcc13 0 _ rfl; (try simp only [show ((Kd.slice 5 (Kd.int .u8))).sz = 1 from rfl, Nat.mul_one, Nat.add_zero] at hx13_0); have hf13_0 := hfr13 0; (try simp only [show ((Kd.slice 5 (Kd.int .u8))).sz = 1 from rfl, Nat.mul_one, Nat.add_zero] at hf13_0); clear hcl13 hcc13 hfr13 hM13; (try simp only [show ((Kd.slice 5 (Kd.int .u8))).sz = 1 from rfl, Nat.mul_one, Nat.add_zero] at HP13); (try simp only [show ((Kd.slice 5 (Kd.int .u8))).sz = 1 from rfl, Nat.mul_one, Nat.add_zero] at HP13)) | ((with_reducible refine gate_store (t := 23) (p := 21) rfl ?_); refine store_event (t := 23) (p := 21) (v := ?vo_w14) (w1 := (w12.setCell ⟨go11, (x12_1 : Int).toNat, none⟩ ((.slice Av318 t317.length cv318 : Value)))) ?hg ?ho ?hn ?hr ?_; (case ho => rfl); (case hg => rfl); (case hn => rfl); (case hr => first | (go_simp; done) | (go_simp; rfl)); intro w14 hw; have hg : w12.grownBy w14 (some go11) := (by rw [hw]; exact HP13.2); have hp_ : Kd.N (Kd.slice 5 (Kd.int .u8)) 23 w14 w.heap.size (fun _ => True) (.slice (some ⟨go11, 0, none⟩) x4_1.length co11) y320 := (by rw [hw, Ny320.out]; exact HP13.1); clear HP13; have n0_ := Aside0.mk (hp_); have n1_ := Aside0.mk (Kd.V_afterv (v := (.slice (some ⟨go11, 0, none⟩) x4_1.length co11)) (v1 := (.slice (some ⟨go11, 0, none⟩) x4_1.length co11)) (ok := (fun _ => True)) (by (with_reducible repeat (first | apply Kd.V_alloc | apply Kd.V_drewN | apply Kd.V_drew)); exact Kd.V_mono HO319.out (fun _ hk => ⟨trivial, hk⟩)) hg (.inl rfl)); have n2_ := Aside0.mk ((by rw [hw]; exact below_set (HB.out) GB11.out : Below w.heap.size w w14)); clear HO_4; clear HO319; clear HB; have HO_4 := n0_; have HO319 := n1_; have HB := n2_; clear n0_ n1_ n2_; clear hg hw hp_))
                  go_roundg k1
                  case measure => have := HK1.out; omega
                  case rel => exact ⟨(y320), (wrap64 (x12_1 + 1)), (by first | rfl | (simp; done) | (simp [*]; done)), H', ⟨by have := HK1.out; omega⟩, ⟨by (with_reducible repeat (first | apply Kd.N_alloc | apply Kd.N_drewN | apply Kd.N_drew)); exact HO_4.out⟩, ⟨by repeat (first | (with_reducible first | exact HB.out | apply below_alloc | apply pw_below_drewN | apply below_drew1) | exact HB.out)⟩⟩
                · rw [if_neg c10] at H
                  exact absurd H (by simp)
              · rw [if_neg c8] at H
                exact absurd H (by simp)
            · rw [if_neg c7] at H
              exact absurd H (by simp)
          · rw [if_neg c6] at H
            have c6b0 : decide (x12_1 < (l0.length : Int)) = false := decide_eq_false c6
            clear c6
            replace H := Option.bind_eq_some_iff.mp H
            obtain ⟨⟨t321, t322⟩, A150, H⟩ := H
            replace H : (some (t321, t322)) = some (r1, r2) := H
            have A15 := Aside0.mk A150
            clear A150
            simp only [Option.some.injEq, Prod.mk.injEq] at H
            obtain ⟨rfl, rfl⟩ := H
            obtain ⟨Ao16, co16, eo16⟩ := Kd.N_slice HO_4.out
            subst eo16
            go_wp2_with (first | ((with_reducible refine gate_callee (f := 10) rfl ?_); refine goesL_ (some 24) rfl rfl Try.func10 (by kernel_rfl) rfl #[.slice Ao16 x4_1.length co16] rfl (by (try simp only [List.map_toArray, List.map_cons, List.map_nil]); first | done | rfl | (simp only [List.length_drop, List.length_take]; rfl)) ?_; (with_reducible refine (pack_Pack.calls k1 _ _ x4_1 t321 t322 _ ?side1 ?side2 A15.out).mono ?_); (case side1 => repeat (first | exact (Kd.N_reads' HO_4.out).2.2 | (with_reducible refine Kd.C_alloc ?_ _) | (with_reducible refine Kd.C_drewN ?_ _) | (with_reducible refine Kd.C_drew ?_))); (case side2 => exact (Kd.N_reads' HO_4.out).2.1); rintro e w17 ⟨v323, rfl, ho0, hb⟩; refine ⟨_, rfl, ?_⟩; have n0_ := Aside0.mk (Kd.N_elder' (by (with_reducible repeat (first | apply Kd.N_alloc | apply Kd.N_drewN | apply Kd.N_drew)); exact HO_4.out) (Kd.R_base ho0) hb); have n1_ := Aside0.mk (Kd.R_lower ho0 (below_size (by repeat (first | (with_reducible first | exact HB.out | apply below_alloc | apply pw_below_drewN | apply below_drew1) | exact HB.out)))); have n2_ := Aside0.mk (below_step (by repeat (first | (with_reducible first | exact HB.out | apply below_alloc | apply pw_below_drewN | apply below_drew1) | exact HB.out)) hb); clear HO_4; clear HB; have HO_4 := n0_; have HO324 := n1_; have HB := n2_; clear n0_ n1_ n2_; (try clear hb); (try clear hb2); (try clear hk); (try clear hi); (try clear ho0)))
            go_ret2
            exact ⟨_, by first | rfl | (simp [errW_none, errW_some] <;> rfl) | (simp [*, errW_none, errW_some] <;> rfl), by (with_reducible repeat (first | apply Kd.R_alloc | apply Kd.R_drewN | apply Kd.R_drew)); exact HO324.out, by repeat (first | (with_reducible first | exact HB.out | apply below_alloc | apply pw_below_drewN | apply below_drew1) | exact HB.out)⟩
    · rw [if_neg c3] at H
      exact absurd H (by simp)
  · rw [if_neg c2] at H
    exact absurd H (by simp)

end Go.Proofs.Ytejbkjbldmaodaa.P
