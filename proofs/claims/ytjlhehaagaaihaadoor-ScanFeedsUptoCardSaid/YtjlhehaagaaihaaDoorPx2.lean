/- Functions of the translated program as plain Lean functions, and proofs that their calls come to these. Written by a program of the session. No condition. -/
import Derived.Test.YtjlhehaagaaihaaDoorPx0
import Derived.Test.YtjlhehaagaaihaaDoorPx1
namespace Go.Proofs.YtjlhehaagaaihaaDoor.P
open Go.RowKit Go.Proofs.YtjlhehaagaaihaaDoorW.PrintWords Go.Proofs.YtjlhehaagaaihaaDoorW.PrintLast Go.Proofs.YtjlhehaagaaihaaDoorW.PrintMore
attribute [local go_sem] max2_int min2_int max_two min_two max_three min_three max_four min_four   -- for this text's walks alone
set_option linter.unusedVariables false
set_option linter.unusedSimpArgs false

/-! ### code_Bytes: function 17 -/
def code_Bytes.l0 : Nat → List Int → List Int → Int → Int → Option (List Int × Int)
  | 0, _, _, _, _ => none
  | k + 1, x4, x9, x10, x11 => if x11 < x10 then (if 0 ≤ x11 then (if x11 < (x9.length : Int) then ((code_point.f k (rd x9 x11)).bind fun bt139 => (if bt139.2 = true then ((utf8_AppendRune.f k x4 bt139.1).bind fun t141 => (code_Bytes.l0 k t141 x9 x10 (wrap64 (x11 + 1)))) else (some (([] : List Int), 2)))) else (none)) else (none)) else (some (x4, 0))
def code_Bytes.f (k : Nat) (l0 : List Int) : Option (List Int × Int) := code_Bytes.l0 k ([] : List Int) l0 (l0.length : Int) 0
theorem code_Bytes.mono_l : ∀ k, (∀ y0 y1 y2 y3, LeO (code_Bytes.l0 k y0 y1 y2 y3) (code_Bytes.l0 (k + 1) y0 y1 y2 y3))
  | 0 => fun _ _ _ _ r h => by simp [code_Bytes.l0] at h
  | k + 1 => by
    have ih0 := code_Bytes.mono_l k
    · intro y0 y1 y2 y3
      unfold code_Bytes.l0
      repeat' first
      | (with_reducible exact ih0 _ _ _ _)
      | (with_reducible exact code_point.mono _ _)
      | (with_reducible exact utf8_AppendRune.mono _ _ _)
      | (with_reducible exact LeO.refl _)
      | (with_reducible exact LeO.none _)
      | (with_reducible refine LeO.ite ?_ ?_)
      | (with_reducible refine LeO.bind ?_ (fun _ => ?_))
      | exact ih0 _ _ _ _
      | exact code_point.mono _ _
      | exact utf8_AppendRune.mono _ _ _
      | exact LeO.none _
      | refine LeO.ite ?_ ?_
      | refine LeO.bind ?_ (fun _ => ?_)
theorem code_Bytes.mono : ∀ a0 k, LeO (code_Bytes.f k a0) (code_Bytes.f (k + 1) a0) := by
  intro a0 k
  have ih0 := code_Bytes.mono_l k
  unfold code_Bytes.f
  repeat' first
      | (with_reducible exact ih0 _ _ _ _)
      | (with_reducible exact code_point.mono _ _)
      | (with_reducible exact utf8_AppendRune.mono _ _ _)
      | (with_reducible exact LeO.refl _)
      | (with_reducible exact LeO.none _)
      | (with_reducible refine LeO.ite ?_ ?_)
      | (with_reducible refine LeO.bind ?_ (fun _ => ?_))
      | exact ih0 _ _ _ _
      | exact code_point.mono _ _
      | exact utf8_AppendRune.mono _ _ _
      | exact LeO.none _
      | refine LeO.ite ?_ ?_
      | refine LeO.bind ?_ (fun _ => ?_)
set_option maxHeartbeats 8000000 in
set_option maxRecDepth 100000 in
theorem code_Bytes.calls (k : Nat) (A0 : Option Addr) (c0 : Nat) (l0 : List Int) (r1 : List Int) (r2 : Int) (w : World) (hr0 : Kd.C (Kd.int .u32) w A0 l0.length l0) (hc0 : l0.length ≤ c0) (h : code_Bytes.f k l0 = some (r1, r2)) :
    Calls Tryd.prog 17 #[.slice A0 l0.length c0] w fun e w' => ∃ v0_ : Value, e = .returned (.tuple #[v0_, .int .i64 r2]) ∧ Kd.R (Kd.int .u8) 5 w' w.heap.size (fun _ => True) v0_ r1 ∧ Below w.heap.size w w' := by
  have HR0 := Aside0.mk hr0
  have HC0 := Aside0.mk hc0
  clear hr0 hc0
  have HB := Aside0.mk (Below.refl w.heap.size w)
  have H : (code_Bytes.l0 k ([] : List Int) l0 (l0.length : Int) 0) = some (r1, r2) := h
  clear h
  have H' := Aside0.mk H
  clear H
  go_enter Tryd.func17, Tryd.ntmps17
  go_wp2
  go_loopg [4, 11] k (fun kq v4 v11 w' => ∃ (x4_1 : List Int) (x11_1 : Int), v11 = .int .i64 x11_1 ∧ Aside0 (code_Bytes.l0 kq x4_1 l0 (l0.length : Int) x11_1 = some (r1, r2)) ∧ Aside0 (kq ≤ k) ∧ Aside0 (Kd.R (Kd.int .u8) 5 w' w.heap.size (fun _ => True) v4 x4_1) ∧ Aside0 (Below w.heap.size w w'))
  case atStart => exact ⟨(([] : List Int)), (0), (by first | rfl | (simp; done) | (simp [*]; done)), H', ⟨Nat.le_refl _⟩, ⟨by first | exact Kd.R_nil _ _ _ _ _ | exact Kd.N_nil _ _ _ _ _ | exact Kd.V_nil _ _ _ _ _ | exact Kd.Q_nil _ _ _ _ _ | exact Kd.S_nil _ _ _ _ _⟩, ⟨by repeat (first | (with_reducible first | exact HB.out | apply below_alloc | apply pw_below_drewN | apply below_drew1) | exact HB.out)⟩⟩
  case round =>
    clear H'
    try clear c1
    obtain ⟨x4_1, x11_1, rfl, HA, HK1, HO_4, HB⟩ := hrel
    cases gk with
    | zero => exact absurd HA.out (by simp [code_Bytes.l0])
    | succ k1 =>
      have H := HA.out
      clear HA
      simp only [code_Bytes.l0] at H
      by_cases c2 : x11_1 < (l0.length : Int)
      · rw [if_pos c2] at H
        have c2b0 : decide (x11_1 < (l0.length : Int)) = true := decide_eq_true c2
        clear c2
        by_cases c3 : 0 ≤ x11_1
        · rw [if_pos c3] at H
          have c3b0 : decide (0 ≤ x11_1) = true := decide_eq_true c3
          clear c3
          by_cases c4 : x11_1 < (l0.length : Int)
          · rw [if_pos c4] at H
            have c4b0 : decide (x11_1 < (l0.length : Int)) = true := decide_eq_true c4
            clear c4
            replace H := Option.bind_eq_some_iff.mp H
            obtain ⟨⟨t139, t140⟩, A50, H⟩ := H
            replace H : (if t140 = true then ((utf8_AppendRune.f k1 x4_1 t139).bind fun t141 => (code_Bytes.l0 k1 t141 l0 (l0.length : Int) (wrap64 (x11_1 + 1)))) else (some (([] : List Int), 2))) = some (r1, r2) := H
            have A5 := Aside0.mk A50
            clear A50
            by_cases c6 : t140 = true
            · subst c6
              have H1 : ((utf8_AppendRune.f k1 x4_1 t139).bind fun t141 => (code_Bytes.l0 k1 t141 l0 (l0.length : Int) (wrap64 (x11_1 + 1)))) = some (r1, r2) := by rw [if_pos rfl] at H; exact H
              clear H
              have H := H1
              clear H1
              replace H := Option.bind_eq_some_iff.mp H
              obtain ⟨t141, A70, H⟩ := H
              replace H : (code_Bytes.l0 k1 t141 l0 (l0.length : Int) (wrap64 (x11_1 + 1))) = some (r1, r2) := H
              have A7 := Aside0.mk A70
              clear A70
              have H' := Aside0.mk H
              clear H
              have p138 : 0 ≤ (x11_1 : Int) := of_decide_eq_true (by first | (with_reducible assumption) | assumption)
              have q138 : x11_1 < (l0.length : Int) := of_decide_eq_true (by first | (with_reducible assumption) | assumption)
              obtain ⟨ad138, e138, hx138_0⟩ := Kd.at_int HR0.out x11_1 p138 q138
              cases e138
              replace hx138_0 := (HB.out.cell (World.block_lt_of_cell? w _ hx138_0)).trans hx138_0
              replace p138 := eq_true p138
              replace q138 := eq_true q138
              go_wp2_with (first | ((with_reducible refine gate_callee (f := 44) rfl ?_); refine goesL_ (some 17) rfl rfl Tryd.func44 (by kernel_rfl) rfl #[.int .u32 (rd l0 x11_1)] rfl (by (try simp only [List.map_toArray, List.map_cons, List.map_nil]); first | done | rfl | (simp only [List.length_drop, List.length_take]; rfl)) ?_; (with_reducible refine (code_point.calls k1 (rd l0 x11_1) t139 true _ A5.out).mono ?_); rintro e w' ⟨rfl, ⟨nd, rfl⟩⟩; refine ⟨_, rfl, ?_⟩; obtain ⟨Ao8, co8, eo8⟩ := Kd.R_slice HO_4.out; subst eo8) | ((with_reducible refine gate_callee (f := 45) rfl ?_); refine goesL_ (some 24) rfl rfl Tryd.func45 (by kernel_rfl) rfl #[.slice Ao8 x4_1.length co8, .int .i32 t139] rfl (by (try simp only [List.map_toArray, List.map_cons, List.map_nil]); first | done | rfl | (simp only [List.length_drop, List.length_take]; rfl)) ?_; (with_reducible refine (utf8_AppendRune.calls k1 (fun k_ => some k_ = (.slice Ao8 x4_1.length co8 : Value).ownBlock) (.slice Ao8 x4_1.length co8) x4_1 t139 t141 w _ ?side1 ?side2 A7.out).mono ?_); (case side1 => repeat (first | (with_reducible first | exact HB.out | apply below_alloc | apply pw_below_drewN | apply below_drew1) | exact HB.out)); (case side2 => exact Kd.R_tight rfl HO_4.out); rintro e w9 ⟨v142, rfl, ho0, hb, hkp⟩; refine ⟨_, rfl, ?_⟩; have n0_ := Aside0.mk (Kd.R_mono (ok' := fun k_ => True) ho0 (fun k_ hk_ => trivial)); have n1_ := Aside0.mk (hb); clear HB; clear HO_4; have HO143 := n0_; have HB := n1_; clear n0_ n1_; (try clear hb); (try clear hkp); (try clear ho0)))
              go_roundg k1
              case measure => have := HK1.out; omega
              case rel => exact ⟨(t141), (wrap64 (x11_1 + 1)), (by first | rfl | (simp; done) | (simp [*]; done)), H', ⟨by have := HK1.out; omega⟩, ⟨by (with_reducible repeat (first | apply Kd.R_alloc | apply Kd.R_drewN | apply Kd.R_drew)); exact HO143.out⟩, ⟨by repeat (first | (with_reducible first | exact HB.out | apply below_alloc | apply pw_below_drewN | apply below_drew1) | exact HB.out)⟩⟩
            · replace c6 := Bool.eq_false_iff.mpr c6
              subst c6
              have H1 : (some (([] : List Int), 2)) = some (r1, r2) := by rw [if_neg (show ¬ (false = true) by decide)] at H; exact H
              clear H
              have H := H1
              clear H1
              simp only [Option.some.injEq, Prod.mk.injEq] at H
              obtain ⟨rfl, rfl⟩ := H
              have p138 : 0 ≤ (x11_1 : Int) := of_decide_eq_true (by first | (with_reducible assumption) | assumption)
              have q138 : x11_1 < (l0.length : Int) := of_decide_eq_true (by first | (with_reducible assumption) | assumption)
              obtain ⟨ad138, e138, hx138_0⟩ := Kd.at_int HR0.out x11_1 p138 q138
              cases e138
              replace hx138_0 := (HB.out.cell (World.block_lt_of_cell? w _ hx138_0)).trans hx138_0
              replace p138 := eq_true p138
              replace q138 := eq_true q138
              go_wp2_with (first | ((with_reducible refine gate_callee (f := 44) rfl ?_); refine goesL_ (some 17) rfl rfl Tryd.func44 (by kernel_rfl) rfl #[.int .u32 (rd l0 x11_1)] rfl (by (try simp only [List.map_toArray, List.map_cons, List.map_nil]); first | done | rfl | (simp only [List.length_drop, List.length_take]; rfl)) ?_; (with_reducible refine (code_point.calls k1 (rd l0 x11_1) t139 false _ A5.out).mono ?_); rintro e w' ⟨rfl, ⟨nd, rfl⟩⟩; refine ⟨_, rfl, ?_⟩))
              go_ret2
              exact ⟨_, by first | rfl | (simp [errW_none, errW_some] <;> rfl) | (simp [*, errW_none, errW_some] <;> rfl), by first | exact Kd.R_nil _ _ _ _ _ | exact Kd.N_nil _ _ _ _ _ | exact Kd.V_nil _ _ _ _ _ | exact Kd.Q_nil _ _ _ _ _ | exact Kd.S_nil _ _ _ _ _, by repeat (first | (with_reducible first | exact HB.out | apply below_alloc | apply pw_below_drewN | apply below_drew1) | exact HB.out)⟩
          · rw [if_neg c4] at H
            exact absurd H (by simp)
        · rw [if_neg c3] at H
          exact absurd H (by simp)
      · rw [if_neg c2] at H
        have c2b0 : decide (x11_1 < (l0.length : Int)) = false := decide_eq_false c2
        clear c2
        simp only [Option.some.injEq, Prod.mk.injEq] at H
        obtain ⟨rfl, rfl⟩ := H
        go_wp2
        go_ret2
        exact ⟨_, by first | rfl | (simp [errW_none, errW_some] <;> rfl) | (simp [*, errW_none, errW_some] <;> rfl), by (with_reducible repeat (first | apply Kd.R_alloc | apply Kd.R_drewN | apply Kd.R_drew)); exact HO_4.out, by repeat (first | (with_reducible first | exact HB.out | apply below_alloc | apply pw_below_drewN | apply below_drew1) | exact HB.out)⟩

/-! ### utf8_word_byte: function 60 -/
def utf8_word_byte.f (l0 : List Int) : Option (Int) := if 0 < (l0.length : Int) then (if 1 < (l0.length : Int) then (if 2 < (l0.length : Int) then (if 3 < (l0.length : Int) then (if 4 < (l0.length : Int) then (if 5 < (l0.length : Int) then (if 6 < (l0.length : Int) then (if 7 < (l0.length : Int) then (some (Go.bits .or .u64 (Go.bits .or .u64 (Go.bits .or .u64 (Go.bits .or .u64 (Go.bits .or .u64 (Go.bits .or .u64 (Go.bits .or .u64 (IntKind.u64.wrap (rd l0 0)) (IntKind.u64.wrap ((IntKind.u64.wrap (rd l0 1)) * 256))) (IntKind.u64.wrap ((IntKind.u64.wrap (rd l0 2)) * 65536))) (IntKind.u64.wrap ((IntKind.u64.wrap (rd l0 3)) * 16777216))) (IntKind.u64.wrap ((IntKind.u64.wrap (rd l0 4)) * 4294967296))) (IntKind.u64.wrap ((IntKind.u64.wrap (rd l0 5)) * 1099511627776))) (IntKind.u64.wrap ((IntKind.u64.wrap (rd l0 6)) * 281474976710656))) (IntKind.u64.wrap ((IntKind.u64.wrap (rd l0 7)) * 72057594037927936)))) else (none)) else (none)) else (none)) else (none)) else (none)) else (none)) else (none)) else (none)
set_option maxHeartbeats 8000000 in
set_option maxRecDepth 100000 in
theorem utf8_word_byte.calls (A0 : Option Addr) (c0 : Nat) (l0 : List Int) (r : Int) (w : World) (hr0 : Kd.C (Kd.int .u8) w A0 l0.length l0) (hc0 : l0.length ≤ c0) (h : utf8_word_byte.f l0 = some r) :
    Calls Tryd.prog 60 #[.slice A0 l0.length c0] w fun e w' => e = .returned (.int .u64 r) ∧ Drawn0 w w' := by
  have HR0 := Aside0.mk hr0
  have HC0 := Aside0.mk hc0
  clear hr0 hc0
  have H : (if 0 < (l0.length : Int) then (if 1 < (l0.length : Int) then (if 2 < (l0.length : Int) then (if 3 < (l0.length : Int) then (if 4 < (l0.length : Int) then (if 5 < (l0.length : Int) then (if 6 < (l0.length : Int) then (if 7 < (l0.length : Int) then (some (Go.bits .or .u64 (Go.bits .or .u64 (Go.bits .or .u64 (Go.bits .or .u64 (Go.bits .or .u64 (Go.bits .or .u64 (Go.bits .or .u64 (IntKind.u64.wrap (rd l0 0)) (IntKind.u64.wrap ((IntKind.u64.wrap (rd l0 1)) * 256))) (IntKind.u64.wrap ((IntKind.u64.wrap (rd l0 2)) * 65536))) (IntKind.u64.wrap ((IntKind.u64.wrap (rd l0 3)) * 16777216))) (IntKind.u64.wrap ((IntKind.u64.wrap (rd l0 4)) * 4294967296))) (IntKind.u64.wrap ((IntKind.u64.wrap (rd l0 5)) * 1099511627776))) (IntKind.u64.wrap ((IntKind.u64.wrap (rd l0 6)) * 281474976710656))) (IntKind.u64.wrap ((IntKind.u64.wrap (rd l0 7)) * 72057594037927936)))) else (none)) else (none)) else (none)) else (none)) else (none)) else (none)) else (none)) else (none)) = some r := h
  clear h
  by_cases c2 : 0 < (l0.length : Int)
  · rw [if_pos c2] at H
    have c2b0 : decide (0 < (l0.length : Int)) = true := decide_eq_true c2
    have c2b1 : decide (0 < l0.length) = true := decide_eq_true (by omega)
    clear c2
    by_cases c3 : 1 < (l0.length : Int)
    · rw [if_pos c3] at H
      have c3b0 : decide (1 < (l0.length : Int)) = true := decide_eq_true c3
      have c3b1 : decide (1 < l0.length) = true := decide_eq_true (by omega)
      clear c3
      by_cases c4 : 2 < (l0.length : Int)
      · rw [if_pos c4] at H
        have c4b0 : decide (2 < (l0.length : Int)) = true := decide_eq_true c4
        have c4b1 : decide (2 < l0.length) = true := decide_eq_true (by omega)
        clear c4
        by_cases c5 : 3 < (l0.length : Int)
        · rw [if_pos c5] at H
          have c5b0 : decide (3 < (l0.length : Int)) = true := decide_eq_true c5
          have c5b1 : decide (3 < l0.length) = true := decide_eq_true (by omega)
          clear c5
          by_cases c6 : 4 < (l0.length : Int)
          · rw [if_pos c6] at H
            have c6b0 : decide (4 < (l0.length : Int)) = true := decide_eq_true c6
            have c6b1 : decide (4 < l0.length) = true := decide_eq_true (by omega)
            clear c6
            by_cases c7 : 5 < (l0.length : Int)
            · rw [if_pos c7] at H
              have c7b0 : decide (5 < (l0.length : Int)) = true := decide_eq_true c7
              have c7b1 : decide (5 < l0.length) = true := decide_eq_true (by omega)
              clear c7
              by_cases c8 : 6 < (l0.length : Int)
              · rw [if_pos c8] at H
                have c8b0 : decide (6 < (l0.length : Int)) = true := decide_eq_true c8
                have c8b1 : decide (6 < l0.length) = true := decide_eq_true (by omega)
                clear c8
                by_cases c9 : 7 < (l0.length : Int)
                · rw [if_pos c9] at H
                  have c9b0 : decide (7 < (l0.length : Int)) = true := decide_eq_true c9
                  have c9b1 : decide (7 < l0.length) = true := decide_eq_true (by omega)
                  clear c9
                  obtain rfl := Option.some.inj H
                  have p144 : 0 ≤ (0 : Int) := (by omega)
                  have q144 : 0 < (l0.length : Int) := of_decide_eq_true (by first | (with_reducible assumption) | assumption)
                  obtain ⟨ad144, e144, hx144_0⟩ := Kd.at_int HR0.out 0 p144 q144
                  cases e144
                  have qi144 : (0 < l0.length) = True := eq_true (by omega)
                  (try rw [show ((0 : Int)).toNat = 0 from rfl] at hx144_0)
                  (try rw [Addr.add_zero'] at hx144_0)
                  replace p144 := eq_true p144
                  replace q144 := eq_true q144
                  have p145 : 0 ≤ (1 : Int) := (by omega)
                  have q145 : 1 < (l0.length : Int) := of_decide_eq_true (by first | (with_reducible assumption) | assumption)
                  obtain ⟨ad145, e145, hx145_0⟩ := Kd.at_int HR0.out 1 p145 q145
                  obtain rfl : ad144 = ad145 := (by injection e145)
                  (try simp only [show (1 : Int).toNat = 1 from rfl, Nat.reduceMul, Nat.reduceEqDiff, Go.Addr.add, ↓reduceIte] at hx145_0)
                  have qi145 : (1 < l0.length) = True := eq_true (by omega)
                  (try rw [show ((1 : Int)).toNat = 1 from rfl] at hx145_0)
                  replace p145 := eq_true p145
                  replace q145 := eq_true q145
                  have p146 : 0 ≤ (2 : Int) := (by omega)
                  have q146 : 2 < (l0.length : Int) := of_decide_eq_true (by first | (with_reducible assumption) | assumption)
                  obtain ⟨ad146, e146, hx146_0⟩ := Kd.at_int HR0.out 2 p146 q146
                  obtain rfl : ad144 = ad146 := (by injection e146)
                  (try simp only [show (2 : Int).toNat = 2 from rfl, Nat.reduceMul, Nat.reduceEqDiff, Go.Addr.add, ↓reduceIte] at hx146_0)
                  have qi146 : (2 < l0.length) = True := eq_true (by omega)
                  (try rw [show ((2 : Int)).toNat = 2 from rfl] at hx146_0)
                  replace p146 := eq_true p146
                  replace q146 := eq_true q146
                  have p147 : 0 ≤ (3 : Int) := (by omega)
                  have q147 : 3 < (l0.length : Int) := of_decide_eq_true (by first | (with_reducible assumption) | assumption)
                  obtain ⟨ad147, e147, hx147_0⟩ := Kd.at_int HR0.out 3 p147 q147
                  obtain rfl : ad144 = ad147 := (by injection e147)
                  (try simp only [show (3 : Int).toNat = 3 from rfl, Nat.reduceMul, Nat.reduceEqDiff, Go.Addr.add, ↓reduceIte] at hx147_0)
                  have qi147 : (3 < l0.length) = True := eq_true (by omega)
                  (try rw [show ((3 : Int)).toNat = 3 from rfl] at hx147_0)
                  replace p147 := eq_true p147
                  replace q147 := eq_true q147
                  have p148 : 0 ≤ (4 : Int) := (by omega)
                  have q148 : 4 < (l0.length : Int) := of_decide_eq_true (by first | (with_reducible assumption) | assumption)
                  obtain ⟨ad148, e148, hx148_0⟩ := Kd.at_int HR0.out 4 p148 q148
                  obtain rfl : ad144 = ad148 := (by injection e148)
                  (try simp only [show (4 : Int).toNat = 4 from rfl, Nat.reduceMul, Nat.reduceEqDiff, Go.Addr.add, ↓reduceIte] at hx148_0)
                  have qi148 : (4 < l0.length) = True := eq_true (by omega)
                  (try rw [show ((4 : Int)).toNat = 4 from rfl] at hx148_0)
                  replace p148 := eq_true p148
                  replace q148 := eq_true q148
                  have p149 : 0 ≤ (5 : Int) := (by omega)
                  have q149 : 5 < (l0.length : Int) := of_decide_eq_true (by first | (with_reducible assumption) | assumption)
                  obtain ⟨ad149, e149, hx149_0⟩ := Kd.at_int HR0.out 5 p149 q149
                  obtain rfl : ad144 = ad149 := (by injection e149)
                  (try simp only [show (5 : Int).toNat = 5 from rfl, Nat.reduceMul, Nat.reduceEqDiff, Go.Addr.add, ↓reduceIte] at hx149_0)
                  have qi149 : (5 < l0.length) = True := eq_true (by omega)
                  (try rw [show ((5 : Int)).toNat = 5 from rfl] at hx149_0)
                  replace p149 := eq_true p149
                  replace q149 := eq_true q149
                  have p150 : 0 ≤ (6 : Int) := (by omega)
                  have q150 : 6 < (l0.length : Int) := of_decide_eq_true (by first | (with_reducible assumption) | assumption)
                  obtain ⟨ad150, e150, hx150_0⟩ := Kd.at_int HR0.out 6 p150 q150
                  obtain rfl : ad144 = ad150 := (by injection e150)
                  (try simp only [show (6 : Int).toNat = 6 from rfl, Nat.reduceMul, Nat.reduceEqDiff, Go.Addr.add, ↓reduceIte] at hx150_0)
                  have qi150 : (6 < l0.length) = True := eq_true (by omega)
                  (try rw [show ((6 : Int)).toNat = 6 from rfl] at hx150_0)
                  replace p150 := eq_true p150
                  replace q150 := eq_true q150
                  have p151 : 0 ≤ (7 : Int) := (by omega)
                  have q151 : 7 < (l0.length : Int) := of_decide_eq_true (by first | (with_reducible assumption) | assumption)
                  obtain ⟨ad151, e151, hx151_0⟩ := Kd.at_int HR0.out 7 p151 q151
                  obtain rfl : ad144 = ad151 := (by injection e151)
                  (try simp only [show (7 : Int).toNat = 7 from rfl, Nat.reduceMul, Nat.reduceEqDiff, Go.Addr.add, ↓reduceIte] at hx151_0)
                  have qi151 : (7 < l0.length) = True := eq_true (by omega)
                  (try rw [show ((7 : Int)).toNat = 7 from rfl] at hx151_0)
                  replace p151 := eq_true p151
                  replace q151 := eq_true q151
                  go_enter Tryd.func60, Tryd.ntmps60
                  go_wp2
                  repeat (go_quiet (fail); try go_wp2)
                  go_ret
                  exact ⟨by first | rfl | (simp; done) | (simp [*]; done), by repeat (first | exact Drawn0.refl _ | apply Drawn0.step)⟩
                · rw [if_neg c9] at H
                  exact absurd H (by simp)
              · rw [if_neg c8] at H
                exact absurd H (by simp)
            · rw [if_neg c7] at H
              exact absurd H (by simp)
          · rw [if_neg c6] at H
            exact absurd H (by simp)
        · rw [if_neg c5] at H
          exact absurd H (by simp)
      · rw [if_neg c4] at H
        exact absurd H (by simp)
    · rw [if_neg c3] at H
      exact absurd H (by simp)
  · rw [if_neg c2] at H
    exact absurd H (by simp)

/-! ### gessoref01_Same: function 19 -/
def gessoref01_Same.l0 : Nat → List Int → List Int → Int → Option (Bool)
  | 0, _, _, _ => none
  | k + 1, x0, x1, x5 => if x5 < (x0.length : Int) then (if 0 ≤ x5 then (if x5 < (x1.length : Int) then (if (rd x0 x5) = (rd x1 x5) then (gessoref01_Same.l0 k x0 x1 (wrap64 (x5 + 1))) else (some false)) else (none)) else (none)) else (some true)
def gessoref01_Same.f (k : Nat) (l0 : List Int) (l1 : List Int) : Option (Bool) := if (l0.length : Int) = (l1.length : Int) then (gessoref01_Same.l0 k l0 l1 0) else (some false)
theorem gessoref01_Same.mono_l : ∀ k, (∀ y0 y1 y2, LeO (gessoref01_Same.l0 k y0 y1 y2) (gessoref01_Same.l0 (k + 1) y0 y1 y2))
  | 0 => fun _ _ _ r h => by simp [gessoref01_Same.l0] at h
  | k + 1 => by
    have ih0 := gessoref01_Same.mono_l k
    · intro y0 y1 y2
      unfold gessoref01_Same.l0
      repeat' first
      | (with_reducible exact ih0 _ _ _)
      | (with_reducible exact LeO.refl _)
      | (with_reducible exact LeO.none _)
      | (with_reducible refine LeO.ite ?_ ?_)
      | (with_reducible refine LeO.bind ?_ (fun _ => ?_))
      | exact ih0 _ _ _
      | exact LeO.none _
      | refine LeO.ite ?_ ?_
      | refine LeO.bind ?_ (fun _ => ?_)
theorem gessoref01_Same.mono : ∀ a0 a1 k, LeO (gessoref01_Same.f k a0 a1) (gessoref01_Same.f (k + 1) a0 a1) := by
  intro a0 a1 k
  have ih0 := gessoref01_Same.mono_l k
  unfold gessoref01_Same.f
  repeat' first
      | (with_reducible exact ih0 _ _ _)
      | (with_reducible exact LeO.refl _)
      | (with_reducible exact LeO.none _)
      | (with_reducible refine LeO.ite ?_ ?_)
      | (with_reducible refine LeO.bind ?_ (fun _ => ?_))
      | exact ih0 _ _ _
      | exact LeO.none _
      | refine LeO.ite ?_ ?_
      | refine LeO.bind ?_ (fun _ => ?_)
set_option maxHeartbeats 8000000 in
set_option maxRecDepth 100000 in
theorem gessoref01_Same.calls (k : Nat) (A0 : Option Addr) (c0 : Nat) (l0 : List Int) (A1 : Option Addr) (c1 : Nat) (l1 : List Int) (r : Bool) (w : World) (hr0 : Kd.C (Kd.int .u32) w A0 l0.length l0) (hc0 : l0.length ≤ c0) (hr1 : Kd.C (Kd.int .u32) w A1 l1.length l1) (hc1 : l1.length ≤ c1) (h : gessoref01_Same.f k l0 l1 = some r) :
    Calls Tryd.prog 19 #[.slice A0 l0.length c0, .slice A1 l1.length c1] w fun e w' => e = .returned (.bool r) ∧ Drawn0 w w' := by
  have HR0 := Aside0.mk hr0
  have HC0 := Aside0.mk hc0
  clear hr0 hc0
  have HR1 := Aside0.mk hr1
  have HC1 := Aside0.mk hc1
  clear hr1 hc1
  have H : (if (l0.length : Int) = (l1.length : Int) then (gessoref01_Same.l0 k l0 l1 0) else (some false)) = some r := h
  clear h
  by_cases c3 : (l0.length : Int) = (l1.length : Int)
  · rw [if_pos c3] at H
    have c3b0 : ((l0.length : Int) == (l1.length : Int)) = true := beq_iff_eq.mpr c3
    have c3b1 : ((l0.length : Int) != (l1.length : Int)) = false := bne_eq_false_iff_eq.mpr c3
    have c3b2 : (l0.length == l1.length) = true := by first | simpa using c3 | (simp at c3 ⊢; omega)
    clear c3
    have H' := Aside0.mk H
    clear H
    go_enter Tryd.func19, Tryd.ntmps19
    go_wp2
    repeat (go_quiet (fail); try go_wp2)
    go_loopg [5] k (fun kq v5 w' => ∃ (x5_1 : Int), v5 = .int .i64 x5_1 ∧ Aside0 (gessoref01_Same.l0 kq l0 l1 x5_1 = some r) ∧ Aside0 (kq ≤ k) ∧ Drawn0 w w')
    case atStart => exact ⟨(0), (by first | rfl | (simp; done) | (simp [*]; done)), H', ⟨Nat.le_refl _⟩, by repeat (first | exact Drawn0.refl _ | apply Drawn0.step)⟩
    case round =>
      clear H'
      try clear c1
      try clear p2
      try clear c3
      try clear c3b0
      try clear c3b1
      try clear c3b2
      obtain ⟨x5_1, rfl, HA, HK1, ⟨m1, rfl⟩⟩ := hrel
      cases gk with
      | zero => exact absurd HA.out (by simp [gessoref01_Same.l0])
      | succ k1 =>
        have H := HA.out
        clear HA
        simp only [gessoref01_Same.l0] at H
        by_cases c4 : x5_1 < (l0.length : Int)
        · rw [if_pos c4] at H
          have c4b0 : decide (x5_1 < (l0.length : Int)) = true := decide_eq_true c4
          clear c4
          by_cases c5 : 0 ≤ x5_1
          · rw [if_pos c5] at H
            have c5b0 : decide (0 ≤ x5_1) = true := decide_eq_true c5
            clear c5
            by_cases c6 : x5_1 < (l1.length : Int)
            · rw [if_pos c6] at H
              have c6b0 : decide (x5_1 < (l1.length : Int)) = true := decide_eq_true c6
              clear c6
              by_cases c7 : (rd l0 x5_1) = (rd l1 x5_1)
              · rw [if_pos c7] at H
                have c7b0 : ((rd l0 x5_1) == (rd l1 x5_1)) = true := beq_iff_eq.mpr c7
                have c7b1 : ((rd l0 x5_1) != (rd l1 x5_1)) = false := bne_eq_false_iff_eq.mpr c7
                clear c7
                have H' := Aside0.mk H
                clear H
                have p152 : 0 ≤ (x5_1 : Int) := of_decide_eq_true (by first | (with_reducible assumption) | assumption)
                have q152 : x5_1 < (l0.length : Int) := of_decide_eq_true (by first | (with_reducible assumption) | assumption)
                obtain ⟨ad152, e152, hx152_0⟩ := Kd.at_int HR0.out x5_1 p152 q152
                cases e152
                replace p152 := eq_true p152
                replace q152 := eq_true q152
                have p153 : 0 ≤ (x5_1 : Int) := of_decide_eq_true (by first | (with_reducible assumption) | assumption)
                have q153 : x5_1 < (l1.length : Int) := of_decide_eq_true (by first | (with_reducible assumption) | assumption)
                obtain ⟨ad153, e153, hx153_0⟩ := Kd.at_int HR1.out x5_1 p153 q153
                cases e153
                replace p153 := eq_true p153
                replace q153 := eq_true q153
                go_wp2
                repeat (go_quiet (fail); try go_wp2)
                go_roundg k1
                case measure => have := HK1.out; omega
                case rel => exact ⟨(wrap64 (x5_1 + 1)), (by first | rfl | (simp; done) | (simp [*]; done)), H', ⟨by have := HK1.out; omega⟩, by repeat (first | exact Drawn0.refl _ | apply Drawn0.step)⟩
              · rw [if_neg c7] at H
                have c7b0 : ((rd l0 x5_1) == (rd l1 x5_1)) = false := beq_eq_false_iff_ne.mpr c7
                have c7b1 : ((rd l0 x5_1) != (rd l1 x5_1)) = true := bne_iff_ne.mpr c7
                obtain rfl := Option.some.inj H
                have p152 : 0 ≤ (x5_1 : Int) := of_decide_eq_true (by first | (with_reducible assumption) | assumption)
                have q152 : x5_1 < (l0.length : Int) := of_decide_eq_true (by first | (with_reducible assumption) | assumption)
                obtain ⟨ad152, e152, hx152_0⟩ := Kd.at_int HR0.out x5_1 p152 q152
                cases e152
                replace p152 := eq_true p152
                replace q152 := eq_true q152
                have p153 : 0 ≤ (x5_1 : Int) := of_decide_eq_true (by first | (with_reducible assumption) | assumption)
                have q153 : x5_1 < (l1.length : Int) := of_decide_eq_true (by first | (with_reducible assumption) | assumption)
                obtain ⟨ad153, e153, hx153_0⟩ := Kd.at_int HR1.out x5_1 p153 q153
                cases e153
                replace p153 := eq_true p153
                replace q153 := eq_true q153
                go_wp2
                repeat (go_quiet (fail); try go_wp2)
                go_ret
                exact ⟨by first | rfl | (simp; done) | (simp [*]; done), by repeat (first | exact Drawn0.refl _ | apply Drawn0.step)⟩
            · rw [if_neg c6] at H
              exact absurd H (by simp)
          · rw [if_neg c5] at H
            exact absurd H (by simp)
        · rw [if_neg c4] at H
          have c4b0 : decide (x5_1 < (l0.length : Int)) = false := decide_eq_false c4
          clear c4
          obtain rfl := Option.some.inj H
          go_wp2
          repeat (go_quiet (fail); try go_wp2)
          go_ret
          exact ⟨by first | rfl | (simp; done) | (simp [*]; done), by repeat (first | exact Drawn0.refl _ | apply Drawn0.step)⟩
  · rw [if_neg c3] at H
    have c3b0 : ((l0.length : Int) == (l1.length : Int)) = false := beq_eq_false_iff_ne.mpr c3
    have c3b1 : ((l0.length : Int) != (l1.length : Int)) = true := bne_iff_ne.mpr c3
    have c3b2 : (l0.length == l1.length) = false := by first | simpa using c3 | (simp at c3 ⊢; omega)
    obtain rfl := Option.some.inj H
    go_enter Tryd.func19, Tryd.ntmps19
    go_wp2
    repeat (go_quiet (fail); try go_wp2)
    go_ret
    exact ⟨by first | rfl | (simp; done) | (simp [*]; done), by repeat (first | exact Drawn0.refl _ | apply Drawn0.step)⟩

end Go.Proofs.YtjlhehaagaaihaaDoor.P
