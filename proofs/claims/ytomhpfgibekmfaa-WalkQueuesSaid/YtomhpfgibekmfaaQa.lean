/- The queue of paths: the methods of its heap. No condition. -/
import Derived.Test.YtomhpfgibekmfaaMb
import Derived.Test.YtomhpfgibekmfaaPx1
import Derived.Test.YtomhpfgibekmfaaWNEv
import Derived.Test.YtomhpfgibekmfaaWLast
import Derived.Test.YtomhpfgibekmfaaWMore
import Derived.Lib.Hide
namespace Go.Proofs.Ytomhpfgibekmfaa.P
open Go.RowKit Go.Lib Go.Proofs.YtomhpfgibekmfaaW.PrintWords Go.Proofs.YtomhpfgibekmfaaW.PrintLast Go.Proofs.YtomhpfgibekmfaaW.PrintMore Go.Proofs.Ytomhpfgibekmfaa.Pure
set_option linter.unusedVariables false
set_option linter.unusedSimpArgs false
theorem w64 {i : Int} (h0 : -9223372036854775808 ≤ i) (h1 : i ≤ 9223372036854775807) : wrap64 i = i := by unfold wrap64; omega
theorem rdOf_nat (l : Pth) (i : Nat) : rdOf ByteArray.empty l (i : Int) = l.getD i ByteArray.empty := by simp [rdOf]
theorem cmp_f (a b : ByteArray) : cmp_Compare_string.f a b = some (if Op.bytesLess a.toList b.toList = true then -1 else if Op.bytesLess b.toList a.toList = true then 1 else 0) := by
  simp only [cmp_Compare_string.f, cmp_isNaN_string.f, bne_self_eq_false, Option.bind_some, Bool.false_eq_true, if_false]
  split
  · rfl
  · split <;> rfl
/-- The walk over both paths. -/
theorem compare_f (x y : Pth) (hx : x.length ≤ 1099511627776) : ∀ (m : Nat) (i : Nat), x.length - i ≤ m → i ≤ x.length → i ≤ y.length → (∀ j, j < i → (x.getD j ByteArray.empty) = (y.getD j ByteArray.empty)) →
    ∃ k r, slices_Compare_string_string.l0 k x y x (x.length : Int) (i : Int) = some r ∧ decide (r < 0) = ltP (x.drop i) (y.drop i)
  | m, i, hm, hi, hj, hs => by
    by_cases h : i < x.length
    · by_cases h2 : i < y.length
      · have e1 := List.drop_eq_getElem_cons h
        have e2 := List.drop_eq_getElem_cons h2
        have g1 : rdOf ByteArray.empty x (i : Int) = x[i] := by rw [rdOf_nat]; simp [h]
        have g2 : rdOf ByteArray.empty y (i : Int) = y[i] := by rw [rdOf_nat]; simp [h2]
        by_cases hq : x[i].toList = y[i].toList
        · cases m with
          | zero => omega
          | succ m =>
            obtain ⟨k, r, h3, h4⟩ := compare_f x y hx m (i + 1) (by omega) (by omega) (by omega) (fun j hj' => by
              by_cases hji : j = i
              · subst hji
                have := str_inj hq
                simp [h, h2, this]
              · exact hs j (by omega))
            refine ⟨k + 1, r, ?_, ?_⟩
            · rw [slices_Compare_string_string.l0, if_pos (by omega), if_pos (by omega), if_pos (by omega), if_neg (by omega), if_pos (by omega), g1, g2, cmp_f, hq, bl_irrefl]
              simp only [Bool.false_eq_true, if_false, Option.bind_some, if_true]
              rw [w64 (by omega) (by omega)]
              exact h3
            · rw [e1, e2, ltP, if_pos hq]
              exact h4
        · rw [e1, e2, ltP, if_neg hq]
          by_cases hb : Op.bytesLess x[i].toList y[i].toList = true
          · refine ⟨1, -1, ?_, by rw [hb]; rfl⟩
            rw [slices_Compare_string_string.l0, if_pos (by omega), if_pos (by omega), if_pos (by omega), if_neg (by omega), if_pos (by omega), g1, g2, cmp_f, if_pos hb]
            simp
          · by_cases hb2 : Op.bytesLess y[i].toList x[i].toList = true
            · refine ⟨1, 1, ?_, by rw [Bool.not_eq_true] at hb; rw [hb]; rfl⟩
              rw [slices_Compare_string_string.l0, if_pos (by omega), if_pos (by omega), if_pos (by omega), if_neg (by omega), if_pos (by omega), g1, g2, cmp_f, if_neg hb, if_pos hb2]
              simp
            · exact absurd (bl_tri (by simpa using hb) (by simpa using hb2)) hq
      · refine ⟨1, 1, ?_, ?_⟩
        · rw [slices_Compare_string_string.l0, if_pos (by omega), if_pos (by omega), if_pos (by omega), if_pos (by omega)]
        · rw [List.drop_eq_nil_of_le (show y.length ≤ i by omega)]
          cases x.drop i <;> rfl
    · rw [List.drop_eq_nil_of_le (show x.length ≤ i by omega)]
      by_cases h2 : (x.length : Int) < (y.length : Int)
      · refine ⟨1, -1, ?_, ?_⟩
        · rw [slices_Compare_string_string.l0, if_neg (by omega), if_pos h2]
        · rw [List.drop_eq_getElem_cons (show i < y.length by omega)]
          rfl
      · refine ⟨1, 0, ?_, ?_⟩
        · rw [slices_Compare_string_string.l0, if_neg (by omega), if_neg h2]
        · rw [List.drop_eq_nil_of_le (show y.length ≤ i by omega)]
          rfl
theorem less_f (x y : Pth) (hx : x.length ≤ 1099511627776) : ∃ k, walk_Less.f k x y = some (ltP x y) := by
  obtain ⟨k, r, h1, h2⟩ := compare_f x y hx x.length 0 (by omega) (by omega) (by omega) (fun j hj => by omega)
  refine ⟨k, ?_⟩
  rw [walk_Less.f, slices_Compare_string_string.f]
  rw [show ((0 : Int)) = ((0 : Nat) : Int) from rfl, h1]
  simpa using h2
theorem deeper_f (x y : Pth) (hx : x.length ≤ 1099511627776) : ∃ k, walk_Deeper.f k x y = some (dpP x y) := by
  obtain ⟨k, h⟩ := less_f x y hx
  refine ⟨k, ?_⟩
  unfold walk_Deeper.f dpP
  by_cases hl : x.length = y.length
  · rw [if_pos (by omega), if_pos hl, h]; rfl
  · rw [if_neg (by omega), if_neg hl]
    congr 1
    by_cases h2 : y.length < x.length
    · rw [decide_eq_true h2]; exact decide_eq_true (by omega)
    · rw [decide_eq_false h2]; exact decide_eq_false (by omega)
theorem drawn_trans {w w1 w2 : World} (h : Drawn0 w w1) (k : Drawn0 w1 w2) : Drawn0 w w2 := by
  obtain ⟨n, rfl⟩ := k
  exact h.step n
theorem grown_trans {a w w' : World} {row : Option Nat} (h : a.grownBy w row) (k : w.grownBy w' row) : a.grownBy w' row :=
  ⟨k.os.trans h.os, k.tape.trans h.tape, k.output.trans h.output, Nat.le_trans h.size k.size, fun i hi hne => (k.block i (Nat.lt_of_lt_of_le hi h.size) hne).trans (h.block i hi hne)⟩
def lessF (deep : Bool) : Nat := if deep = true then 11 else 9
/-- The function that the queue has taken with it. -/
theorem by_any (deep : Bool) (x y : Pth) (A0 : Option Addr) (c0 : Nat) (A1 : Option Addr) (c1 : Nat) (w : World) (hx : x.length ≤ 1099511627776) (hr0 : Kd.C Kd.string w A0 x.length x) (hc0 : x.length ≤ c0) (hr1 : Kd.C Kd.string w A1 y.length y) (hc1 : y.length ≤ c1) :
    Calls Try.prog (lessF deep) #[.slice A0 x.length c0, .slice A1 y.length c1] w fun e w' => e = .returned (.bool (bf deep x y)) ∧ Drawn0 w w' := by
  cases deep
  · obtain ⟨k, h⟩ := less_f x y hx
    exact walk_Less.calls k A0 c0 x A1 c1 y _ w hr0 hc0 hr1 hc1 h
  · obtain ⟨k, h⟩ := deeper_f x y hx
    exact walk_Deeper.calls k A0 c0 x A1 c1 y _ w hr0 hc0 hr1 hc1 h
section
variable {P : Program} {ops : Array Oper} {Q : Exit → Act → World → Prop}
theorem goesV_ {oi : Oper} {N : Option Tmp} {a : Act} {w : World} {K : Act → World → Prop} {f : FuncId} {fn : Func} {t : Operand} {xs : Array Operand} {ts : Array TypeId} (hf : P.funcs[f]? = some fn) (hname : (fn.name == "runtime.NumGoroutine") = false) (hb : fn.body.isSome = true) (args : Array Value)
    (hw : Region.wanted oi (yielded ops a.tmps) = true) (hN : oi.dst = N) (hop : oi.op = .call { callee := .value t, args := xs, argTypes := ts }) (hcal : a.eval t = .func (.func f) #[] #[]) (hargs : xs.map a.eval = args)
    (h : Calls P f args w fun e w' => ∃ v, e = .returned v ∧ K (a.put N v) w') : if Region.wanted oi (yielded ops a.tmps) = true then Oper.wp P oi a w K Q else K (a.put N undef) w := by
  refine call_ f args hw hN ?_ h
  have he := enters_ hf hname hb args w
  unfold execOp
  simp [hop, resolve, Deferred.ofValue, invoke, hcal, hargs, he]
end
theorem goesB_ {ops : Array Oper} {Q : Exit → Act → World → Prop} {oi : Oper} {N : Option Tmp} {a : Act} {w : World} {K : Act → World → Prop} {t : Operand} {xs : Array Operand} {ts : Array TypeId} (deep : Bool) (args : Array Value)
    (hw : Region.wanted oi (yielded ops a.tmps) = true) (hN : oi.dst = N) (hop : oi.op = .call { callee := .value t, args := xs, argTypes := ts }) (hcal : a.eval t = .func (.func (lessF deep)) #[] #[]) (hargs : xs.map a.eval = args)
    (h : Calls Try.prog (lessF deep) args w fun e w' => ∃ v, e = .returned v ∧ K (a.put N v) w') : if Region.wanted oi (yielded ops a.tmps) = true then Oper.wp Try.prog oi a w K Q else K (a.put N undef) w := by
  cases deep
  · exact goesV_ (f := 9) Try.func9 (by kernel_rfl) rfl args hw hN hop hcal hargs h
  · exact goesV_ (f := 11) Try.func11 (by kernel_rfl) rfl args hw hN hop hcal hargs h
/-- New. -/
theorem new_any (deep : Bool) (w : World) :
    Calls Try.prog 16 #[.bool deep] w fun e w' => e = .returned (.pointer (some ⟨w.heap.size, 0, none⟩)) ∧ w' = w.alloc (.cells #[.slice none 0 0, .func (.func (lessF deep)) #[] #[]] 51) := by
  have hu51 := Try.underlying51
  have hu49 := Try.underlying49
  go_enter Try.func16, Try.ntmps16
  cases deep
  · go_wp2
    go_ret
    exact ⟨rfl, rfl⟩
  · go_wp2
    go_ret
    exact ⟨rfl, rfl⟩
theorem len_any (deep : Bool) (p n c : Nat) (A : Option Addr) (w : World) (hb : w.heap[p]? = some (.cells #[.slice A n c, .func (.func (lessF deep)) #[] #[]] 51 (0, 0))) :
    Calls Try.prog 33 #[.pointer (some ⟨p, 0, none⟩)] w fun e w' => e = .returned (.int .i64 n) ∧ w' = w := by
  have hu51 := Try.underlying51
  have hu49 := Try.underlying49
  have hc0 := blk_cell hb 0
  go_enter Try.func33, Try.ntmps33
  go_wp2
  go_ret
  exact ⟨rfl, rfl⟩
theorem qlen_any (deep : Bool) (p n c : Nat) (A : Option Addr) (w : World) (hb : w.heap[p]? = some (.cells #[.slice A n c, .func (.func (lessF deep)) #[] #[]] 51 (0, 0))) :
    Calls Try.prog 22 #[.pointer (some ⟨p, 0, none⟩)] w fun e w' => e = .returned (.int .i64 n) ∧ w' = w := by
  have hu51 := Try.underlying51
  have hu49 := Try.underlying49
  have HB := Lib.hid hb
  go_enter Try.func22, Try.ntmps22
  go_wp2_with (first | (go_at_call 33; ((with_reducible refine (len_any deep p n c A _ HB.out).mono ?_); rintro e w1 ⟨rfl, rfl⟩)))
  go_ret
  exact ⟨rfl, rfl⟩
set_option maxHeartbeats 1000000 in
/-- Less: what the function says of the two. -/
theorem less_any (deep : Bool) (p n c : Nat) (A : Option Addr) (H : List Pth) (w : World) (hb : w.heap[p]? = some (.cells #[.slice A n c, .func (.func (lessF deep)) #[] #[]] 51 (0, 0))) (hC : Kd.C (Kd.slice 9 Kd.string) w A n H) (hl : ∀ x ∈ H, x.length ≤ 1099511627776) (i j : Nat) (hi : i < n) (hj : j < n) :
    Calls Try.prog 61 #[.pointer (some ⟨p, 0, none⟩), .int .i64 i, .int .i64 j] w fun e w' => e = .returned (.bool (bf deep (ga H i) (ga H j))) ∧ Drawn0 w w' := by
  have hn : H.length = n := hC.1
  obtain ⟨ad, A1, c1, rfl, x1, y1, z1⟩ := at_L1 hC (i : Int) (by omega) (by omega)
  obtain ⟨ad', A2, c2, e, x2, y2, z2⟩ := at_L1 hC (j : Int) (by omega) (by omega)
  injection e with e
  subst e
  have g1 : rd_L1 H (i : Int) = ga H i := rfl
  have g2 : rd_L1 H (j : Int) = ga H j := rfl
  rw [g1, Int.toNat_natCast] at x1
  rw [g1] at y1 z1
  rw [g2, Int.toNat_natCast] at x2
  rw [g2] at y2 z2
  have hl1 : (ga H i).length ≤ 1099511627776 := hl _ (by rw [ga_lt (by omega)]; exact List.getElem_mem _)
  obtain ⟨X, hX⟩ : ∃ X, ga H i = X := ⟨_, rfl⟩
  obtain ⟨Y, hY⟩ : ∃ Y, ga H j = Y := ⟨_, rfl⟩
  rw [hX] at x1 y1 z1 hl1 ⊢
  rw [hY] at x2 y2 z2 ⊢
  have hc0 := (blk_cell hb 0).trans rfl
  have hc1 := (blk_cell hb 1).trans rfl
  have hS : ∀ w', Drawn0 w w' → w'.cell? ⟨p, 0, none⟩ = some (.slice (some ad) n c) ∧ w'.cell? ⟨p, 1, none⟩ = some (.func (.func (lessF deep)) #[] #[]) ∧ w'.cell? (ad.add i) = some (.slice A1 X.length c1) ∧ w'.cell? (ad.add j) = some (.slice A2 Y.length c2) := by
    rintro w' ⟨m, rfl⟩
    exact ⟨hc0, hc1, x1, x2⟩
  have hz : ∀ w', Drawn0 w w' → Kd.C Kd.string w' A1 X.length X ∧ Kd.C Kd.string w' A2 Y.length Y := by
    rintro w' ⟨m, rfl⟩
    exact ⟨Kd.C_drewN z1 m, Kd.C_drewN z2 m⟩
  have HS := Lib.hid hS
  have HZ := Lib.hid hz
  have HY1 := Lib.hid y1
  have HY2 := Lib.hid y2
  have HL1 := Lib.hid hl1
  have hi0 : (0 : Int) ≤ (i : Int) := by omega
  have hj0 : (0 : Int) ≤ (j : Int) := by omega
  have hi1 : (i : Int) < (n : Int) := by omega
  have hj1 : (j : Int) < (n : Int) := by omega
  have hu51 := Try.underlying51
  have hu49 := Try.underlying49
  clear hC hl hn hb g1 g2 hX hY x1 x2 z1 z2 y1 y2 hl1 hc0 hc1 hS hz
  go_enter Try.func61, Try.ntmps61
  go_wp2
  refine start_ (n := 20) (S := fun w' => Drawn0 w w') (ds := []) #[false, false, false, false, false, false, false, false, false, false, false, false, false, false, false, false, false, false, false, false] (by kernel_rfl) rfl rfl ⟨1, rfl⟩ (fun hHeld => ?_)
  clear hHeld
  have hw0 : Drawn0 w w.drew := ⟨1, rfl⟩
  have HW0 := Lib.hid hw0
  clear hw0
  generalize w.drew = w1 at *
  refine pure_ (i := 0) (N := some 7) (v := ?_) (a' := ?_) #[true, false, false, false, false, false, false, false, false, false, false, false, false, false, false, false, false, false, false, false] rfl rfl (by kernel_rfl) (fun _ _ _ h => h) (Or.inl ⟨by rfl, ?_⟩) ?_ ?_
  rotate_left
  · intro w'
    go_simp
    with_reducible rfl
  rotate_left
  · simp only [Act.put, List.setIfInBounds_toArray, List.set_cons_zero, List.set_cons_succ, i64_w, i32_w]
    rfl
  refine pure_ (i := 1) (N := some 8) (v := ?_) (a' := ?_) #[true, true, false, false, false, false, false, false, false, false, false, false, false, false, false, false, false, false, false, false] rfl rfl (by kernel_rfl) (fun _ _ _ h => h) (Or.inl ⟨by rfl, ?_⟩) ?_ ?_
  rotate_left
  · intro w'
    go_simp
    with_reducible rfl
  rotate_left
  · simp only [Act.put, List.setIfInBounds_toArray, List.set_cons_zero, List.set_cons_succ, i64_w, i32_w]
    rfl
  refine pure_ (i := 2) (N := some 9) (v := ?_) (a' := ?_) #[true, true, true, false, false, false, false, false, false, false, false, false, false, false, false, false, false, false, false, false] rfl rfl (by kernel_rfl) (fun _ _ _ h => h) (Or.inl ⟨by rfl, ?_⟩) ?_ ?_
  rotate_left
  · intro w'
    go_simp
    with_reducible rfl
  rotate_left
  · simp only [Act.put, List.setIfInBounds_toArray, List.set_cons_zero, List.set_cons_succ, i64_w, i32_w]
    rfl
  refine take_ (i := 3) (N := some 10) (v := ?_) (a' := ?_) #[true, true, true, true, false, false, false, false, false, false, false, false, false, false, false, false, false, false, false, false] rfl rfl (by kernel_rfl) (fun _ _ _ h => h) (Or.inl ⟨by rfl, ?_⟩) HW0.out ?_ ?_
  rotate_left
  · intro w' s0
    obtain ⟨x0, x1, x2, x3⟩ := HS.out w' s0
    go_simp
    with_reducible rfl
  rotate_left
  · simp only [Act.put, List.setIfInBounds_toArray, List.set_cons_zero, List.set_cons_succ, i64_w, i32_w]
    rfl
  refine pure_ (i := 4) (N := some 11) (v := ?_) (a' := ?_) #[true, true, true, true, true, false, false, false, false, false, false, false, false, false, false, false, false, false, false, false] rfl rfl (by kernel_rfl) (fun _ _ _ h => h) (Or.inl ⟨by rfl, ?_⟩) ?_ ?_
  rotate_left
  · intro w'
    go_simp
    with_reducible rfl
  rotate_left
  · simp only [Act.put, List.setIfInBounds_toArray, List.set_cons_zero, List.set_cons_succ, i64_w, i32_w]
    rfl
  refine pure_ (i := 5) (N := some 12) (v := ?_) (a' := ?_) #[true, true, true, true, true, true, false, false, false, false, false, false, false, false, false, false, false, false, false, false] rfl rfl (by kernel_rfl) (fun _ _ _ h => h) (Or.inl ⟨by rfl, ?_⟩) ?_ ?_
  rotate_left
  · intro w'
    go_simp
    with_reducible rfl
  rotate_left
  · simp only [Act.put, List.setIfInBounds_toArray, List.set_cons_zero, List.set_cons_succ, i64_w, i32_w]
    rfl
  refine pure_ (i := 6) (N := some 13) (v := ?_) (a' := ?_) #[true, true, true, true, true, true, true, false, false, false, false, false, false, false, false, false, false, false, false, false] rfl rfl (by kernel_rfl) (fun _ _ _ h => h) (Or.inl ⟨by rfl, ?_⟩) ?_ ?_
  rotate_left
  · intro w'
    go_simp
    with_reducible rfl
  rotate_left
  · simp only [Act.put, List.setIfInBounds_toArray, List.set_cons_zero, List.set_cons_succ, i64_w, i32_w]
    rfl
  refine take_ (i := 7) (N := some 14) (v := ?_) (a' := ?_) #[true, true, true, true, true, true, true, true, false, false, false, false, false, false, false, false, false, false, false, false] rfl rfl (by kernel_rfl) (fun _ _ _ h => h) (Or.inl ⟨by rfl, ?_⟩) HW0.out ?_ ?_
  rotate_left
  · intro w' s0
    obtain ⟨x0, x1, x2, x3⟩ := HS.out w' s0
    go_simp
    with_reducible rfl
  rotate_left
  · simp only [Act.put, List.setIfInBounds_toArray, List.set_cons_zero, List.set_cons_succ, i64_w, i32_w]
    rfl
  refine pure_ (i := 8) (N := some 15) (v := ?_) (a' := ?_) #[true, true, true, true, true, true, true, true, true, false, false, false, false, false, false, false, false, false, false, false] rfl rfl (by kernel_rfl) (fun _ _ _ h => h) (Or.inl ⟨by rfl, ?_⟩) ?_ ?_
  rotate_left
  · intro w'
    go_simp
    with_reducible rfl
  rotate_left
  · simp only [Act.put, List.setIfInBounds_toArray, List.set_cons_zero, List.set_cons_succ, i64_w, i32_w]
    rfl
  refine pure_ (i := 9) (N := some 16) (v := ?_) (a' := ?_) #[true, true, true, true, true, true, true, true, true, true, false, false, false, false, false, false, false, false, false, false] rfl rfl (by kernel_rfl) (fun _ _ _ h => h) (Or.inl ⟨by rfl, ?_⟩) ?_ ?_
  rotate_left
  · intro w'
    go_simp
    with_reducible rfl
  rotate_left
  · simp only [Act.put, List.setIfInBounds_toArray, List.set_cons_zero, List.set_cons_succ, i64_w, i32_w]
    rfl
  refine take_ (i := 10) (N := some 17) (v := ?_) (a' := ?_) #[true, true, true, true, true, true, true, true, true, true, true, false, false, false, false, false, false, false, false, false] rfl rfl (by kernel_rfl) (fun _ _ _ h => h) (Or.inl ⟨by rfl, ?_⟩) HW0.out ?_ ?_
  rotate_left
  · intro w' s0
    obtain ⟨x0, x1, x2, x3⟩ := HS.out w' s0
    go_simp
    with_reducible rfl
  rotate_left
  · simp only [Act.put, List.setIfInBounds_toArray, List.set_cons_zero, List.set_cons_succ, i64_w, i32_w]
    rfl
  refine pure_ (i := 11) (N := some 18) (v := ?_) (a' := ?_) #[true, true, true, true, true, true, true, true, true, true, true, true, false, false, false, false, false, false, false, false] rfl rfl (by kernel_rfl) (fun _ _ _ h => h) (Or.inl ⟨by rfl, ?_⟩) ?_ ?_
  rotate_left
  · intro w'
    go_simp
    with_reducible rfl
  rotate_left
  · simp only [Act.put, List.setIfInBounds_toArray, List.set_cons_zero, List.set_cons_succ, i64_w, i32_w]
    rfl
  refine pure_ (i := 12) (N := some 19) (v := ?_) (a' := ?_) #[true, true, true, true, true, true, true, true, true, true, true, true, true, false, false, false, false, false, false, false] rfl rfl (by kernel_rfl) (fun _ _ _ h => h) (Or.inl ⟨by rfl, ?_⟩) ?_ ?_
  rotate_left
  · intro w'
    go_simp
    with_reducible rfl
  rotate_left
  · simp only [Act.put, List.setIfInBounds_toArray, List.set_cons_zero, List.set_cons_succ, i64_w, i32_w]
    rfl
  refine pure_ (i := 13) (N := some 20) (v := ?_) (a' := ?_) #[true, true, true, true, true, true, true, true, true, true, true, true, true, true, false, false, false, false, false, false] rfl rfl (by kernel_rfl) (fun _ _ _ h => h) (Or.inl ⟨by rfl, ?_⟩) ?_ ?_
  rotate_left
  · intro w'
    go_simp
    with_reducible rfl
  rotate_left
  · simp only [Act.put, List.setIfInBounds_toArray, List.set_cons_zero, List.set_cons_succ, i64_w, i32_w]
    rfl
  refine take_ (i := 14) (N := some 21) (v := ?_) (a' := ?_) #[true, true, true, true, true, true, true, true, true, true, true, true, true, true, true, false, false, false, false, false] rfl rfl (by kernel_rfl) (fun _ _ _ h => h) (Or.inl ⟨by rfl, ?_⟩) HW0.out ?_ ?_
  rotate_left
  · intro w' s0
    obtain ⟨x0, x1, x2, x3⟩ := HS.out w' s0
    go_simp
    with_reducible rfl
  rotate_left
  · simp only [Act.put, List.setIfInBounds_toArray, List.set_cons_zero, List.set_cons_succ, i64_w, i32_w]
    rfl
  refine pure_ (i := 15) (N := some 22) (v := ?_) (a' := ?_) #[true, true, true, true, true, true, true, true, true, true, true, true, true, true, true, true, false, false, false, false] rfl rfl (by kernel_rfl) (fun _ _ _ h => h) (Or.inl ⟨by rfl, ?_⟩) ?_ ?_
  rotate_left
  · intro w'
    go_simp
    with_reducible rfl
  rotate_left
  · simp only [Act.put, List.setIfInBounds_toArray, List.set_cons_zero, List.set_cons_succ, i64_w, i32_w]
    rfl
  refine pure_ (i := 16) (N := some 23) (v := ?_) (a' := ?_) #[true, true, true, true, true, true, true, true, true, true, true, true, true, true, true, true, true, false, false, false] rfl rfl (by kernel_rfl) (fun _ _ _ h => h) (Or.inl ⟨by rfl, ?_⟩) ?_ ?_
  rotate_left
  · intro w'
    go_simp
    with_reducible rfl
  rotate_left
  · simp only [Act.put, List.setIfInBounds_toArray, List.set_cons_zero, List.set_cons_succ, i64_w, i32_w]
    rfl
  refine take_ (i := 17) (N := some 24) (v := ?_) (a' := ?_) #[true, true, true, true, true, true, true, true, true, true, true, true, true, true, true, true, true, true, false, false] rfl rfl (by kernel_rfl) (fun _ _ _ h => h) (Or.inl ⟨by rfl, ?_⟩) HW0.out ?_ ?_
  rotate_left
  · intro w' s0
    obtain ⟨x0, x1, x2, x3⟩ := HS.out w' s0
    go_simp
    with_reducible rfl
  rotate_left
  · simp only [Act.put, List.setIfInBounds_toArray, List.set_cons_zero, List.set_cons_succ, i64_w, i32_w]
    rfl
  refine one_ (i := 18) (N := some 25) #[true, true, true, true, true, true, true, true, true, true, true, true, true, true, true, true, true, true, true, false] rfl rfl (by kernel_rfl) (by decide) (fun K hK => ?_)
  refine goesB_ deep #[.slice A1 X.length c1, .slice A2 Y.length c2] (by rfl) rfl rfl (by rfl) (by (try simp only [List.map_toArray, List.map_cons, List.map_nil]); first | done | rfl) ?_
  with_reducible refine (by_any deep X Y A1 c1 A2 c2 w1 HL1.out (HZ.out _ HW0.out).1 HY1.out (HZ.out _ HW0.out).2 HY2.out).mono ?_
  rintro e wn ⟨rfl, hd⟩
  refine ⟨_, rfl, ?_⟩
  have hw2 : Drawn0 w wn := drawn_trans HW0.out hd
  have HW2 := Lib.hid hw2
  refine hK _ _ hw2 (fun _ => ?_)
  clear hw2 hd
  refine norm_ (a' := ?_) ?_ ?_
  rotate_left
  · simp only [Act.put, List.setIfInBounds_toArray, List.set_cons_zero, List.set_cons_succ, i64_w, i32_w]
    rfl
  refine pure_ (i := 19) (N := some 6) (v := ?_) (a' := ?_) #[true, true, true, true, true, true, true, true, true, true, true, true, true, true, true, true, true, true, true, true] rfl rfl (by kernel_rfl) (fun _ _ _ h => h) (Or.inl ⟨by rfl, ?_⟩) ?_ ?_
  rotate_left
  · intro w'
    go_simp
    with_reducible rfl
  rotate_left
  · simp only [Act.put, List.setIfInBounds_toArray, List.set_cons_zero, List.set_cons_succ, i64_w, i32_w]
    rfl
  refine done_ (by kernel_rfl) ?_
  go_wp2
  go_ret
  exact ⟨rfl, HW2.out⟩
abbrev KP : Kd Pth := Kd.slice 9 Kd.string
/-- A row's header at place i, and that it may be written. -/
theorem row_get {w : World} {base g n cap : Nat} {ok : Nat → Prop} {H : List Pth} (h : Kd.N KP 22 w base ok (.slice (some ⟨g, 0, none⟩) n cap) H) (i : Nat) (hi : i < n) :
    ∃ A c, w.cell? ⟨g, i, none⟩ = some (.slice A (ga H i).length c) ∧ w.frozen? ⟨g, i, none⟩ = false ∧ (ga H i).length ≤ c ∧ Kd.F Kd.string w (fun k => ok k ∧ k ≠ g) A (ga H i).length (ga H i) := by
  obtain ⟨c0, h1, h2, h3, h4⟩ := Kd.N_elem h [] (i : Int) (by omega) (by omega)
  obtain ⟨A, c, h5, h6, h7⟩ := Kd.FK_slice_open h2
  subst h5
  have h8 := h3 0 _ rfl
  have h9 := h4 0
  rw [Int.toNat_natCast, show KP.sz = 1 from rfl, Nat.mul_one, Nat.add_zero] at h8 h9
  rw [Int.toNat_natCast] at h6 h7
  exact ⟨A, c, h8, h9, h6, h7⟩
theorem row_set {w : World} {base g n cap c : Nat} {A : Option Addr} {ok : Nat → Prop} {H : List Pth} {x : Pth} (h : Kd.N KP 22 w base ok (.slice (some ⟨g, 0, none⟩) n cap) H) (i : Nat) (hi : i < n) (hc : x.length ≤ c) (hF : Kd.F Kd.string w (fun k => ok k ∧ k ≠ g) A x.length x) :
    Kd.N KP 22 (w.setCell ⟨g, i, none⟩ (.slice A x.length c)) base ok (.slice (some ⟨g, 0, none⟩) n cap) (H.set i x) ∧ w.grownBy (w.setCell ⟨g, i, none⟩ (.slice A x.length c)) (some g) := by
  obtain ⟨c0, h1, h2, h3, h4⟩ := Kd.N_elem h [] (i : Int) (by omega) (by omega)
  have h5 := Kd.N_seg h (i : Int) (by omega) (by omega) (c := c0) (seg := [.slice A x.length c]) (j := 0) (x' := x) (okp := fun k => ok k ∧ k ≠ g) h1 h3 (by simp [KP, Kd.slice]) (by
    have : c0.drop 1 = [] := List.drop_eq_nil_of_le (by rw [h1]; decide)
    rw [List.take_zero, List.nil_append]
    simp only [List.length_cons, List.length_nil, Nat.zero_add]
    rw [this, List.append_nil]
    exact Kd.FK_slice_mk hc hF) (fun k hk => hk)
  rw [Int.toNat_natCast, show KP.sz = 1 from rfl, Nat.mul_one, Nat.add_zero] at h5
  exact h5
set_option maxHeartbeats 1000000 in
/-- Swap. -/
theorem swap_any (deep : Bool) (p g n c base : Nat) (ok : Nat → Prop) (H : List Pth) (w : World) (hb : w.heap[p]? = some (.cells #[.slice (some ⟨g, 0, none⟩) n c, .func (.func (lessF deep)) #[] #[]] 51 (0, 0))) (hN : Kd.N KP 22 w base ok (.slice (some ⟨g, 0, none⟩) n c) H) (i j : Nat) (hi : i < n) (hj : j < n) :
    Calls Try.prog 64 #[.pointer (some ⟨p, 0, none⟩), .int .i64 i, .int .i64 j] w fun e w' => e = .returned (.tuple #[]) ∧ Kd.N KP 22 w' base ok (.slice (some ⟨g, 0, none⟩) n c) (sw H i j) ∧ w.grownBy w' (some g) := by
  obtain ⟨A1, c1, x1, f1, y1, z1⟩ := row_get hN i hi
  obtain ⟨A2, c2, x2, f2, y2, z2⟩ := row_get hN j hj
  obtain ⟨X, hX⟩ : ∃ X, ga H i = X := ⟨_, rfl⟩
  obtain ⟨Y, hY⟩ : ∃ Y, ga H j = Y := ⟨_, rfl⟩
  rw [hX] at x1 y1 z1
  rw [hY] at x2 y2 z2
  have hc0 := (blk_cell hb 0).trans rfl
  obtain ⟨ad, had⟩ : ∃ ad : Addr, ad = ⟨g, 0, none⟩ := ⟨_, rfl⟩
  have hai : ad.add i = ⟨g, i, none⟩ := by rw [had, add_at, Nat.zero_add]
  have haj : ad.add j = ⟨g, j, none⟩ := by rw [had, add_at, Nat.zero_add]
  rw [← had] at hc0
  rw [← hai] at x1 f1
  rw [← haj] at x2 f2
  have hS : ∀ w', Drawn0 w w' → w'.cell? ⟨p, 0, none⟩ = some (.slice (some ad) n c) ∧ w'.cell? (ad.add i) = some (.slice A1 X.length c1) ∧ w'.cell? (ad.add j) = some (.slice A2 Y.length c2) ∧ w'.frozen? (ad.add i) = false := by
    rintro w' ⟨m, rfl⟩
    exact ⟨hc0, x1, x2, f1⟩
  have HS := Lib.hid hS
  have hi0 : (0 : Int) ≤ (i : Int) := by omega
  have hj0 : (0 : Int) ≤ (j : Int) := by omega
  have hi1 : (i : Int) < (n : Int) := by omega
  have hj1 : (j : Int) < (n : Int) := by omega
  have HNN := Lib.hid hN
  have HY1 := Lib.hid y1
  have HY2 := Lib.hid y2
  have HZ1 := Lib.hid z1
  have HZ2 := Lib.hid z2
  have HX := Lib.hid hX
  have HY := Lib.hid hY
  have HAI := Lib.hid hai
  have HAJ := Lib.hid haj
  have hu51 := Try.underlying51
  have hu49 := Try.underlying49
  have hu26 := Try.underlying26
  clear hN hb hX hY x1 x2 z1 z2 y1 y2 f1 f2 hc0 hS hai haj had
  go_enter Try.func64, Try.ntmps64
  refine start_ (n := 28) (S := fun w' => Drawn0 w w') (ds := [25, 27]) #[false, false, false, false, false, false, false, false, false, false, false, false, false, false, false, false, false, false, false, false, false, false, false, false, false, false, false, false] (by kernel_rfl) rfl rfl ⟨1, rfl⟩ (fun hHeld => ?_)
  clear hHeld
  have hw0 : Drawn0 w w.drew := ⟨1, rfl⟩
  have HW0 := Lib.hid hw0
  clear hw0
  generalize w.drew = w1 at *
  refine pure_ (i := 0) (N := some 6) (v := ?_) (a' := ?_) #[true, false, false, false, false, false, false, false, false, false, false, false, false, false, false, false, false, false, false, false, false, false, false, false, false, false, false, false] rfl rfl (by kernel_rfl) (fun _ _ _ h => h) (Or.inl ⟨by rfl, ?_⟩) ?_ ?_
  rotate_left
  · intro w'
    go_simp
    with_reducible rfl
  rotate_left
  · simp only [Act.put, List.setIfInBounds_toArray, List.set_cons_zero, List.set_cons_succ, i64_w, i32_w]
    rfl
  refine pure_ (i := 1) (N := some 7) (v := ?_) (a' := ?_) #[true, true, false, false, false, false, false, false, false, false, false, false, false, false, false, false, false, false, false, false, false, false, false, false, false, false, false, false] rfl rfl (by kernel_rfl) (fun _ _ _ h => h) (Or.inl ⟨by rfl, ?_⟩) ?_ ?_
  rotate_left
  · intro w'
    go_simp
    with_reducible rfl
  rotate_left
  · simp only [Act.put, List.setIfInBounds_toArray, List.set_cons_zero, List.set_cons_succ, i64_w, i32_w]
    rfl
  refine pure_ (i := 2) (N := some 8) (v := ?_) (a' := ?_) #[true, true, true, false, false, false, false, false, false, false, false, false, false, false, false, false, false, false, false, false, false, false, false, false, false, false, false, false] rfl rfl (by kernel_rfl) (fun _ _ _ h => h) (Or.inl ⟨by rfl, ?_⟩) ?_ ?_
  rotate_left
  · intro w'
    go_simp
    with_reducible rfl
  rotate_left
  · simp only [Act.put, List.setIfInBounds_toArray, List.set_cons_zero, List.set_cons_succ, i64_w, i32_w]
    rfl
  refine take_ (i := 3) (N := some 9) (v := ?_) (a' := ?_) #[true, true, true, true, false, false, false, false, false, false, false, false, false, false, false, false, false, false, false, false, false, false, false, false, false, false, false, false] rfl rfl (by kernel_rfl) (fun _ _ _ h => h) (Or.inl ⟨by rfl, ?_⟩) HW0.out ?_ ?_
  rotate_left
  · intro w' s0
    obtain ⟨x0, x1, x2, x3⟩ := HS.out w' s0
    go_simp
    with_reducible rfl
  rotate_left
  · simp only [Act.put, List.setIfInBounds_toArray, List.set_cons_zero, List.set_cons_succ, i64_w, i32_w]
    rfl
  refine pure_ (i := 4) (N := some 10) (v := ?_) (a' := ?_) #[true, true, true, true, true, false, false, false, false, false, false, false, false, false, false, false, false, false, false, false, false, false, false, false, false, false, false, false] rfl rfl (by kernel_rfl) (fun _ _ _ h => h) (Or.inl ⟨by rfl, ?_⟩) ?_ ?_
  rotate_left
  · intro w'
    go_simp
    with_reducible rfl
  rotate_left
  · simp only [Act.put, List.setIfInBounds_toArray, List.set_cons_zero, List.set_cons_succ, i64_w, i32_w]
    rfl
  refine pure_ (i := 5) (N := some 11) (v := ?_) (a' := ?_) #[true, true, true, true, true, true, false, false, false, false, false, false, false, false, false, false, false, false, false, false, false, false, false, false, false, false, false, false] rfl rfl (by kernel_rfl) (fun _ _ _ h => h) (Or.inl ⟨by rfl, ?_⟩) ?_ ?_
  rotate_left
  · intro w'
    go_simp
    with_reducible rfl
  rotate_left
  · simp only [Act.put, List.setIfInBounds_toArray, List.set_cons_zero, List.set_cons_succ, i64_w, i32_w]
    rfl
  refine pure_ (i := 6) (N := some 12) (v := ?_) (a' := ?_) #[true, true, true, true, true, true, true, false, false, false, false, false, false, false, false, false, false, false, false, false, false, false, false, false, false, false, false, false] rfl rfl (by kernel_rfl) (fun _ _ _ h => h) (Or.inl ⟨by rfl, ?_⟩) ?_ ?_
  rotate_left
  · intro w'
    go_simp
    with_reducible rfl
  rotate_left
  · simp only [Act.put, List.setIfInBounds_toArray, List.set_cons_zero, List.set_cons_succ, i64_w, i32_w]
    rfl
  refine pure_ (i := 7) (N := some 13) (v := ?_) (a' := ?_) #[true, true, true, true, true, true, true, true, false, false, false, false, false, false, false, false, false, false, false, false, false, false, false, false, false, false, false, false] rfl rfl (by kernel_rfl) (fun _ _ _ h => h) (Or.inl ⟨by rfl, ?_⟩) ?_ ?_
  rotate_left
  · intro w'
    go_simp
    with_reducible rfl
  rotate_left
  · simp only [Act.put, List.setIfInBounds_toArray, List.set_cons_zero, List.set_cons_succ, i64_w, i32_w]
    rfl
  refine take_ (i := 8) (N := some 14) (v := ?_) (a' := ?_) #[true, true, true, true, true, true, true, true, true, false, false, false, false, false, false, false, false, false, false, false, false, false, false, false, false, false, false, false] rfl rfl (by kernel_rfl) (fun _ _ _ h => h) (Or.inl ⟨by rfl, ?_⟩) HW0.out ?_ ?_
  rotate_left
  · intro w' s0
    obtain ⟨x0, x1, x2, x3⟩ := HS.out w' s0
    go_simp
    with_reducible rfl
  rotate_left
  · simp only [Act.put, List.setIfInBounds_toArray, List.set_cons_zero, List.set_cons_succ, i64_w, i32_w]
    rfl
  refine pure_ (i := 9) (N := some 15) (v := ?_) (a' := ?_) #[true, true, true, true, true, true, true, true, true, true, false, false, false, false, false, false, false, false, false, false, false, false, false, false, false, false, false, false] rfl rfl (by kernel_rfl) (fun _ _ _ h => h) (Or.inl ⟨by rfl, ?_⟩) ?_ ?_
  rotate_left
  · intro w'
    go_simp
    with_reducible rfl
  rotate_left
  · simp only [Act.put, List.setIfInBounds_toArray, List.set_cons_zero, List.set_cons_succ, i64_w, i32_w]
    rfl
  refine pure_ (i := 10) (N := some 16) (v := ?_) (a' := ?_) #[true, true, true, true, true, true, true, true, true, true, true, false, false, false, false, false, false, false, false, false, false, false, false, false, false, false, false, false] rfl rfl (by kernel_rfl) (fun _ _ _ h => h) (Or.inl ⟨by rfl, ?_⟩) ?_ ?_
  rotate_left
  · intro w'
    go_simp
    with_reducible rfl
  rotate_left
  · simp only [Act.put, List.setIfInBounds_toArray, List.set_cons_zero, List.set_cons_succ, i64_w, i32_w]
    rfl
  refine pure_ (i := 11) (N := some 17) (v := ?_) (a' := ?_) #[true, true, true, true, true, true, true, true, true, true, true, true, false, false, false, false, false, false, false, false, false, false, false, false, false, false, false, false] rfl rfl (by kernel_rfl) (fun _ _ _ h => h) (Or.inl ⟨by rfl, ?_⟩) ?_ ?_
  rotate_left
  · intro w'
    go_simp
    with_reducible rfl
  rotate_left
  · simp only [Act.put, List.setIfInBounds_toArray, List.set_cons_zero, List.set_cons_succ, i64_w, i32_w]
    rfl
  refine pure_ (i := 12) (N := some 18) (v := ?_) (a' := ?_) #[true, true, true, true, true, true, true, true, true, true, true, true, true, false, false, false, false, false, false, false, false, false, false, false, false, false, false, false] rfl rfl (by kernel_rfl) (fun _ _ _ h => h) (Or.inl ⟨by rfl, ?_⟩) ?_ ?_
  rotate_left
  · intro w'
    go_simp
    with_reducible rfl
  rotate_left
  · simp only [Act.put, List.setIfInBounds_toArray, List.set_cons_zero, List.set_cons_succ, i64_w, i32_w]
    rfl
  refine take_ (i := 13) (N := some 19) (v := ?_) (a' := ?_) #[true, true, true, true, true, true, true, true, true, true, true, true, true, true, false, false, false, false, false, false, false, false, false, false, false, false, false, false] rfl rfl (by kernel_rfl) (fun _ _ _ h => h) (Or.inl ⟨by rfl, ?_⟩) HW0.out ?_ ?_
  rotate_left
  · intro w' s0
    obtain ⟨x0, x1, x2, x3⟩ := HS.out w' s0
    go_simp
    with_reducible rfl
  rotate_left
  · simp only [Act.put, List.setIfInBounds_toArray, List.set_cons_zero, List.set_cons_succ, i64_w, i32_w]
    rfl
  refine pure_ (i := 14) (N := some 20) (v := ?_) (a' := ?_) #[true, true, true, true, true, true, true, true, true, true, true, true, true, true, true, false, false, false, false, false, false, false, false, false, false, false, false, false] rfl rfl (by kernel_rfl) (fun _ _ _ h => h) (Or.inl ⟨by rfl, ?_⟩) ?_ ?_
  rotate_left
  · intro w'
    go_simp
    with_reducible rfl
  rotate_left
  · simp only [Act.put, List.setIfInBounds_toArray, List.set_cons_zero, List.set_cons_succ, i64_w, i32_w]
    rfl
  refine pure_ (i := 15) (N := some 21) (v := ?_) (a' := ?_) #[true, true, true, true, true, true, true, true, true, true, true, true, true, true, true, true, false, false, false, false, false, false, false, false, false, false, false, false] rfl rfl (by kernel_rfl) (fun _ _ _ h => h) (Or.inl ⟨by rfl, ?_⟩) ?_ ?_
  rotate_left
  · intro w'
    go_simp
    with_reducible rfl
  rotate_left
  · simp only [Act.put, List.setIfInBounds_toArray, List.set_cons_zero, List.set_cons_succ, i64_w, i32_w]
    rfl
  refine take_ (i := 16) (N := some 22) (v := ?_) (a' := ?_) #[true, true, true, true, true, true, true, true, true, true, true, true, true, true, true, true, true, false, false, false, false, false, false, false, false, false, false, false] rfl rfl (by kernel_rfl) (fun _ _ _ h => h) (Or.inl ⟨by rfl, ?_⟩) HW0.out ?_ ?_
  rotate_left
  · intro w' s0
    obtain ⟨x0, x1, x2, x3⟩ := HS.out w' s0
    go_simp
    with_reducible rfl
  rotate_left
  · simp only [Act.put, List.setIfInBounds_toArray, List.set_cons_zero, List.set_cons_succ, i64_w, i32_w]
    rfl
  refine pure_ (i := 17) (N := some 23) (v := ?_) (a' := ?_) #[true, true, true, true, true, true, true, true, true, true, true, true, true, true, true, true, true, true, false, false, false, false, false, false, false, false, false, false] rfl rfl (by kernel_rfl) (fun _ _ _ h => h) (Or.inl ⟨by rfl, ?_⟩) ?_ ?_
  rotate_left
  · intro w'
    go_simp
    with_reducible rfl
  rotate_left
  · simp only [Act.put, List.setIfInBounds_toArray, List.set_cons_zero, List.set_cons_succ, i64_w, i32_w]
    rfl
  refine pure_ (i := 18) (N := some 24) (v := ?_) (a' := ?_) #[true, true, true, true, true, true, true, true, true, true, true, true, true, true, true, true, true, true, true, false, false, false, false, false, false, false, false, false] rfl rfl (by kernel_rfl) (fun _ _ _ h => h) (Or.inl ⟨by rfl, ?_⟩) ?_ ?_
  rotate_left
  · intro w'
    go_simp
    with_reducible rfl
  rotate_left
  · simp only [Act.put, List.setIfInBounds_toArray, List.set_cons_zero, List.set_cons_succ, i64_w, i32_w]
    rfl
  refine pure_ (i := 19) (N := some 25) (v := ?_) (a' := ?_) #[true, true, true, true, true, true, true, true, true, true, true, true, true, true, true, true, true, true, true, true, false, false, false, false, false, false, false, false] rfl rfl (by kernel_rfl) (fun _ _ _ h => h) (Or.inl ⟨by rfl, ?_⟩) ?_ ?_
  rotate_left
  · intro w'
    go_simp
    with_reducible rfl
  rotate_left
  · simp only [Act.put, List.setIfInBounds_toArray, List.set_cons_zero, List.set_cons_succ, i64_w, i32_w]
    rfl
  refine take_ (i := 20) (N := some 26) (v := ?_) (a' := ?_) #[true, true, true, true, true, true, true, true, true, true, true, true, true, true, true, true, true, true, true, true, true, false, false, false, false, false, false, false] rfl rfl (by kernel_rfl) (fun _ _ _ h => h) (Or.inl ⟨by rfl, ?_⟩) HW0.out ?_ ?_
  rotate_left
  · intro w' s0
    obtain ⟨x0, x1, x2, x3⟩ := HS.out w' s0
    go_simp
    with_reducible rfl
  rotate_left
  · simp only [Act.put, List.setIfInBounds_toArray, List.set_cons_zero, List.set_cons_succ, i64_w, i32_w]
    rfl
  refine pure_ (i := 21) (N := some 27) (v := ?_) (a' := ?_) #[true, true, true, true, true, true, true, true, true, true, true, true, true, true, true, true, true, true, true, true, true, true, false, false, false, false, false, false] rfl rfl (by kernel_rfl) (fun _ _ _ h => h) (Or.inl ⟨by rfl, ?_⟩) ?_ ?_
  rotate_left
  · intro w'
    go_simp
    with_reducible rfl
  rotate_left
  · simp only [Act.put, List.setIfInBounds_toArray, List.set_cons_zero, List.set_cons_succ, i64_w, i32_w]
    rfl
  refine pure_ (i := 22) (N := some 28) (v := ?_) (a' := ?_) #[true, true, true, true, true, true, true, true, true, true, true, true, true, true, true, true, true, true, true, true, true, true, true, false, false, false, false, false] rfl rfl (by kernel_rfl) (fun _ _ _ h => h) (Or.inl ⟨by rfl, ?_⟩) ?_ ?_
  rotate_left
  · intro w'
    go_simp
    with_reducible rfl
  rotate_left
  · simp only [Act.put, List.setIfInBounds_toArray, List.set_cons_zero, List.set_cons_succ, i64_w, i32_w]
    rfl
  refine take_ (i := 23) (N := some 29) (v := ?_) (a' := ?_) #[true, true, true, true, true, true, true, true, true, true, true, true, true, true, true, true, true, true, true, true, true, true, true, true, false, false, false, false] rfl rfl (by kernel_rfl) (fun _ _ _ h => h) (Or.inl ⟨by rfl, ?_⟩) HW0.out ?_ ?_
  rotate_left
  · intro w' s0
    obtain ⟨x0, x1, x2, x3⟩ := HS.out w' s0
    go_simp
    with_reducible rfl
  rotate_left
  · simp only [Act.put, List.setIfInBounds_toArray, List.set_cons_zero, List.set_cons_succ, i64_w, i32_w]
    rfl
  refine pure_ (i := 24) (N := some 30) (v := ?_) (a' := ?_) #[true, true, true, true, true, true, true, true, true, true, true, true, true, true, true, true, true, true, true, true, true, true, true, true, true, false, false, false] rfl rfl (by kernel_rfl) (fun _ _ _ h => h) (Or.inl ⟨by rfl, ?_⟩) ?_ ?_
  rotate_left
  · intro w'
    go_simp
    with_reducible rfl
  rotate_left
  · simp only [Act.put, List.setIfInBounds_toArray, List.set_cons_zero, List.set_cons_succ, i64_w, i32_w]
    rfl
  refine last_ (i := 25) (N := none) #[true, true, true, true, true, true, true, true, true, true, true, true, true, true, true, true, true, true, true, true, true, true, true, true, true, true, false, false] rfl rfl (by kernel_rfl) (by decide) (fun K hK => ?_)
  rw [if_pos (by rfl)]
  unfold Oper.wp
  obtain ⟨x0, x1, x2, x3⟩ := HS.out w1 HW0.out
  go_simp
  refine hK _ _ ?_
  have hd := HW0.out.below
  have hn1 := Kd.N_below HNN.out hd
  have hF1 := Kd.F_step HZ1.out (fun k _ hlt => hd.block k hlt)
  have hF2 := Kd.F_step HZ2.out (fun k _ hlt => hd.block k hlt)
  obtain ⟨q1, q2⟩ := row_set hn1 i hi HY2.out hF2
  have hF3 := Kd.F_step hF1 (fun k hk hlt => q2.block k hlt (fun e => hk.2 (by injection e)))
  have q3 := grown_trans (grown_of_below hd (some g)) q2
  rw [← HAI.out] at q1 hF3 q3
  obtain ⟨A9, c9, t1, t2, -, -⟩ := row_get q1 j hj
  rw [← HAJ.out] at t1 t2
  have HQ1 := Lib.hid q1
  have HQ3 := Lib.hid q3
  have HF3 := Lib.hid hF3
  have HT1 := Lib.hid t1
  have HT2 := Lib.hid t2
  clear x0 x1 x2 x3 hd hn1 hF1 hF2 q1 q2 hF3 q3 t1 t2 HS HNN
  generalize w1.setCell (ad.add i) (.slice A2 Y.length c2) = w2 at *
  refine pure_ (i := 26) (N := some 31) (v := ?_) (a' := ?_) #[true, true, true, true, true, true, true, true, true, true, true, true, true, true, true, true, true, true, true, true, true, true, true, true, true, true, true, false] rfl rfl (by kernel_rfl) (fun _ _ _ h => h) (Or.inl ⟨by rfl, ?_⟩) ?_ ?_
  rotate_left
  · intro w'
    go_simp
    with_reducible rfl
  rotate_left
  · simp only [Act.put, List.setIfInBounds_toArray, List.set_cons_zero, List.set_cons_succ, i64_w, i32_w]
    rfl
  refine last_ (i := 27) (N := none) #[true, true, true, true, true, true, true, true, true, true, true, true, true, true, true, true, true, true, true, true, true, true, true, true, true, true, true, true] rfl rfl (by kernel_rfl) (by decide) (fun K hK => ?_)
  rw [if_pos (by rfl)]
  unfold Oper.wp
  have x0 := HT1.out
  have x1 := HT2.out
  go_simp
  refine hK _ _ ?_
  obtain ⟨q1, q2⟩ := row_set HQ1.out j hj HY1.out HF3.out
  have q3 := grown_trans HQ3.out q2
  rw [← HAJ.out] at q1 q3
  refine done_ (by kernel_rfl) ?_
  refine bodyPost_end (v := .tuple #[]) (by simp [results, Try.results64, go_sem]) rfl ⟨rfl, ?_, q3⟩
  unfold sw
  rw [HX.out, HY.out]
  exact q1
/-! ### The queue -/
def Own (w : World) (base k : Nat) : Prop := base ≤ k ∧ ∃ cells t, w.heap[k]? = some (.cells cells t (0, 0)) ∧ (t = 9 ∨ t = 22)
def QB (deep : Bool) (A : Option Addr) (n c : Nat) : Obj := .cells #[.slice A n c, .func (.func (lessF deep)) #[] #[]] 51
/-- What a queue holds: its rows as a list. -/
structure QAt (base : Nat) (ok : Nat → Prop) (w : World) (p : Nat) (deep : Bool) (A : Option Addr) (n c : Nat) (H : List Pth) : Prop where
  blk : w.heap[p]? = some (.cells #[.slice A n c, .func (.func (lessF deep)) #[] #[]] 51 (0, 0))
  hp : base ≤ p
  rows : Kd.N KP 22 w base ok (.slice A n c) H
  own : ∀ k, ok k → Own w base k
  light : ∀ x ∈ H, x.length ≤ 1099511627776
/-- What a call on a queue leaves as it was. -/
structure Moved (base : Nat) (w w' : World) (p : Nat) (v v' : Value) : Prop where
  below : Below base w w'
  block : ∀ k, k < w.heap.size → k ≠ p → some k ≠ v.ownBlock → w'.heap[k]? = w.heap[k]?
  at_ : v'.ownBlock = v.ownBlock ∨ ∃ b, v'.ownBlock = some b ∧ w.heap.size ≤ b
theorem QAt.len {base : Nat} {ok : Nat → Prop} {w : World} {p : Nat} {deep : Bool} {A : Option Addr} {n c : Nat} {H : List Pth} (h : QAt base ok w p deep A n c H) : n = H.length := (Kd.N_reads' h.rows).1
theorem QAt.lt {base : Nat} {ok : Nat → Prop} {w : World} {p : Nat} {deep : Bool} {A : Option Addr} {n c : Nat} {H : List Pth} (h : QAt base ok w p deep A n c H) : p < w.heap.size := blk_lt h.blk
theorem Own.below {w w' : World} {base k : Nat} (h : Own w base k) (hb : Below w.heap.size w w') : Own w' base k := by
  obtain ⟨h1, cs, t, h2, h3⟩ := h
  exact ⟨h1, cs, t, blk_below h2 hb, h3⟩
theorem QAt.below {base : Nat} {ok : Nat → Prop} {w w' : World} {p : Nat} {deep : Bool} {A : Option Addr} {n c : Nat} {H : List Pth} (h : QAt base ok w p deep A n c H) (hb : Below w.heap.size w w') : QAt base ok w' p deep A n c H :=
  ⟨blk_below h.blk hb, h.hp, Kd.N_below h.rows hb, fun k hk => (h.own k hk).below hb, h.light⟩
theorem Moved.trans {base : Nat} {w w1 w2 : World} {p : Nat} {v v1 v2 : Value} (h : Moved base w w1 p v v1) (k : Moved base w1 w2 p v1 v2) : Moved base w w2 p v v2 := by
  refine ⟨h.below.trans k.below, fun q hq hp hv => ?_, ?_⟩
  · refine (k.block q (Nat.lt_of_lt_of_le hq h.below.size) hp ?_).trans (h.block q hq hp hv)
    rcases h.at_ with e | ⟨b, e, hb⟩
    · rw [e]; exact hv
    · rw [e]
      intro e2
      injection e2 with e2
      omega
  · rcases k.at_ with e | ⟨b, e, hb⟩
    · rw [e]; exact h.at_
    · exact .inr ⟨b, e, Nat.le_trans h.below.size hb⟩
theorem Moved.of_below {base : Nat} {w w1 : World} {p : Nat} {v : Value} (h : Below w.heap.size w w1) (hb : base ≤ w.heap.size) : Moved base w w1 p v v :=
  ⟨⟨h.os, h.tape, h.output, h.size, fun k hk => h.block k (by omega)⟩, fun k hk _ _ => h.block k hk, .inl rfl⟩
theorem QAt.head {base : Nat} {ok : Nat → Prop} {w : World} {p : Nat} {deep : Bool} {A : Option Addr} {n c : Nat} {H : List Pth} (h : QAt base ok w p deep A n c H) (hn : 0 < n) : ∃ g, A = some ⟨g, 0, none⟩ ∧ base ≤ g ∧ g ≠ p ∧ ∃ cells, w.heap[g]? = some (.cells cells 22 (0, 0)) := by
  obtain ⟨g, cap, e, h1, h2, cells, h3⟩ := Kd.N_form h.rows (h.len ▸ hn)
  injection e with e1 e2 e3
  exact ⟨g, e1, h1, blk_ne h3 h.blk (by decide), cells, h3⟩
/-- Only its rows' block was written. -/
theorem QAt.grown {base : Nat} {ok : Nat → Prop} {w w' : World} {p g : Nat} {deep : Bool} {n c : Nat} {H H' : List Pth} (h : QAt base ok w p deep (some ⟨g, 0, none⟩) n c H) (hn : 0 < n) (hN : Kd.N KP 22 w' base ok (.slice (some ⟨g, 0, none⟩) n c) H') (hg : w.grownBy w' (some g)) (hl : ∀ x ∈ H', x.length ≤ 1099511627776) :
    QAt base ok w' p deep (some ⟨g, 0, none⟩) n c H' ∧ Moved base w w' p (.slice (some ⟨g, 0, none⟩) n c) (.slice (some ⟨g, 0, none⟩) n c) := by
  obtain ⟨g', e, h1, h2, cells, h3⟩ := h.head hn
  injection e with e
  injection e with e
  subst e
  have ht : ∃ cells, w'.heap[g]? = some (.cells cells 22 (0, 0)) := Kd.N_typed hN g (by simp [Value.ownBlock])
  refine ⟨⟨blk_grown h.blk hg (fun e => h2 (by injection e with e; exact e.symm)), h.hp, hN, fun k hk => ?_, hl⟩, ⟨⟨hg.os, hg.tape, hg.output, hg.size, fun k hk => ?_⟩, fun k hk _ hv => hg.block k hk (fun e => hv (by rw [e]; simp [Value.ownBlock])), .inl rfl⟩⟩
  · obtain ⟨q1, cs, t, q2, q3⟩ := h.own k hk
    by_cases hkg : k = g
    · subst hkg
      obtain ⟨cs', q4⟩ := ht
      exact ⟨q1, cs', 22, q4, .inr rfl⟩
    · exact ⟨q1, cs, t, blk_grown q2 hg (fun e => hkg (by injection e)), q3⟩
  · rcases Nat.lt_or_ge k w.heap.size with hlt | hge
    · exact hg.block k hlt (fun e => by injection e with e; omega)
    · have := blk_lt h3
      omega
theorem swap_light {H : List Pth} {i j B : Nat} (hi : i < H.length) (hj : j < H.length) (h : ∀ x ∈ H, x.length ≤ B) : ∀ x ∈ sw H i j, x.length ≤ B := fun x hx => h x ((sw_perm hi hj).mem_iff.1 hx)
theorem qswap {base : Nat} {ok : Nat → Prop} {w : World} {p : Nat} {deep : Bool} {A : Option Addr} {n c : Nat} {H : List Pth} (h : QAt base ok w p deep A n c H) (i j : Nat) (hi : i < n) (hj : j < n) :
    Calls Try.prog 64 #[.pointer (some ⟨p, 0, none⟩), .int .i64 i, .int .i64 j] w fun e w' => e = .returned (.tuple #[]) ∧ QAt base ok w' p deep A n c (sw H i j) ∧ Moved base w w' p (.slice A n c) (.slice A n c) := by
  obtain ⟨g, rfl, -, -, -⟩ := h.head (by omega)
  refine (swap_any deep p g n c base ok H w h.blk h.rows i j hi hj).mono fun e w' q => ⟨q.1, ?_⟩
  have := h.len
  exact h.grown (by omega) q.2.1 q.2.2 (swap_light (by omega) (by omega) h.light)
theorem qless {base : Nat} {ok : Nat → Prop} {w : World} {p : Nat} {deep : Bool} {A : Option Addr} {n c : Nat} {H : List Pth} (h : QAt base ok w p deep A n c H) (i j : Nat) (hi : i < n) (hj : j < n) :
    Calls Try.prog 61 #[.pointer (some ⟨p, 0, none⟩), .int .i64 i, .int .i64 j] w fun e w' => e = .returned (.bool (bf deep (ga H i) (ga H j))) ∧ QAt base ok w' p deep A n c H ∧ Drawn0 w w' := by
  have hr := Kd.N_reads' h.rows
  refine (less_any deep p n c A H w h.blk (hr.1 ▸ hr.2.2) h.light i j hi hj).mono fun e w' q => ⟨q.1, h.below q.2.below, q.2⟩

end Go.Proofs.Ytomhpfgibekmfaa.P
