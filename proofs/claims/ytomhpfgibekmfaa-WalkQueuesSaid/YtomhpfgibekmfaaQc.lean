/- The queue of paths: Push and Pop of its heap's slice, and Clone of a path. No condition. -/
import Derived.Test.YtomhpfgibekmfaaQb
namespace Go.Proofs.Ytomhpfgibekmfaa.P
open Go.RowKit Go.Lib Go.Proofs.YtomhpfgibekmfaaW.PrintWords Go.Proofs.YtomhpfgibekmfaaW.PrintLast Go.Proofs.YtomhpfgibekmfaaW.PrintMore Go.Proofs.Ytomhpfgibekmfaa.Pure
set_option linter.unusedVariables false
set_option linter.unusedSimpArgs false
theorem Own.ne {w : World} {base k p : Nat} {cs : Array Value} (h : Own w base k) (hb : w.heap[p]? = some (.cells cs 51 (0, 0))) : k ≠ p := by
  obtain ⟨-, cs', t, h2, h3⟩ := h
  intro e
  subst e
  rw [hb] at h2
  injection h2 with h2
  injection h2 with _ h2 _
  rcases h3 with rfl | rfl <;> cases h2
/-- The header of its rows is written anew. -/
theorem q_store {base : Nat} {ok : Nat → Prop} {w : World} {p : Nat} {deep : Bool} {z : Value} {A : Option Addr} {n c : Nat} {H : List Pth} (hb : w.heap[p]? = some (.cells #[z, .func (.func (lessF deep)) #[] #[]] 51 (0, 0))) (hp : base ≤ p) (hN : Kd.N KP 22 w base ok (.slice A n c) H) (ho : ∀ k, ok k → Own w base k) (hl : ∀ x ∈ H, x.length ≤ 1099511627776) :
    QAt base ok (w.setCell ⟨p, 0, none⟩ (.slice A n c)) p deep A n c H := by
  have far : ∀ k, k ≠ p → (w.setCell ⟨p, 0, none⟩ (.slice A n c)).heap[k]? = w.heap[k]? := fun k hk => Below.heap_setCell w ⟨p, 0, none⟩ _ k hk
  refine ⟨by simpa using blk_set hb 0 (.slice A n c), hp, Kd.N_step hN (fun k hk _ => far k ((ho k hk).ne hb)), fun k hk => ?_, hl⟩
  obtain ⟨h1, cs, t, h2, h3⟩ := ho k hk
  exact ⟨h1, cs, t, (far k ((ho k hk).ne hb)).trans h2, h3⟩
theorem moved_store {base : Nat} {w w1 : World} {p : Nat} {v v' u : Value} (h : Moved base w w1 p v v') (hp : base ≤ p) : Moved base w (w1.setCell ⟨p, 0, none⟩ u) p v v' :=
  ⟨h.below.setCell (p := ⟨p, 0, none⟩) hp u, fun k hk hne hv => (Below.heap_setCell w1 ⟨p, 0, none⟩ u k hne).trans (h.block k hk hne hv), h.at_⟩
section
variable {P : Program} {ops : Array Oper} {rest : List Oper} {o : Oper} {a : Act} {Q : Exit → Act → World → Prop} {Kc : Act → World → Prop} {α : Type}
/-- append(v, x): what it holds behind, exactly. -/
theorem N_append_own (d : Kd α) {w0 W : World} (base : Nat) (hw : Region.wanted o (yielded ops a.tmps) = true) (s x : Operand) (t e : TypeId) (z : Value) (bytes : Nat)
    (ho : o.op = .call { callee := .builtin .append, args := #[s, x], argTypes := #[t, t] })
    (ht : P.underlying t = some (.slice e)) (hinfo : (P.info? e).map (fun i => (i.zero, i.size, i.bytes)) = some (some z, d.sz, bytes)) (hz : z.cells.size = d.sz) (hs0 : 0 < d.sz) (hb0 : 0 < bytes)
    (v : Value) (xs : List α) (p : α) (cs : List Value) (ok okp : Nat → Prop) (hs : a.eval s = v) (hx : a.eval x = .slice (some ⟨W.heap.size, 0, none⟩) 1 1) (hp : Kd.FK d W okp p cs) (hokp : ∀ k, okp k → some k ≠ v.ownBlock)
    (HO : Kd.N d e W base ok v xs) (HB : Below base w0 W) (hbase : base ≤ W.heap.size) (hl : (xs.length + 1) * bytes ≤ 140737488355328)
    (h : ∀ v1 w1, Kd.N d e w1 base (fun k => ((ok k ∧ some k ≠ v.ownBlock) ∨ okp k) ∨ some k = v1.ownBlock) v1 (xs ++ [p]) → Below base w0 w1 → W.grownBy w1 v.ownBlock → (v1.ownBlock = v.ownBlock ∨ ∃ b, v1.ownBlock = some b ∧ W.heap.size ≤ b) → Kc (a.put o.dst v1) w1) :
    if Region.wanted o (yielded ops a.tmps) = true then Oper.wp P o a (W.alloc (.cells cs.toArray e)) Kc Q else Kc (a.put o.dst undef) (W.alloc (.cells cs.toArray e)) := by
  obtain ⟨h0, rows, hlr, hR, hf⟩ := HO
  refine Kd.R_append_step (Kd.raw d.sz) base hw s x t e z bytes ho ht hinfo hz hs0 hb0 v rows cs cs (fun _ => True) (fun _ => False) hs hx (Kd.FK_raw hp) (fun _ hk => hk.elim) (fun _ _ => trivial) (Kd.raw_any hR) HB hbase (by rw [hlr]; exact hl) ?_
  intro v1 w1 hr hb hg hat
  have hne : ∀ k, some k ≠ v.ownBlock → k < W.heap.size → some k ≠ v1.ownBlock := by
    intro k hk hlt
    rcases hat with hat | ⟨b, hb, hle⟩
    · rw [hat]; exact hk
    · rw [hb]
      intro he
      injection he with he
      omega
  have step : ∀ {x : α} {c : List Value} {o : Nat → Prop}, Kd.FK d W o x c → (∀ k, o k → ((ok k ∧ some k ≠ v.ownBlock) ∨ okp k) ∧ some k ≠ v.ownBlock) → Kd.FK d w1 (fun k => (((ok k ∧ some k ≠ v.ownBlock) ∨ okp k) ∨ some k = v1.ownBlock) ∧ some k ≠ v1.ownBlock) x c := by
    intro x c o hq ho
    exact Kd.FK_mono (Kd.FK_step (Kd.FK_bound hq) (fun k hk hlt => hg.block k hlt (ho k hk.1).2)) (fun k hk => ⟨.inl (ho k hk.1).1, hne k (ho k hk.1).2 hk.2⟩)
  refine h v1 w1 ⟨fun k hk => .inr hk.symm, rows ++ [cs], by simp [hlr], Kd.raw_tight hr, fun j x c hx hc => ?_⟩ hb hg hat
  rcases Nat.lt_or_ge j xs.length with hlt | hge
  · rw [List.getElem?_append_left hlt] at hx
    rw [List.getElem?_append_left (by omega)] at hc
    exact step (hf j x c hx hc) (fun k hk => ⟨.inl hk, hk.2⟩)
  · rw [List.getElem?_append_right hge] at hx
    rw [List.getElem?_append_right (by omega), hlr] at hc
    obtain ⟨i, hi⟩ : ∃ i, j - xs.length = i := ⟨_, rfl⟩
    rw [hi] at hx hc
    rcases i with _ | i
    · simp only [List.getElem?_cons_zero, Option.some.injEq] at hx hc
      rw [← hx, ← hc]
      exact step hp (fun k hk => ⟨.inr hk, hokp k hk⟩)
    · simp at hx
theorem N_append_ownL (d : Kd α) {w0 W : World} (base : Nat) (hgd : o.guard = none) (s x : Operand) (t e : TypeId) (z : Value) (bytes : Nat)
    (ho : o.op = .call { callee := .builtin .append, args := #[s, x], argTypes := #[t, t] })
    (ht : P.underlying t = some (.slice e)) (hinfo : (P.info? e).map (fun i => (i.zero, i.size, i.bytes)) = some (some z, d.sz, bytes)) (hz : z.cells.size = d.sz) (hs0 : 0 < d.sz) (hb0 : 0 < bytes)
    (v : Value) (xs : List α) (p : α) (cs : List Value) (ok okp : Nat → Prop) (hs : a.eval s = v) (hx : a.eval x = .slice (some ⟨W.heap.size, 0, none⟩) 1 1) (hp : Kd.FK d W okp p cs) (hokp : ∀ k, okp k → some k ≠ v.ownBlock)
    (HO : Kd.N d e W base ok v xs) (HB : Below base w0 W) (hbase : base ≤ W.heap.size) (hl : (xs.length + 1) * bytes ≤ 140737488355328)
    (h : ∀ v1 w1, Kd.N d e w1 base (fun k => ((ok k ∧ some k ≠ v.ownBlock) ∨ okp k) ∨ some k = v1.ownBlock) v1 (xs ++ [p]) → Below base w0 w1 → W.grownBy w1 v.ownBlock → (v1.ownBlock = v.ownBlock ∨ ∃ b, v1.ownBlock = some b ∧ W.heap.size ≤ b) → wpList P ops Q rest (a.put o.dst v1) w1) :
    wpList P ops Q (o :: rest) a (W.alloc (.cells cs.toArray e)) := by
  obtain ⟨h0, rows, hlr, hR, hf⟩ := HO
  refine Kd.R_append (Kd.raw d.sz) base hgd s x t e z bytes ho ht hinfo hz hs0 hb0 v rows cs cs (fun _ => True) (fun _ => False) hs hx (Kd.FK_raw hp) (fun _ hk => hk.elim) (fun _ _ => trivial) (Kd.raw_any hR) HB hbase (by rw [hlr]; exact hl) ?_
  intro v1 w1 hr hb hg hat
  have hne : ∀ k, some k ≠ v.ownBlock → k < W.heap.size → some k ≠ v1.ownBlock := by
    intro k hk hlt
    rcases hat with hat | ⟨b, hb, hle⟩
    · rw [hat]; exact hk
    · rw [hb]
      intro he
      injection he with he
      omega
  have step : ∀ {x : α} {c : List Value} {o : Nat → Prop}, Kd.FK d W o x c → (∀ k, o k → ((ok k ∧ some k ≠ v.ownBlock) ∨ okp k) ∧ some k ≠ v.ownBlock) → Kd.FK d w1 (fun k => (((ok k ∧ some k ≠ v.ownBlock) ∨ okp k) ∨ some k = v1.ownBlock) ∧ some k ≠ v1.ownBlock) x c := by
    intro x c o hq ho
    exact Kd.FK_mono (Kd.FK_step (Kd.FK_bound hq) (fun k hk hlt => hg.block k hlt (ho k hk.1).2)) (fun k hk => ⟨.inl (ho k hk.1).1, hne k (ho k hk.1).2 hk.2⟩)
  refine h v1 w1 ⟨fun k hk => .inr hk.symm, rows ++ [cs], by simp [hlr], Kd.raw_tight hr, fun j x c hx hc => ?_⟩ hb hg hat
  rcases Nat.lt_or_ge j xs.length with hlt | hge
  · rw [List.getElem?_append_left hlt] at hx
    rw [List.getElem?_append_left (by omega)] at hc
    exact step (hf j x c hx hc) (fun k hk => ⟨.inl hk, hk.2⟩)
  · rw [List.getElem?_append_right hge] at hx
    rw [List.getElem?_append_right (by omega), hlr] at hc
    obtain ⟨i, hi⟩ : ∃ i, j - xs.length = i := ⟨_, rfl⟩
    rw [hi] at hx hc
    rcases i with _ | i
    · simp only [List.getElem?_cons_zero, Option.some.injEq] at hx hc
      rw [← hx, ← hc]
      exact step hp (fun k hk => ⟨.inr hk, hokp k hk⟩)
    · simp at hx
end
theorem ta_path (v : Value) (w : World) : Sem.run Try.prog (Instr.typeAssert (.iface 22 v) 20 22 false) w = .ok v w := by kernel_rfl
set_option maxHeartbeats 1000000 in
/-- The heap's Push: a path behind the others. -/
theorem hpush_any {base : Nat} {ok okx : Nat → Prop} {w : World} {p : Nat} {deep : Bool} {A : Option Addr} {n c : Nat} {H : List Pth} (hQ : QAt base ok w p deep A n c H) (hn : n ≤ 1099511627776) (x : Pth) (A1 : Option Addr) (n1 c1 : Nat) (hx1 : x.length = n1) (hx : Kd.F Kd.string w okx A1 n1 x) (hxc : n1 ≤ c1) (hxl : n1 ≤ 1099511627776) (hox : ∀ k, okx k → Own w base k ∧ some k ≠ (Value.slice A n c).ownBlock) :
    Calls Try.prog 63 #[.pointer (some ⟨p, 0, none⟩), .iface 22 (.slice A1 n1 c1)] w fun e w' => e = .returned (.tuple #[]) ∧ ∃ A' c', QAt base (fun k => ((ok k ∧ some k ≠ (Value.slice A n c).ownBlock) ∨ okx k) ∨ some k = (Value.slice A' (n + 1) c').ownBlock) w' p deep A' (n + 1) c' (H ++ [x]) ∧ Moved base w w' p (.slice A n c) (.slice A' (n + 1) c') := by
  have hS : ∀ w', Below w.heap.size w w' → w'.cell? ⟨p, 0, none⟩ = some (.slice A n c) := fun w' hB => pw_cell_below hB ((blk_cell hQ.blk 0).trans rfl)
  have HS := Lib.hid hS
  have HQ := Lib.hid hQ
  have HF := Lib.hid hx
  have HX1 := Lib.hid hx1
  have HXC := Lib.hid hxc
  have HOX := Lib.hid hox
  have HXL := Lib.hid hxl
  have hu51 := Try.underlying51
  have hu49 := Try.underlying49
  have hu26 := Try.underlying26
  have hu22 := Try.underlying22
  have hta := ta_path (.slice A1 n1 c1)
  clear hS hQ hx hx1 hxc hox hxl
  go_enter Try.func63, Try.ntmps63
  refine start_ (n := 12) (S := fun w' => Below w.heap.size w w') (ds := [8, 11]) #[false, false, false, false, false, false, false, false, false, false, false, false] (by kernel_rfl) rfl rfl (below_drew1 (Below.refl _ _)) (fun hHeld => ?_)
  clear hHeld
  have hw0 : Drawn0 w w.drew := ⟨1, rfl⟩
  have HW0 := Lib.hid hw0
  clear hw0
  generalize w.drew = w1 at *
  refine pure_ (i := 0) (N := some 4) (v := ?_) (a' := ?_) #[true, false, false, false, false, false, false, false, false, false, false, false] rfl rfl (by kernel_rfl) (fun _ _ _ h => h) (Or.inl ⟨by rfl, ?_⟩) ?_ ?_
  rotate_left
  · intro w'
    go_simp
    with_reducible rfl
  rotate_left
  · simp only [Act.put, List.setIfInBounds_toArray, List.set_cons_zero, List.set_cons_succ, i64_w, i32_w]
    rfl
  refine pure_ (i := 1) (N := some 5) (v := ?_) (a' := ?_) #[true, true, false, false, false, false, false, false, false, false, false, false] rfl rfl (by kernel_rfl) (fun _ _ _ h => h) (Or.inl ⟨by rfl, ?_⟩) ?_ ?_
  rotate_left
  · intro w'
    go_simp
    with_reducible rfl
  rotate_left
  · simp only [Act.put, List.setIfInBounds_toArray, List.set_cons_zero, List.set_cons_succ, i64_w, i32_w]
    rfl
  refine pure_ (i := 2) (N := some 6) (v := ?_) (a' := ?_) #[true, true, true, false, false, false, false, false, false, false, false, false] rfl rfl (by kernel_rfl) (fun _ _ _ h => h) (Or.inl ⟨by rfl, ?_⟩) ?_ ?_
  rotate_left
  · intro w'
    go_simp
    with_reducible rfl
  rotate_left
  · simp only [Act.put, List.setIfInBounds_toArray, List.set_cons_zero, List.set_cons_succ, i64_w, i32_w]
    rfl
  refine pure_ (i := 3) (N := some 7) (v := ?_) (a' := ?_) #[true, true, true, true, false, false, false, false, false, false, false, false] rfl rfl (by kernel_rfl) (fun _ _ _ h => h) (Or.inl ⟨by rfl, ?_⟩) ?_ ?_
  rotate_left
  · intro w'
    go_simp
    with_reducible rfl
  rotate_left
  · simp only [Act.put, List.setIfInBounds_toArray, List.set_cons_zero, List.set_cons_succ, i64_w, i32_w]
    rfl
  refine take_ (i := 4) (N := some 8) (v := ?_) (a' := ?_) #[true, true, true, true, true, false, false, false, false, false, false, false] rfl rfl (by kernel_rfl) (fun _ _ _ h => h) (Or.inl ⟨by rfl, ?_⟩) HW0.out.below ?_ ?_
  rotate_left
  · intro w' s0
    have x0 := HS.out w' s0
    go_simp
    with_reducible rfl
  rotate_left
  · simp only [Act.put, List.setIfInBounds_toArray, List.set_cons_zero, List.set_cons_succ, i64_w, i32_w]
    rfl
  refine pure_ (i := 5) (N := some 9) (v := ?_) (a' := ?_) #[true, true, true, true, true, true, false, false, false, false, false, false] rfl rfl (by kernel_rfl) (fun _ _ _ h => h) (Or.inl ⟨by rfl, ?_⟩) ?_ ?_
  rotate_left
  · intro w'
    go_simp
    with_reducible rfl
  rotate_left
  · simp only [Act.put, List.setIfInBounds_toArray, List.set_cons_zero, List.set_cons_succ, i64_w, i32_w]
    rfl
  refine pure_ (i := 6) (N := some 10) (v := ?_) (a' := ?_) #[true, true, true, true, true, true, true, false, false, false, false, false] rfl rfl (by kernel_rfl) (fun _ _ _ h => h) (Or.inl ⟨by rfl, ?_⟩) ?_ ?_
  rotate_left
  · intro w'
    go_simp
    with_reducible rfl
  rotate_left
  · simp only [Act.put, List.setIfInBounds_toArray, List.set_cons_zero, List.set_cons_succ, i64_w, i32_w]
    rfl
  refine one_ (i := 7) (N := some 11) #[true, true, true, true, true, true, true, true, false, false, false, false] rfl rfl (by kernel_rfl) (by decide) (fun K hK => ?_)
  rw [if_pos (by rfl)]
  unfold Oper.wp
  go_simp
  refine hK _ _ (HW0.out.below.alloc HW0.out.below.size _) (fun _ => ?_)
  refine last_ (i := 8) (N := some 12) #[true, true, true, true, true, true, true, true, true, false, false, false] rfl rfl (by kernel_rfl) (by decide) (fun K hK => ?_)
  have hq1 := HQ.out.below HW0.out.below
  have hx1 : Kd.F Kd.string w1 okx A1 n1 x := Kd.F_step HF.out (fun k _ hlt => HW0.out.below.block k hlt)
  refine N_append_own KP (w0 := w) base (by rfl) (.tmp 8) (.tmp 11) 26 22 (.slice none 0 0) 24 rfl Try.underlying26 info22 rfl (by decide) (by omega) (.slice A n c) H x [.slice A1 n1 c1] ok okx rfl rfl (by have h9 := HX1.out; subst h9; exact Kd.FK_slice_mk HXC.out hx1) (fun k hk => (HOX.out k hk).2) hq1.rows (Moved.of_below (v := .slice A n c) (p := p) HW0.out.below HQ.out.base_le).below hq1.base_le (by have := HQ.out.len; omega) ?_
  intro v1 w2 hN hB hg hat
  obtain ⟨A', c', rfl⟩ := Kd.N_slice hN
  have hlen : (H ++ [x]).length = n + 1 := by rw [List.length_append, ← HQ.out.len]; rfl
  rw [hlen] at hN hat ⊢
  have hpn : some p ≠ (Value.slice A n c).ownBlock := fun e => by
    obtain ⟨cs, h2⟩ := Kd.N_typed hq1.rows p e.symm
    exact blk_ne h2 hq1.blk (by decide) rfl
  have hb2 := blk_grown hq1.blk hg hpn
  have hw12 : w.heap.size = w1.heap.size := by obtain ⟨m, hm⟩ := HW0.out.out; rw [hm]; rfl
  have hown : ∀ k, (((ok k ∧ some k ≠ (Value.slice A n c).ownBlock) ∨ okx k) ∨ some k = (Value.slice A' (n + 1) c').ownBlock) → Own w2 base k := by
    have same : ∀ k, Own w base k → some k ≠ (Value.slice A n c).ownBlock → Own w2 base k := fun k h1 h2 => by
      obtain ⟨q1, cs, t, q2, q3⟩ := h1.below HW0.out.below
      exact ⟨q1, cs, t, blk_grown q2 hg h2, q3⟩
    rintro k ((hk | hk) | hk)
    · exact same k (HQ.out.own k hk.1) hk.2
    · exact same k (HOX.out k hk).1 (HOX.out k hk).2
    · obtain ⟨cs, q⟩ := Kd.N_typed hN k hk.symm
      exact ⟨Kd.N_base hN k hk.symm, cs, 22, q, .inr rfl⟩
  have hlight : ∀ y ∈ H ++ [x], y.length ≤ 1099511627776 := fun y hy => by
    rcases List.mem_append.1 hy with h | h
    · exact HQ.out.light y h
    · rw [List.mem_singleton.1 h, HX1.out]; exact HXL.out
  have hres := q_store hb2 HQ.out.hp hN hown hlight
  have hmv : Moved base w w2 p (.slice A n c) (.slice A' (n + 1) c') := ⟨hB, fun k hk _ hv => (hg.block k (by omega) hv).trans (HW0.out.below.block k hk), by rw [hw12]; exact hat⟩
  have hmv2 := moved_store (u := .slice A' (n + 1) c') hmv HQ.out.hp
  have HRES := Lib.hid hres
  have HMV := Lib.hid hmv2
  have HB2 := Lib.hid hb2
  clear hq1 hx1 hN hB hg hat hpn hb2 hw12 hown hlight hres hmv hmv2 hlen
  refine hK _ _ ?_
  refine norm_ (a' := ?_) ?_ ?_
  rotate_left
  · simp only [Act.put, List.setIfInBounds_toArray, List.set_cons_zero, List.set_cons_succ, i64_w, i32_w]
    rfl
  refine pure_ (i := 9) (N := some 13) (v := ?_) (a' := ?_) #[true, true, true, true, true, true, true, true, true, true, false, false] rfl rfl (by kernel_rfl) (fun _ _ _ h => h) (Or.inl ⟨by rfl, ?_⟩) ?_ ?_
  rotate_left
  · intro w'
    go_simp
    with_reducible rfl
  rotate_left
  · simp only [Act.put, List.setIfInBounds_toArray, List.set_cons_zero, List.set_cons_succ, i64_w, i32_w]
    rfl
  refine pure_ (i := 10) (N := some 14) (v := ?_) (a' := ?_) #[true, true, true, true, true, true, true, true, true, true, true, false] rfl rfl (by kernel_rfl) (fun _ _ _ h => h) (Or.inl ⟨by rfl, ?_⟩) ?_ ?_
  rotate_left
  · intro w'
    go_simp
    with_reducible rfl
  rotate_left
  · simp only [Act.put, List.setIfInBounds_toArray, List.set_cons_zero, List.set_cons_succ, i64_w, i32_w]
    rfl
  refine last_ (i := 11) (N := none) #[true, true, true, true, true, true, true, true, true, true, true, true] rfl rfl (by kernel_rfl) (by decide) (fun K hK => ?_)
  rw [if_pos (by rfl)]
  unfold Oper.wp
  have x0 := (blk_cell HB2.out 0).trans rfl
  have x1 := blk_frozen HB2.out 0
  go_simp
  refine hK _ _ ?_
  refine done_ (by kernel_rfl) ?_
  exact bodyPost_end (v := .tuple #[]) (by simp [results, Try.results63, go_sem]) rfl ⟨rfl, A', c', HRES.out, HMV.out⟩
set_option maxHeartbeats 1000000 in
/-- The heap's Pop: the last path. -/
theorem hpop_any {base : Nat} {ok : Nat → Prop} {w : World} {p : Nat} {deep : Bool} {A : Option Addr} {m c : Nat} {H : List Pth} (hQ : QAt base ok w p deep A (m + 1) c H) (hn : m ≤ 1099511627776) :
    Calls Try.prog 62 #[.pointer (some ⟨p, 0, none⟩)] w fun e w' => ∃ A1 c1, e = .returned (.iface 22 (.slice A1 (ga H m).length c1)) ∧ (ga H m).length ≤ c1 ∧ Kd.F Kd.string w' (fun k => ok k ∧ some k ≠ (Value.slice A m c).ownBlock) A1 (ga H m).length (ga H m) ∧ QAt base ok w' p deep A m c (H.take m) ∧ Moved base w w' p (.slice A (m + 1) c) (.slice A m c) := by
  obtain ⟨g, rfl, -, hgp, -⟩ := hQ.head (by omega)
  obtain ⟨A1, c1, x1, f1, y1, z1⟩ := row_get hQ.rows m (by omega)
  obtain ⟨X, hX⟩ : ∃ X, ga H m = X := ⟨_, rfl⟩
  rw [hX] at x1 y1 z1 ⊢
  obtain ⟨ad, had⟩ : ∃ ad : Addr, ad = ⟨g, 0, none⟩ := ⟨_, rfl⟩
  have hai : ad.add m = ⟨g, m, none⟩ := by rw [had, add_at, Nat.zero_add]
  rw [← hai] at x1
  have hc0 := (blk_cell hQ.blk 0).trans rfl
  rw [← had] at hc0
  have hS : ∀ w', Drawn0 w w' → w'.cell? ⟨p, 0, none⟩ = some (.slice (some ad) (m + 1) c) ∧ w'.cell? (ad.add m) = some (.slice A1 X.length c1) := by
    rintro w' ⟨k, rfl⟩
    exact ⟨hc0, x1⟩
  have HS := Lib.hid hS
  have HQ := Lib.hid hQ
  have HX := Lib.hid y1
  have HZ := Lib.hid z1
  have HAD := Lib.hid had
  have hm0 : (0 : Int) ≤ (m : Int) := by omega
  have hm1 : (m : Int) ≤ 1099511627776 := by omega
  have hcap : m + 1 ≤ c := (Kd.N_reads' hQ.rows).2.1
  have hw : wrap64 (m : Int) = (m : Int) := w64 (by omega) (by omega)
  have hlt : (m : Int) < (m : Int) + 1 := by omega
  have hmc : (m : Int) ≤ (c : Int) := by omega
  have hmn : m ≤ c := by omega
  have hu51 := Try.underlying51
  have hu49 := Try.underlying49
  have hu26 := Try.underlying26
  have hu22 := Try.underlying22
  clear hS hQ x1 y1 z1 f1 hc0 had hX hai
  go_enter Try.func62, Try.ntmps62
  go_wp2
  refine start_ (n := 13) (S := fun w' => Drawn0 w w') (ds := []) #[false, false, false, false, false, false, false, false, false, false, false, false, false] (by kernel_rfl) rfl rfl ⟨1, rfl⟩ (fun hHeld => ?_)
  clear hHeld
  have hw0 : Drawn0 w w.drew := ⟨1, rfl⟩
  have HW0 := Lib.hid hw0
  clear hw0
  generalize w.drew = w1 at *
  refine pure_ (i := 0) (N := some 4) (v := ?_) (a' := ?_) #[true, false, false, false, false, false, false, false, false, false, false, false, false] rfl rfl (by kernel_rfl) (fun _ _ _ h => h) (Or.inl ⟨by rfl, ?_⟩) ?_ ?_
  rotate_left
  · intro w'
    go_simp
    with_reducible rfl
  rotate_left
  · simp only [Act.put, List.setIfInBounds_toArray, List.set_cons_zero, List.set_cons_succ, i64_w, i32_w]
    rfl
  refine pure_ (i := 1) (N := some 5) (v := ?_) (a' := ?_) #[true, true, false, false, false, false, false, false, false, false, false, false, false] rfl rfl (by kernel_rfl) (fun _ _ _ h => h) (Or.inl ⟨by rfl, ?_⟩) ?_ ?_
  rotate_left
  · intro w'
    go_simp
    with_reducible rfl
  rotate_left
  · simp only [Act.put, List.setIfInBounds_toArray, List.set_cons_zero, List.set_cons_succ, i64_w, i32_w]
    rfl
  refine pure_ (i := 2) (N := some 6) (v := ?_) (a' := ?_) #[true, true, true, false, false, false, false, false, false, false, false, false, false] rfl rfl (by kernel_rfl) (fun _ _ _ h => h) (Or.inl ⟨by rfl, ?_⟩) ?_ ?_
  rotate_left
  · intro w'
    go_simp
    with_reducible rfl
  rotate_left
  · simp only [Act.put, List.setIfInBounds_toArray, List.set_cons_zero, List.set_cons_succ, i64_w, i32_w]
    rfl
  refine take_ (i := 3) (N := some 7) (v := ?_) (a' := ?_) #[true, true, true, true, false, false, false, false, false, false, false, false, false] rfl rfl (by kernel_rfl) (fun _ _ _ h => h) (Or.inl ⟨by rfl, ?_⟩) HW0.out ?_ ?_
  rotate_left
  · intro w' s0
    obtain ⟨x0, x1⟩ := HS.out w' s0
    go_simp
    with_reducible rfl
  rotate_left
  · simp only [Act.put, List.setIfInBounds_toArray, List.set_cons_zero, List.set_cons_succ, i64_w, i32_w]
    rfl
  refine pure_ (i := 4) (N := some 8) (v := ?_) (a' := ?_) #[true, true, true, true, true, false, false, false, false, false, false, false, false] rfl rfl (by kernel_rfl) (fun _ _ _ h => h) (Or.inl ⟨by rfl, ?_⟩) ?_ ?_
  rotate_left
  · intro w'
    go_simp
    with_reducible rfl
  rotate_left
  · simp only [Act.put, List.setIfInBounds_toArray, List.set_cons_zero, List.set_cons_succ, i64_w, i32_w]
    rfl
  refine pure_ (i := 5) (N := some 9) (v := ?_) (a' := ?_) #[true, true, true, true, true, true, false, false, false, false, false, false, false] rfl rfl (by kernel_rfl) (fun _ _ _ h => h) (Or.inl ⟨by rfl, ?_⟩) ?_ ?_
  rotate_left
  · intro w'
    go_simp
    with_reducible rfl
  rotate_left
  · simp only [Act.put, List.setIfInBounds_toArray, List.set_cons_zero, List.set_cons_succ, i64_w, i32_w]
    rfl
  refine pure_ (i := 6) (N := some 10) (v := ?_) (a' := ?_) #[true, true, true, true, true, true, true, false, false, false, false, false, false] rfl rfl (by kernel_rfl) (fun _ _ _ h => h) (Or.inl ⟨by rfl, ?_⟩) ?_ ?_
  rotate_left
  · intro w'
    go_simp
    with_reducible rfl
  rotate_left
  · simp only [Act.put, List.setIfInBounds_toArray, List.set_cons_zero, List.set_cons_succ, i64_w, i32_w]
    rfl
  refine take_ (i := 7) (N := some 11) (v := ?_) (a' := ?_) #[true, true, true, true, true, true, true, true, false, false, false, false, false] rfl rfl (by kernel_rfl) (fun _ _ _ h => h) (Or.inl ⟨by rfl, ?_⟩) HW0.out ?_ ?_
  rotate_left
  · intro w' s0
    obtain ⟨x0, x1⟩ := HS.out w' s0
    go_simp
    with_reducible rfl
  rotate_left
  · simp only [Act.put, List.setIfInBounds_toArray, List.set_cons_zero, List.set_cons_succ, i64_w, i32_w]
    rfl
  refine pure_ (i := 8) (N := some 12) (v := ?_) (a' := ?_) #[true, true, true, true, true, true, true, true, true, false, false, false, false] rfl rfl (by kernel_rfl) (fun _ _ _ h => h) (Or.inl ⟨by rfl, ?_⟩) ?_ ?_
  rotate_left
  · intro w'
    go_simp
    with_reducible rfl
  rotate_left
  · simp only [Act.put, List.setIfInBounds_toArray, List.set_cons_zero, List.set_cons_succ, i64_w, i32_w]
    rfl
  refine pure_ (i := 9) (N := some 13) (v := ?_) (a' := ?_) #[true, true, true, true, true, true, true, true, true, true, false, false, false] rfl rfl (by kernel_rfl) (fun _ _ _ h => h) (Or.inl ⟨by rfl, ?_⟩) ?_ ?_
  rotate_left
  · intro w'
    go_simp
    with_reducible rfl
  rotate_left
  · simp only [Act.put, List.setIfInBounds_toArray, List.set_cons_zero, List.set_cons_succ, i64_w, i32_w]
    rfl
  refine pure_ (i := 10) (N := some 14) (v := ?_) (a' := ?_) #[true, true, true, true, true, true, true, true, true, true, true, false, false] rfl rfl (by kernel_rfl) (fun _ _ _ h => h) (Or.inl ⟨by rfl, ?_⟩) ?_ ?_
  rotate_left
  · intro w'
    go_simp
    with_reducible rfl
  rotate_left
  · simp only [Act.put, List.setIfInBounds_toArray, List.set_cons_zero, List.set_cons_succ, i64_w, i32_w]
    rfl
  refine take_ (i := 11) (N := some 15) (v := ?_) (a' := ?_) #[true, true, true, true, true, true, true, true, true, true, true, true, false] rfl rfl (by kernel_rfl) (fun _ _ _ h => h) (Or.inl ⟨by rfl, ?_⟩) HW0.out ?_ ?_
  rotate_left
  · intro w' s0
    obtain ⟨x0, x1⟩ := HS.out w' s0
    go_simp
    with_reducible rfl
  rotate_left
  · simp only [Act.put, List.setIfInBounds_toArray, List.set_cons_zero, List.set_cons_succ, i64_w, i32_w]
    rfl
  refine pure_ (i := 12) (N := some 3) (v := ?_) (a' := ?_) #[true, true, true, true, true, true, true, true, true, true, true, true, true] rfl rfl (by kernel_rfl) (fun _ _ _ h => h) (Or.inl ⟨by rfl, ?_⟩) ?_ ?_
  rotate_left
  · intro w'
    go_simp
    with_reducible rfl
  rotate_left
  · simp only [Act.put, List.setIfInBounds_toArray, List.set_cons_zero, List.set_cons_succ, i64_w, i32_w]
    rfl
  refine done_ (by kernel_rfl) ?_
  go_wp2
  refine start_ (n := 15) (S := fun w' => Drawn0 w w') (ds := [14]) #[false, false, false, false, false, false, false, false, false, false, false, false, false, false, false] (by kernel_rfl) rfl rfl (drawn_trans HW0.out ⟨1, rfl⟩) (fun hHeld => ?_)
  clear hHeld
  have hw0 : Drawn0 w w1.drew := drawn_trans HW0.out ⟨1, rfl⟩
  have HW9 := HW0
  have HW0 := Lib.hid hw0
  clear hw0
  generalize w1.drew = w2 at *
  refine pure_ (i := 0) (N := some 16) (v := ?_) (a' := ?_) #[true, false, false, false, false, false, false, false, false, false, false, false, false, false, false] rfl rfl (by kernel_rfl) (fun _ _ _ h => h) (Or.inl ⟨by rfl, ?_⟩) ?_ ?_
  rotate_left
  · intro w'
    go_simp
    with_reducible rfl
  rotate_left
  · simp only [Act.put, List.setIfInBounds_toArray, List.set_cons_zero, List.set_cons_succ, i64_w, i32_w]
    rfl
  refine pure_ (i := 1) (N := some 17) (v := ?_) (a' := ?_) #[true, true, false, false, false, false, false, false, false, false, false, false, false, false, false] rfl rfl (by kernel_rfl) (fun _ _ _ h => h) (Or.inl ⟨by rfl, ?_⟩) ?_ ?_
  rotate_left
  · intro w'
    go_simp
    with_reducible rfl
  rotate_left
  · simp only [Act.put, List.setIfInBounds_toArray, List.set_cons_zero, List.set_cons_succ, i64_w, i32_w]
    rfl
  refine pure_ (i := 2) (N := some 18) (v := ?_) (a' := ?_) #[true, true, true, false, false, false, false, false, false, false, false, false, false, false, false] rfl rfl (by kernel_rfl) (fun _ _ _ h => h) (Or.inl ⟨by rfl, ?_⟩) ?_ ?_
  rotate_left
  · intro w'
    go_simp
    with_reducible rfl
  rotate_left
  · simp only [Act.put, List.setIfInBounds_toArray, List.set_cons_zero, List.set_cons_succ, i64_w, i32_w]
    rfl
  refine pure_ (i := 3) (N := some 19) (v := ?_) (a' := ?_) #[true, true, true, true, false, false, false, false, false, false, false, false, false, false, false] rfl rfl (by kernel_rfl) (fun _ _ _ h => h) (Or.inl ⟨by rfl, ?_⟩) ?_ ?_
  rotate_left
  · intro w'
    go_simp
    with_reducible rfl
  rotate_left
  · simp only [Act.put, List.setIfInBounds_toArray, List.set_cons_zero, List.set_cons_succ, i64_w, i32_w]
    rfl
  refine take_ (i := 4) (N := some 20) (v := ?_) (a' := ?_) #[true, true, true, true, true, false, false, false, false, false, false, false, false, false, false] rfl rfl (by kernel_rfl) (fun _ _ _ h => h) (Or.inl ⟨by rfl, ?_⟩) HW0.out ?_ ?_
  rotate_left
  · intro w' s0
    obtain ⟨x0, x1⟩ := HS.out w' s0
    go_simp
    with_reducible rfl
  rotate_left
  · simp only [Act.put, List.setIfInBounds_toArray, List.set_cons_zero, List.set_cons_succ, i64_w, i32_w]
    rfl
  refine pure_ (i := 5) (N := some 21) (v := ?_) (a' := ?_) #[true, true, true, true, true, true, false, false, false, false, false, false, false, false, false] rfl rfl (by kernel_rfl) (fun _ _ _ h => h) (Or.inl ⟨by rfl, ?_⟩) ?_ ?_
  rotate_left
  · intro w'
    go_simp
    with_reducible rfl
  rotate_left
  · simp only [Act.put, List.setIfInBounds_toArray, List.set_cons_zero, List.set_cons_succ, i64_w, i32_w]
    rfl
  refine pure_ (i := 6) (N := some 22) (v := ?_) (a' := ?_) #[true, true, true, true, true, true, true, false, false, false, false, false, false, false, false] rfl rfl (by kernel_rfl) (fun _ _ _ h => h) (Or.inl ⟨by rfl, ?_⟩) ?_ ?_
  rotate_left
  · intro w'
    go_simp
    with_reducible rfl
  rotate_left
  · simp only [Act.put, List.setIfInBounds_toArray, List.set_cons_zero, List.set_cons_succ, i64_w, i32_w]
    rfl
  refine pure_ (i := 7) (N := some 23) (v := ?_) (a' := ?_) #[true, true, true, true, true, true, true, true, false, false, false, false, false, false, false] rfl rfl (by kernel_rfl) (fun _ _ _ h => h) (Or.inl ⟨by rfl, ?_⟩) ?_ ?_
  rotate_left
  · intro w'
    go_simp
    with_reducible rfl
  rotate_left
  · simp only [Act.put, List.setIfInBounds_toArray, List.set_cons_zero, List.set_cons_succ, i64_w, i32_w]
    rfl
  refine take_ (i := 8) (N := some 24) (v := ?_) (a' := ?_) #[true, true, true, true, true, true, true, true, true, false, false, false, false, false, false] rfl rfl (by kernel_rfl) (fun _ _ _ h => h) (Or.inl ⟨by rfl, ?_⟩) HW0.out ?_ ?_
  rotate_left
  · intro w' s0
    obtain ⟨x0, x1⟩ := HS.out w' s0
    go_simp
    with_reducible rfl
  rotate_left
  · simp only [Act.put, List.setIfInBounds_toArray, List.set_cons_zero, List.set_cons_succ, i64_w, i32_w]
    rfl
  refine pure_ (i := 9) (N := some 25) (v := ?_) (a' := ?_) #[true, true, true, true, true, true, true, true, true, true, false, false, false, false, false] rfl rfl (by kernel_rfl) (fun _ _ _ h => h) (Or.inl ⟨by rfl, ?_⟩) ?_ ?_
  rotate_left
  · intro w'
    go_simp
    with_reducible rfl
  rotate_left
  · simp only [Act.put, List.setIfInBounds_toArray, List.set_cons_zero, List.set_cons_succ, i64_w, i32_w]
    rfl
  refine pure_ (i := 10) (N := some 26) (v := ?_) (a' := ?_) #[true, true, true, true, true, true, true, true, true, true, true, false, false, false, false] rfl rfl (by kernel_rfl) (fun _ _ _ h => h) (Or.inl ⟨by rfl, ?_⟩) ?_ ?_
  rotate_left
  · intro w'
    go_simp
    with_reducible rfl
  rotate_left
  · simp only [Act.put, List.setIfInBounds_toArray, List.set_cons_zero, List.set_cons_succ, i64_w, i32_w]
    rfl
  refine pure_ (i := 11) (N := some 27) (v := ?_) (a' := ?_) #[true, true, true, true, true, true, true, true, true, true, true, true, false, false, false] rfl rfl (by kernel_rfl) (fun _ _ _ h => h) (Or.inl ⟨by rfl, ?_⟩) ?_ ?_
  rotate_left
  · intro w'
    go_simp
    with_reducible rfl
  rotate_left
  · simp only [Act.put, List.setIfInBounds_toArray, List.set_cons_zero, List.set_cons_succ, i64_w, i32_w]
    rfl
  refine pure_ (i := 12) (N := some 28) (v := ?_) (a' := ?_) #[true, true, true, true, true, true, true, true, true, true, true, true, true, false, false] rfl rfl (by kernel_rfl) (fun _ _ _ h => h) (Or.inl ⟨by rfl, ?_⟩) ?_ ?_
  rotate_left
  · intro w'
    go_simp
    with_reducible rfl
  rotate_left
  · simp only [Act.put, List.setIfInBounds_toArray, List.set_cons_zero, List.set_cons_succ, i64_w, i32_w]
    rfl
  refine pure_ (i := 13) (N := some 29) (v := ?_) (a' := ?_) #[true, true, true, true, true, true, true, true, true, true, true, true, true, true, false] rfl rfl (by kernel_rfl) (fun _ _ _ h => h) (Or.inl ⟨by rfl, ?_⟩) ?_ ?_
  rotate_left
  · intro w'
    go_simp
    with_reducible rfl
  rotate_left
  · simp only [Act.put, List.setIfInBounds_toArray, List.set_cons_zero, List.set_cons_succ, i64_w, i32_w]
    rfl
  refine last_ (i := 14) (N := none) #[true, true, true, true, true, true, true, true, true, true, true, true, true, true, true] rfl rfl (by kernel_rfl) (by decide) (fun K hK => ?_)
  rw [if_pos (by rfl)]
  unfold Oper.wp
  have x0 := (blk_cell (blk_below HQ.out.blk HW0.out.below) 0).trans rfl
  have x1 := blk_frozen (blk_below HQ.out.blk HW0.out.below) 0
  go_simp
  refine hK _ _ ?_
  refine done_ (by kernel_rfl) ?_
  have h9 := HAD.out
  subst h9
  have hq1 := HQ.out.below HW0.out.below
  have hl := HQ.out.len
  have hres := q_store (A := some ⟨g, 0, none⟩) (n := m) (c := c) hq1.blk HQ.out.hp (by have := Kd.N_take (m := m) hq1.rows (by omega); exact this) hq1.own (fun x hx => HQ.out.light x (List.mem_of_mem_take hx))
  have hmv : Moved base w w2 p (.slice (some ⟨g, 0, none⟩) (m + 1) c) (.slice (some ⟨g, 0, none⟩) m c) := ⟨(Moved.of_below (v := .slice (some ⟨g, 0, none⟩) (m + 1) c) (p := p) HW0.out.below HQ.out.base_le).below, fun k hk _ _ => HW0.out.below.block k hk, .inl rfl⟩
  have hmv2 := moved_store (u := .slice (some ⟨g, 0, none⟩) m c) hmv HQ.out.hp
  have hz := Kd.F_step (Kd.F_mono (ok' := fun k => ok k ∧ some k ≠ (Value.slice (some ⟨g, 0, none⟩) m c).ownBlock) HZ.out (fun k hk => ⟨hk.1, fun e => hk.2 (by simpa [Value.ownBlock] using e)⟩)) (fun k hk hlt => (Below.heap_setCell w2 ⟨p, 0, none⟩ (.slice (some ⟨g, 0, none⟩) m c) k ((HQ.out.own k hk.1).ne HQ.out.blk)).trans (HW0.out.below.block k hlt))
  have HRES := Lib.hid hres
  have HMV := Lib.hid hmv2
  have HZZ := Lib.hid hz
  clear x0 x1 hq1 hl hres hmv hmv2 hz HS HZ HQ
  go_wp2
  go_ret
  exact ⟨A1, c1, rfl, HX.out, HZZ.out, HRES.out, HMV.out⟩
end Go.Proofs.Ytomhpfgibekmfaa.P
