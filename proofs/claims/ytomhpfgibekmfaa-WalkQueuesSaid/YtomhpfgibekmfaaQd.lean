/- The queue of paths: Push, Pop, Len. No condition. -/
import Derived.Test.YtomhpfgibekmfaaQc
import Derived.Lib.SliceRun
namespace Go.Proofs.Ytomhpfgibekmfaa.P
open Go.RowKit Go.Lib Go.Proofs.YtomhpfgibekmfaaW.PrintWords Go.Proofs.YtomhpfgibekmfaaW.PrintLast Go.Proofs.YtomhpfgibekmfaaW.PrintMore Go.Proofs.Ytomhpfgibekmfaa.Pure
set_option linter.unusedVariables false
set_option linter.unusedSimpArgs false
set_option maxHeartbeats 1000000 in
set_option maxRecDepth 100000 in
/-- slices.Clone of a path. -/
theorem clone_path (A0 : Option Addr) (n0 c0 : Nat) (l0 : Pth) (w : World) (hn0 : l0.length = n0) (hr0 : Kd.C Kd.string w A0 n0 l0) (hc0 : n0 ≤ c0) (hl : n0 ≤ 1099511627776) :
    Calls Try.prog 30 #[.slice A0 n0 c0] w fun e w' => ∃ v0_ : Value, e = .returned v0_ ∧ Kd.R Kd.string 9 w' w.heap.size (fun _ => True) v0_ l0 ∧ Below w.heap.size w w' := by
  subst hn0
  cases A0 with
  | none =>
    have hn : l0.length = 0 := by
      have := (Kd.reads_of_C (d := ByteArray.empty) hr0).2.2
      by_cases h : 0 < l0.length
      · obtain ⟨ad, e, _⟩ := this h; cases e
      · omega
    have hnil : l0 = [] := List.eq_nil_of_length_eq_zero hn
    subst hnil
    clear hr0 hc0 hl hn
    have heq := fun W : World => Lib.run_eql_slice_nil (P := Try.prog) W 22 9 none 0 c0 0 0 Try.underlying22
    go_enter Try.func30, Try.ntmps30
    go_wp2
    go_ret
    exact ⟨_, rfl, Kd.R_nil _ _ _ _ _, Below.refl _ _⟩
  | some ad =>
    have HR := Lib.hid hr0
    clear hr0
    have heq := fun W : World => Lib.run_eql_slice_nil (P := Try.prog) W 22 9 (some ad) l0.length c0 0 0 Try.underlying22
    go_enter Try.func30, Try.ntmps30
    go_wp2_with (first
      | ((with_reducible refine gate_dst (N := 5) rfl ?_); refine Kd.R_lit Kd.string (w0 := w) w.heap.size 9 ?hg (N := 5) ?hd (xs := ([] : List ByteArray)) (inner := []) (ok := fun _ => True) (okp := fun _ => True) ?hr ?hp (fun _ hk => hk) trivial (Below.refl _ _) (Nat.le_refl _) (by simp) ?_; (case hd => rfl); (case hg => rfl); (case hr => first | (go_simp; done) | (go_simp; rfl)); (case hp => exact (Reps.none _ _)); intro v1 w1 ho1 hb1 hg1 hn1; have HO1 := Lib.hid ho1; have HB1 := Lib.hid hb1; clear ho1 hb1 hg1 hn1)
      | ((with_reducible refine gate_builtin (b := .append) (xs := #[.tmp 5, .tmp 6]) rfl ?_); at_builtin; refine Kd.R_append_rows Kd.string (w0 := w) w.heap.size rfl (.tmp 5) (.tmp 6) 22 9 (.string ⟨#[]⟩) 16 rfl Try.underlying22 info9 rfl (by decide) (by omega) v1 [] l0 _ _ _ (fun _ => True) (fun _ => False) rfl rfl ?aO ?aR (fun _ _ h => h) (fun _ h => h.elim) ?aF ?aB ?aS ?aL ?_; (case aR => exact Kd.C_below HR.out HB1.out); (case aB => exact HB1.out); (case aF => exact (fun _ _ => trivial)); (case aO => exact HO1.out); (case aS => exact HB1.out.size); (case aL => simp; omega); intro v2 w2 ho2 hb2 hg2 hn2; have HO2 := Lib.hid ho2; have HB2 := Lib.hid hb2; clear ho2 hb2 hg2 hn2))
    go_ret
    exact ⟨_, rfl, HO2.out, HB2.out⟩
set_option maxHeartbeats 1000000 in
set_option maxRecDepth 100000 in
/-- heap.Push. -/
theorem heap_push {base : Nat} {ok okx : Nat → Prop} {w : World} {p : Nat} {deep : Bool} {A : Option Addr} {n c : Nat} {H : List Pth} (hQ : QAt base ok w p deep A n c H) (hH : heapN deep H n) (hn : n < 1099511627776) (x : Pth) (A1 : Option Addr) (n1 c1 : Nat) (hx1 : x.length = n1) (hx : Kd.F Kd.string w okx A1 n1 x) (hxc : n1 ≤ c1) (hxl : n1 ≤ 1099511627776) (hox : ∀ k, okx k → Own w base k ∧ some k ≠ (Value.slice A n c).ownBlock) :
    Calls Try.prog 29 #[.iface 53 (.pointer (some ⟨p, 0, none⟩)), .iface 22 (.slice A1 n1 c1)] w fun e w' => e = .returned (.tuple #[]) ∧ ∃ A' c' H', H'.Perm (H ++ [x]) ∧ heapN deep H' (n + 1) ∧ QAt base (fun k => ((ok k ∧ some k ≠ (Value.slice A n c).ownBlock) ∨ okx k) ∨ some k = (Value.slice A' (n + 1) c').ownBlock) w' p deep A' (n + 1) c' H' ∧ Moved base w w' p (.slice A n c) (.slice A' (n + 1) c') := by
  have HQ := Lib.hid hQ
  have HH := Lib.hid hH
  have HF := Lib.hid hx
  have HX1 := Lib.hid hx1
  have HXC := Lib.hid hxc
  have HOX := Lib.hid hox
  have HXL := Lib.hid hxl
  have hm1 := m_Push p
  have hm2 := m_Len p
  have hn9 : (n : Int) ≤ 1099511627776 := by omega
  clear hQ hH hx hx1 hxc hox hxl
  go_enter Try.func29, Try.ntmps29
  go_wp2_with (first
    | (go_at_call 63; ((with_reducible refine (hpush_any HQ.out (by omega) x A1 n1 c1 HX1.out HF.out HXC.out HXL.out HOX.out).mono ?_); rintro e w1 ⟨rfl, A', c', hq, hm⟩; have HQ1 := Lib.hid hq; have HM1 := Lib.hid hm; clear hq hm))
    | (go_at_call 33; ((with_reducible refine (len_any deep p (n + 1) c' A' _ HQ1.out.blk).mono ?_); rintro e w2 ⟨rfl, rfl⟩))
    | (go_at_call 38; ((with_reducible refine (up_any HQ1.out n (by omega) (by omega) (by have h1 := up_start x (HQ.out.len ▸ HH.out); rw [← HQ.out.len] at h1; exact h1)).mono ?_); rintro e w3 ⟨rfl, H', h1, h2, h3, h4⟩; have HP := Lib.hid h1; have HN := Lib.hid h2; have HQ3 := Lib.hid h3; have HM3 := Lib.hid h4; clear h1 h2 h3 h4)))
  exact bodyPost_end (v := .tuple #[]) (by simp [results, Try.results29, go_sem]) rfl ⟨rfl, A', c', H', HP.out, HN.out, HQ3.out, HM1.out.trans HM3.out⟩
theorem downZ {base : Nat} {ok : Nat → Prop} {w : World} {p : Nat} {deep : Bool} {A : Option Addr} {n c : Nat} {H : List Pth} (hQ : QAt base ok w p deep A n c H) (i0 m : Nat) {a b : Int} (ha : a = (i0 : Int)) (hb : b = (m : Int)) (hm : m ≤ n) (hi : i0 ≤ m) (hn : n ≤ 1099511627776) (hI : dnI deep H m i0) :
    Calls Try.prog 39 #[.iface 53 (.pointer (some ⟨p, 0, none⟩)), .int .i64 a, .int .i64 b] w fun e w' => (∃ b, e = .returned (.bool b)) ∧ ∃ H', H'.Perm H ∧ heapN deep H' m ∧ (∀ k, m ≤ k → ga H' k = ga H k) ∧ QAt base ok w' p deep A n c H' ∧ Moved base w w' p (.slice A n c) (.slice A n c) := by
  subst ha
  subst hb
  exact down_any hQ i0 m hm hi hn hI
set_option maxHeartbeats 1000000 in
set_option maxRecDepth 100000 in
/-- heap.Pop. -/
theorem heap_pop {base : Nat} {ok : Nat → Prop} {w : World} {p : Nat} {deep : Bool} {A : Option Addr} {m c : Nat} {H : List Pth} (hQ : QAt base ok w p deep A (m + 1) c H) (hH : heapN deep H (m + 1)) (hn : m < 1099511627776) (y : Pth) (hy : ga H 0 = y) (n1 : Nat) (hn1 : y.length = n1) :
    Calls Try.prog 32 #[.iface 53 (.pointer (some ⟨p, 0, none⟩))] w fun e w' => ∃ A1 c1 H', e = .returned (.iface 22 (.slice A1 n1 c1)) ∧ n1 ≤ c1 ∧ Kd.F Kd.string w' (fun k => ok k ∧ some k ≠ (Value.slice A m c).ownBlock) A1 n1 y ∧ H'.Perm H ∧ ga H' m = y ∧ heapN deep H' m ∧ QAt base ok w' p deep A m c (H'.take m) ∧ Moved base w w' p (.slice A (m + 1) c) (.slice A m c) := by
  have HQ := Lib.hid hQ
  have HH := Lib.hid hH
  have HY := Lib.hid hy
  have HN1 := Lib.hid hn1
  have hm1 := m_Swap p
  have hm2 := m_Len p
  have hm3 := m_Pop p
  have hw : wrap64 (m : Int) = (m : Int) := w64 (by omega) (by omega)
  have hn9 : (m : Int) ≤ 1099511627776 := by omega
  clear hQ hH hy hn1
  go_enter Try.func32, Try.ntmps32
  go_wp2_with (first
    | (go_at_call 33; ((with_reducible refine (len_any deep p (m + 1) c A _ HQ.out.blk).mono ?_); rintro e w2 ⟨rfl, rfl⟩))
    | (go_at_call 64; ((with_reducible refine (qswapZ HQ.out 0 m (by omega) (by omega) (by omega) (by omega)).mono ?_); rintro e w3 ⟨rfl, hq, hm⟩; have HQ1 := Lib.hid hq; have HM1 := Lib.hid hm; clear hq hm))
    | (go_at_call 39; ((with_reducible refine (downZ HQ1.out 0 m (by omega) (by omega) (by omega) (by omega) (by omega) (by have h1 := HQ.out.len; have h2 := dn_start (d := deep) (H := H) (h1 ▸ HH.out) (by omega); rw [← h1, Nat.add_sub_cancel] at h2; exact h2)).mono ?_); rintro e w4 ⟨⟨b, rfl⟩, H', h1, h2, h3, h4, h5⟩; have HP := Lib.hid h1; have HN := Lib.hid h2; have HG := Lib.hid h3; have HQ3 := Lib.hid h4; have HM3 := Lib.hid h5; clear h1 h2 h3 h4 h5))
    | (go_at_call 62; ((with_reducible refine (hpop_any HQ3.out (by omega)).mono ?_); rintro e w5 ⟨A1, c1, rfl, h1, h2, h3, h4⟩; have HC := Lib.hid h1; have HF := Lib.hid h2; have HQ5 := Lib.hid h3; have HM5 := Lib.hid h4; clear h1 h2 h3 h4)))
  go_ret
  have hl := HQ.out.len
  have hg : ga H' m = y := by rw [HG.out m (Nat.le_refl _), ga_sw (by omega) (by omega), if_pos rfl, HY.out]
  have hc := HC.out
  have hf := HF.out
  rw [hg, HN1.out] at hc hf
  exact ⟨A1, c1, H', by rw [hg, HN1.out]; rfl, hc, hf, HP.out.trans (sw_perm (by omega) (by omega)), hg, HN.out, HQ5.out, (HM1.out.trans HM3.out).trans HM5.out⟩

/-- A queue that holds S. -/
def QS (base : Nat) (ok : Nat → Prop) (w : World) (p : Nat) (deep : Bool) (A : Option Addr) (n c : Nat) (S : List Pth) : Prop := ∃ H, H.Perm S ∧ heapN deep H n ∧ QAt base ok w p deep A n c H
theorem QS.below {base : Nat} {ok : Nat → Prop} {w w' : World} {p : Nat} {deep : Bool} {A : Option Addr} {n c : Nat} {S : List Pth} (h : QS base ok w p deep A n c S) (hb : Below w.heap.size w w') : QS base ok w' p deep A n c S := by
  obtain ⟨H, h1, h2, h3⟩ := h
  exact ⟨H, h1, h2, h3.below hb⟩
theorem QS.perm {base : Nat} {ok : Nat → Prop} {w : World} {p : Nat} {deep : Bool} {A : Option Addr} {n c : Nat} {S S' : List Pth} (h : QS base ok w p deep A n c S) (hp : S.Perm S') : QS base ok w p deep A n c S' := by
  obtain ⟨H, h1, h2, h3⟩ := h
  exact ⟨H, h1.trans hp, h2, h3⟩
theorem QS.len {base : Nat} {ok : Nat → Prop} {w : World} {p : Nat} {deep : Bool} {A : Option Addr} {n c : Nat} {S : List Pth} (h : QS base ok w p deep A n c S) : n = S.length := by
  obtain ⟨H, h1, h2, h3⟩ := h
  rw [← h1.length_eq]
  exact h3.len
theorem QS.new {base : Nat} {deep : Bool} {w : World} (hb : base ≤ w.heap.size) : QS base (fun _ => False) (w.alloc (.cells #[.slice none 0 0, .func (.func (lessF deep)) #[] #[]] 51)) w.heap.size deep none 0 0 [] :=
  ⟨[], List.Perm.refl _, fun k h0 h1 => by omega, blk_new w _, hb, Kd.N_nil _ _ _ _ _, fun _ h => h.elim, fun _ h => by cases h⟩
set_option maxHeartbeats 1000000 in
set_option maxRecDepth 100000 in
/-- (*Queue).Push. -/
theorem queue_push {base : Nat} {ok : Nat → Prop} {w : World} {p : Nat} {deep : Bool} {A : Option Addr} {n c : Nat} {S : List Pth} (hQ : QS base ok w p deep A n c S) (hn : n < 1099511627776) (x : Pth) (A1 : Option Addr) (n1 c1 : Nat) (hx1 : x.length = n1) (hx : Kd.C Kd.string w A1 n1 x) (hxc : n1 ≤ c1) (hxl : n1 ≤ 1099511627776) :
    Calls Try.prog 17 #[.pointer (some ⟨p, 0, none⟩), .slice A1 n1 c1] w fun e w' => e = .returned (.tuple #[]) ∧ ∃ ok' A' c', (∀ k, ok' k → (ok k ∧ k < w.heap.size) ∨ w.heap.size ≤ k) ∧ QS base ok' w' p deep A' (n + 1) c' (x :: S) ∧ Moved base w w' p (.slice A n c) (.slice A' (n + 1) c') := by
  obtain ⟨H, hP, hH, hq⟩ := hQ
  have HP := Lib.hid hP
  have HH := Lib.hid hH
  have HQ := Lib.hid hq
  have HX1 := Lib.hid hx1
  have HX := Lib.hid hx
  have HXC := Lib.hid hxc
  have HXL := Lib.hid hxl
  have hu51 := Try.underlying51
  have hu49 := Try.underlying49
  clear hP hH hq hx1 hx hxc hxl
  go_enter Try.func17, Try.ntmps17
  go_wp2
  refine start_ (n := 8) (S := fun w' => Below w.heap.size w w') (ds := [7]) #[false, false, false, false, false, false, false, false] (by kernel_rfl) rfl rfl (below_drew1 (Below.refl _ _)) (fun hHeld => ?_)
  clear hHeld
  have hw0 : Drawn0 w w.drew := ⟨1, rfl⟩
  have HW0 := Lib.hid hw0
  clear hw0
  generalize w.drew = w1 at *
  refine pure_ (i := 0) (N := some 6) (v := ?_) (a' := ?_) #[true, false, false, false, false, false, false, false] rfl rfl (by kernel_rfl) (fun _ _ _ h => h) (Or.inl ⟨by rfl, ?_⟩) ?_ ?_
  rotate_left
  · intro w'
    go_simp
    with_reducible rfl
  rotate_left
  · simp only [Act.put, List.setIfInBounds_toArray, List.set_cons_zero, List.set_cons_succ, i64_w, i32_w]
    rfl
  refine pure_ (i := 1) (N := some 7) (v := ?_) (a' := ?_) #[true, true, false, false, false, false, false, false] rfl rfl (by kernel_rfl) (fun _ _ _ h => h) (Or.inl ⟨by rfl, ?_⟩) ?_ ?_
  rotate_left
  · intro w'
    go_simp
    with_reducible rfl
  rotate_left
  · simp only [Act.put, List.setIfInBounds_toArray, List.set_cons_zero, List.set_cons_succ, i64_w, i32_w]
    rfl
  refine pure_ (i := 2) (N := some 8) (v := ?_) (a' := ?_) #[true, true, true, false, false, false, false, false] rfl rfl (by kernel_rfl) (fun _ _ _ h => h) (Or.inl ⟨by rfl, ?_⟩) ?_ ?_
  rotate_left
  · intro w'
    go_simp
    with_reducible rfl
  rotate_left
  · simp only [Act.put, List.setIfInBounds_toArray, List.set_cons_zero, List.set_cons_succ, i64_w, i32_w]
    rfl
  refine pure_ (i := 3) (N := some 9) (v := ?_) (a' := ?_) #[true, true, true, true, false, false, false, false] rfl rfl (by kernel_rfl) (fun _ _ _ h => h) (Or.inl ⟨by rfl, ?_⟩) ?_ ?_
  rotate_left
  · intro w'
    go_simp
    with_reducible rfl
  rotate_left
  · simp only [Act.put, List.setIfInBounds_toArray, List.set_cons_zero, List.set_cons_succ, i64_w, i32_w]
    rfl
  refine pure_ (i := 4) (N := some 10) (v := ?_) (a' := ?_) #[true, true, true, true, true, false, false, false] rfl rfl (by kernel_rfl) (fun _ _ _ h => h) (Or.inl ⟨by rfl, ?_⟩) ?_ ?_
  rotate_left
  · intro w'
    go_simp
    with_reducible rfl
  rotate_left
  · simp only [Act.put, List.setIfInBounds_toArray, List.set_cons_zero, List.set_cons_succ, i64_w, i32_w]
    rfl
  refine one_ (i := 5) (N := some 11) #[true, true, true, true, true, true, false, false] rfl rfl (by kernel_rfl) (by decide) (fun K hK => ?_)
  refine goes_ Try.func30 (by kernel_rfl) rfl #[.slice A1 n1 c1] (by rfl) rfl rfl (by (try simp only [List.map_toArray, List.map_cons, List.map_nil]); first | done | rfl) ?_
  with_reducible refine (clone_path A1 n1 c1 x w1 HX1.out (Kd.C_below HX.out HW0.out.below) HXC.out HXL.out).mono ?_
  rintro e wn ⟨v0, rfl, hR, hb⟩
  refine ⟨_, rfl, ?_⟩
  obtain ⟨A2, c2, rfl⟩ := Kd.R_slice hR
  rw [HX1.out] at hR ⊢
  have hbn := below_step HW0.out.below hb
  refine hK _ _ hbn (fun _ => ?_)
  refine norm_ (a' := ?_) ?_ ?_
  rotate_left
  · simp only [Act.put, List.setIfInBounds_toArray, List.set_cons_zero, List.set_cons_succ, i64_w, i32_w]
    rfl
  have HR := Lib.hid hR
  have HBN := Lib.hid hbn
  have HSZ := Lib.hid HW0.out.below.size
  clear hR hb hbn
  rename_i w2
  refine pure_ (i := 6) (N := some 12) (v := ?_) (a' := ?_) #[true, true, true, true, true, true, true, false] rfl rfl (by kernel_rfl) (fun _ _ _ h => h) (Or.inl ⟨by rfl, ?_⟩) ?_ ?_
  rotate_left
  · intro w'
    go_simp
    with_reducible rfl
  rotate_left
  · simp only [Act.put, List.setIfInBounds_toArray, List.set_cons_zero, List.set_cons_succ, i64_w, i32_w]
    rfl
  refine last_ (i := 7) (N := some 13) #[true, true, true, true, true, true, true, true] rfl rfl (by kernel_rfl) (by decide) (fun K hK => ?_)
  have hq2 := HQ.out.below HBN.out
  have hr := Kd.R_tight rfl HR.out
  have hox : ∀ k, some k = (Value.slice A2 n1 c2).ownBlock → Own wn base k ∧ some k ≠ (Value.slice A n c).ownBlock := fun k hk => by
    obtain ⟨cs, h1⟩ := Kd.N_typed (Kd.R_N HR.out) k hk.symm
    have h2 := Kd.R_base HR.out k hk.symm
    have h3 := HQ.out.base_le
    have h4 := HSZ.out
    refine ⟨⟨by omega, cs, 9, h1, .inl rfl⟩, fun e => ?_⟩
    have := Kd.N_lt HQ.out.rows k e.symm
    omega
  refine goes_ Try.func29 (by kernel_rfl) rfl #[.iface 53 (.pointer (some ⟨p, 0, none⟩)), .iface 22 (.slice A2 n1 c2)] (by rfl) rfl rfl (by (try simp only [List.map_toArray, List.map_cons, List.map_nil]); first | done | rfl) ?_
  with_reducible refine (heap_push hq2 HH.out hn x A2 n1 c2 HX1.out (Kd.R_F hr) (Kd.R_reads' HR.out).2.1 HXL.out hox).mono ?_
  rintro e w3 ⟨rfl, A', c', H', h1, h2, h3, h4⟩
  refine ⟨_, rfl, ?_⟩
  have hmv : Moved base w w3 p (.slice A n c) (.slice A' (n + 1) c') := (Moved.of_below HBN.out HQ.out.base_le).trans h4
  have hok : ∀ k, ((ok k ∧ some k ≠ (Value.slice A n c).ownBlock) ∨ some k = (Value.slice A2 n1 c2).ownBlock) ∨ some k = (Value.slice A' (n + 1) c').ownBlock → (ok k ∧ k < w.heap.size) ∨ w.heap.size ≤ k := by
    have old : ∀ k, ok k → k < w.heap.size := fun k hk => by
      obtain ⟨-, cs, t, h5, -⟩ := HQ.out.own k hk
      exact blk_lt h5
    rintro k ((hk | hk) | hk)
    · exact .inl ⟨hk.1, old k hk.1⟩
    · have h5 := Kd.R_base HR.out k hk.symm
      have h6 := HSZ.out
      exact .inr (by omega)
    · rcases hmv.at_ with e | ⟨b, e, hb⟩
      · rw [e] at hk
        have h5 := HQ.out.rows.1 k hk.symm
        exact .inl ⟨h5, old k h5⟩
      · rw [e] at hk
        injection hk with hk
        exact .inr (by omega)
  have hperm : H'.Perm (x :: S) := h1.trans ((List.perm_append_singleton x H).trans (HP.out.cons x))
  have HRES := Lib.hid (show ∃ ok' A' c', (∀ k, ok' k → (ok k ∧ k < w.heap.size) ∨ w.heap.size ≤ k) ∧ QS base ok' w3 p deep A' (n + 1) c' (x :: S) ∧ Moved base w w3 p (.slice A n c) (.slice A' (n + 1) c') from ⟨_, A', c', hok, ⟨H', hperm, h2, h3⟩, hmv⟩)
  clear hq2 hr hox h1 h2 h3 h4 hmv hok hperm
  refine hK _ _ ?_
  refine done_ (by kernel_rfl) ?_
  exact bodyPost_end (v := .tuple #[]) (by simp [results, Try.results17, go_sem]) rfl ⟨rfl, HRES.out⟩
theorem qlen_nil (w : World) : Calls Try.prog 22 #[.pointer none] w fun e w' => e = .returned (.int .i64 0) ∧ w' = w := by
  go_enter Try.func22, Try.ntmps22
  go_wp2
  go_ret
  exact ⟨rfl, rfl⟩
theorem push_nil (v : Value) (w : World) : Calls Try.prog 17 #[.pointer none, v] w fun e w' => e = .returned (.tuple #[]) ∧ w' = w := by
  go_enter Try.func17, Try.ntmps17
  go_wp2
  exact bodyPost_end (v := .tuple #[]) (by simp [results, Try.results17, go_sem]) rfl ⟨rfl, rfl⟩
theorem pop_nil (w : World) : Calls Try.prog 19 #[.pointer none] w fun e w' => e = .returned (.tuple #[.slice none 0 0, .bool false]) ∧ w' = w := by
  go_enter Try.func19, Try.ntmps19
  go_wp2_with (first | (go_at_call 22; ((with_reducible refine (qlen_nil _).mono ?_); rintro e w1 ⟨rfl, rfl⟩)))
  exact bodyPost_ret (v := .tuple #[.slice none 0 0, .bool false]) (by simp [results, Try.results19, go_sem]) rfl ⟨rfl, rfl⟩
/-- A queue that has nothing left. -/
theorem queue_none {base : Nat} {ok : Nat → Prop} {w : World} {p : Nat} {deep : Bool} {A : Option Addr} {c : Nat} {S : List Pth} (hQ : QS base ok w p deep A 0 c S) :
    Calls Try.prog 19 #[.pointer (some ⟨p, 0, none⟩)] w fun e w' => e = .returned (.tuple #[.slice none 0 0, .bool false]) ∧ w' = w := by
  obtain ⟨H, hP, hH, hq⟩ := hQ
  have HQ := Lib.hid hq
  clear hP hH hq
  go_enter Try.func19, Try.ntmps19
  go_wp2_with (first | (go_at_call 22; ((with_reducible refine (qlen_any deep p 0 c A _ HQ.out.blk).mono ?_); rintro e w1 ⟨rfl, rfl⟩)))
  exact bodyPost_ret (v := .tuple #[.slice none 0 0, .bool false]) (by simp [results, Try.results19, go_sem]) rfl ⟨rfl, rfl⟩
theorem queue_len {base : Nat} {ok : Nat → Prop} {w : World} {p : Nat} {deep : Bool} {A : Option Addr} {n c : Nat} {S : List Pth} (hQ : QS base ok w p deep A n c S) :
    Calls Try.prog 22 #[.pointer (some ⟨p, 0, none⟩)] w fun e w' => e = .returned (.int .i64 n) ∧ w' = w := by
  obtain ⟨H, hP, hH, hq⟩ := hQ
  exact qlen_any deep p n c A w hq.blk
set_option maxHeartbeats 1000000 in
set_option maxRecDepth 100000 in
/-- (*Queue).Pop: the first of what is sorted. -/
theorem queue_pop {base : Nat} {ok : Nat → Prop} {w : World} {p : Nat} {deep : Bool} {A : Option Addr} {m c : Nat} {S : List Pth} {y : Pth} (hQ : QS base ok w p deep A (m + 1) c (y :: S)) (hs : (y :: S).Pairwise (le deep)) (hm : m < 1099511627776) (n1 : Nat) (hn1 : y.length = n1) :
    Calls Try.prog 19 #[.pointer (some ⟨p, 0, none⟩)] w fun e w' => ∃ A1 c1, e = .returned (.tuple #[.slice A1 n1 c1, .bool true]) ∧ n1 ≤ c1 ∧ Kd.F Kd.string w' (fun k => ok k ∧ some k ≠ (Value.slice A m c).ownBlock) A1 n1 y ∧ QS base ok w' p deep A m c S ∧ Moved base w w' p (.slice A (m + 1) c) (.slice A m c) := by
  obtain ⟨H, hP, hH, hq⟩ := hQ
  have hl := hq.len
  have hy : ga H 0 = y := heap_head (hl ▸ hH) hP hs
  have HP := Lib.hid hP
  have HH := Lib.hid hH
  have HQ := Lib.hid hq
  have HY := Lib.hid hy
  have HN := Lib.hid hn1
  have hu51 := Try.underlying51
  have hu49 := Try.underlying49
  have hta := ta_path
  clear hP hH hq hy hn1
  have hne : ((m : Int) + 1 = 0) = False := eq_false (by omega)
  go_enter Try.func19, Try.ntmps19
  go_wp2_with (first
    | (go_at_call 22; ((with_reducible refine (qlen_any deep p (m + 1) c A _ HQ.out.blk).mono ?_); rintro e w1 ⟨rfl, rfl⟩))
    | (go_at_call 32; ((with_reducible refine (heap_pop HQ.out HH.out hm y HY.out n1 HN.out).mono ?_); rintro e w1 ⟨A1, c1, H', rfl, h1, h2, h3, h4, h5, h6, h7⟩; have HC := Lib.hid h1; have HF := Lib.hid h2; have HR := Lib.hid (show QS base ok w1 p deep A m c S from ⟨H'.take m, by have := pop_perm HP.out h3 (by rw [← hl]; exact h4); rw [← hl] at this; exact this, by have h8 := heap_take (H := H') (n := m) (by rw [h3.length_eq, ← hl]; omega) h5; rw [List.length_take, h3.length_eq, ← hl, Nat.min_eq_left (Nat.le_succ m)] at h8; exact h8, h6⟩); have HM := Lib.hid h7; clear h1 h2 h3 h4 h5 h6 h7)))
  exact bodyPost_ret (v := .tuple #[.slice A1 n1 c1, .bool true]) (by simp [results, Try.results19, go_sem]) rfl ⟨A1, c1, rfl, HC.out, HF.out, HR.out, HM.out⟩

end Go.Proofs.Ytomhpfgibekmfaa.P
