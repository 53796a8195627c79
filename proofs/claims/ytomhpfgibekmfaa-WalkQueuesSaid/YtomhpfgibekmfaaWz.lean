/- The law WalkQueues: its call comes to true. No condition. -/
import Derived.Test.YtomhpfgibekmfaaWy
namespace Go.Proofs.Ytomhpfgibekmfaa.P
open Go.RowKit Go.Lib Go.Proofs.YtomhpfgibekmfaaW.PrintWords Go.Proofs.YtomhpfgibekmfaaW.PrintLast Go.Proofs.YtomhpfgibekmfaaW.PrintMore Go.Proofs.Ytomhpfgibekmfaa.Pure
set_option linter.unusedVariables false
set_option linter.unusedSimpArgs false
attribute [local go_sem] List.getElem?_cons_zero List.getElem?_cons_succ
/-- Behind both pops. -/
theorem pop_kept {base : Nat} {ok rk okf : Nat → Prop} {w0 w : World} {p y : Nat} {deep : Bool} {A : Option Addr} {nq c : Nat} {T : List Pth} {Ar Ar' : Option Addr} {n cr n' cr' : Nat} {S S' : List Pth} {Aa Ab : Option Addr} {nb : Nat} {y0 : Pth}
    (h : RQ base ok rk w p y deep A nq c T Ar n cr S) (hF : Kd.F KP w rk Ar' n' S') (hc : n' ≤ cr') (hfa : Kd.F Kd.string w (fun k => ok k ∧ okf k) Aa nb y0) (hfb : Kd.F Kd.string w rk Ab nb y0) (hb : Below w0.heap.size w0 w) (hbase : w0.heap.size = base := by rfl) :
    ∀ o : Obj, Kd.C Kd.string (((w.alloc o).setCell ⟨y, 0, none⟩ (.bool deep)).setCell ⟨y, 1, none⟩ (.slice Ar' n' cr')) Aa nb y0 ∧ Kd.C Kd.string (((w.alloc o).setCell ⟨y, 0, none⟩ (.bool deep)).setCell ⟨y, 1, none⟩ (.slice Ar' n' cr')) Ab nb y0 ∧
      RQ base ok rk (((w.alloc o).setCell ⟨y, 0, none⟩ (.bool deep)).setCell ⟨y, 1, none⟩ (.slice Ar' n' cr')) p y deep A nq c T Ar' n' cr' S' ∧ Below w0.heap.size w0 (((w.alloc o).setCell ⟨y, 0, none⟩ (.bool deep)).setCell ⟨y, 1, none⟩ (.slice Ar' n' cr')) := by
  intro o
  have ha : Below w.heap.size w (w.alloc o) := below_alloc (Below.refl _ _) o
  have h2 := h.below ha
  obtain ⟨y1, y2, y3⟩ := h2.q.apart h2.yb
  have far : ∀ k, k ≠ y → k < w.heap.size → (((w.alloc o).setCell ⟨y, 0, none⟩ (.bool deep)).setCell ⟨y, 1, none⟩ (.slice Ar' n' cr')).heap[k]? = w.heap[k]? := fun k hk hlt => by
    rw [Below.heap_setCell _ ⟨y, 1, none⟩ _ k hk, Below.heap_setCell _ ⟨y, 0, none⟩ _ k hk]
    exact ha.block k hlt
  refine ⟨Kd.F_now (Kd.F_step hfa (fun k hk hlt => far k (y3 k hk.1) hlt)), Kd.F_now (Kd.F_step hfb (fun k hk hlt => far k (h.sep k hk).2.1 hlt)), h2.store (Kd.F_step hF (fun k _ hlt => ha.block k hlt)) hc h2.sep, ?_⟩
  have hy : w0.heap.size ≤ y := hbase ▸ h.hy
  exact ((below_step hb ha).setCell (p := ⟨y, 0, none⟩) hy _).setCell (p := ⟨y, 1, none⟩) hy _
theorem rq_new {base : Nat} (deep : Bool) (w : World) (hb : base ≤ w.heap.size) : RQ base (fun _ => False) (fun _ => False) ((w.alloc (.cells #[.slice none 0 0, .func (.func (lessF deep)) #[] #[]] 51)).alloc (.cells #[.bool deep, .slice none 0 0] 32)) w.heap.size (w.heap.size + 1) deep none 0 0 [] none 0 0 [] :=
  ⟨(QS.new hb).below (below_alloc (Below.refl _ _) _), by have := blk_new (w.alloc (.cells #[.slice none 0 0, .func (.func (lessF deep)) #[] #[]] 51)) (.cells #[.bool deep, .slice none 0 0] 32); simpa using this, by omega, Kd.F_nil _ _ _, Nat.le_refl _, fun _ h => h.elim⟩
set_option maxHeartbeats 8000000 in
set_option maxRecDepth 100000 in
theorem queues_any (deep : Bool) (l : List Pth) (A0 : Option Addr) (n0 c0 : Nat) (pops : List Bool) (A2 : Option Addr) (n2 c2 : Nat) (w : World) (hn : l.length = n0) (hC : Kd.C KP w A0 n0 l) (hc : n0 ≤ c0) (hL : lightB l = true) (hpn : pops.length = n2) (hCp : Kd.C Kd.bool w A2 n2 pops) :
    Calls Try.prog 4 #[.bool deep, .slice A0 n0 c0, .slice A2 n2 c2] w fun e w' => e = .returned (.bool true) ∧ Below w.heap.size w w' := by
  have hu32 := Try.underlying32
  have hlo := light_of hL
  have h200 : n0 ≤ 200 := hn ▸ hlo.1
  have HL := Lib.hid hL
  have HLT := Lib.hid hlo.2
  have HR := Lib.hid hC
  have HN := Lib.hid hn
  have HPN := Lib.hid hpn
  have HPC := Lib.hid hCp
  clear hL hC hn hlo hpn hCp
  go_enter Try.func4, Try.ntmps4
  go_wp2_with (first
    | (go_at_call 15; ((with_reducible refine (light_call l A0 n0 c0 true _ HL.out HN.out HR.out hc).mono ?_); rintro e w1 ⟨rfl, hd⟩; have HD := Lib.hid hd; clear hd))
    | (go_at_call 16; ((with_reducible refine (new_any deep _).mono ?_); rintro e w2 ⟨rfl, rfl⟩)))
  obtain ⟨p, y, hp, hy⟩ : ∃ p y, w1.heap.size = p ∧ w1.heap.size + 1 = y := ⟨_, _, rfl, rfl⟩
  have hrq := rq_new deep w1 HD.out.size
  have hbe : Below w.heap.size w ((w1.alloc (.cells #[.slice none 0 0, .func (.func (lessF deep)) #[] #[]] 51)).alloc (.cells #[.bool deep, .slice none 0 0] 32)) := below_alloc (below_alloc HD.out _) _
  rw [hy, hp] at hrq
  rw [hy, hp]
  have HRQ := Lib.hid hrq
  have HBE := Lib.hid hbe
  clear hrq hbe
  generalize (w1.alloc (.cells #[.slice none 0 0, .func (.func (lessF deep)) #[] #[]] 51)).alloc (.cells #[.bool deep, .slice none 0 0] 32) = w2 at *
  clear hp hy HD
  go_loopg [9] (n0 + 1) (fun gk v9 wx => ∃ (i n : Nat) (S : List Pth) (ok rk : Nat → Prop) (A : Option Addr) (c : Nat) (Ar : Option Addr) (cr : Nat), i + gk = n0 + 1 ∧ i ≤ n0 ∧ v9 = .int .i64 (i : Int) ∧ n ≤ i ∧ S.length = n ∧ Aside0 (Below w.heap.size w wx) ∧ Aside0 (RQ w.heap.size ok rk wx p y deep A n c S Ar n cr S) ∧ Aside0 (S.Pairwise (le deep)) ∧ Aside0 (∀ x ∈ S, x.length ≤ 1000))
  case atStart => exact ⟨0, 0, [], _, _, none, 0, none, 0, by omega, by omega, rfl, by omega, rfl, ⟨HBE.out⟩, ⟨HRQ.out⟩, ⟨List.Pairwise.nil⟩, ⟨fun _ h => by cases h⟩⟩
  case round =>
    obtain ⟨i, n, S, ok, rk, A, c, Ar, cr, h1, h2, rfl, h3, hSl, h4, h5, h6, h7⟩ := hrel
    clear HRQ HBE
    by_cases hlt : i < n0
    · obtain ⟨g', rfl⟩ : ∃ g', gk = g' + 1 := ⟨gk - 1, by omega⟩
      have hltz : (i : Int) < (n0 : Int) := by omega
      have h0z : (0 : Int) ≤ (i : Int) := by omega
      have hi9 : (i : Int) ≤ 1048576 := by omega
      obtain ⟨ad, A1, c1, rfl, x1, y1, z1⟩ := at_L1 HR.out (i : Int) h0z hltz
      rw [Int.toNat_natCast] at x1
      obtain ⟨X, hX⟩ : ∃ X, rd_L1 l (i : Int) = X := ⟨_, rfl⟩
      have hX2 : X ∈ l := by
        rw [← hX]
        simp only [rd_L1, Int.toNat_natCast]
        rw [List.getD_eq_getElem?_getD, List.getElem?_eq_getElem (by rw [HN.out]; exact hlt)]
        exact List.getElem_mem _
      rw [hX] at x1 y1 z1
      obtain ⟨n1, hn1⟩ : ∃ n1, X.length = n1 := ⟨_, rfl⟩
      rw [hn1] at x1 y1 z1
      have HX1 := Lib.hid hn1
      have HY1 := Lib.hid y1
      have HXL := Lib.hid (show n1 ≤ 1000 by rw [← hn1]; exact HLT.out _ hX2)
      have HLW := Lib.hid (show ∀ W, Below w.heap.size w W → W.cell? (ad.add i) = some (.slice A1 n1 c1) ∧ Kd.C Kd.string W A1 n1 X from fun W hW => ⟨pw_cell_below hW x1, Kd.C_below z1 hW⟩)
      have x1 := (HLW.out _ h4.out).1
      clear hX hX2 hn1 y1 z1
      go_wp2_with (first
        | ((with_reducible refine gate_dst (N := 39) rfl ?_); refine Kd.R_lit Kd.string (w0 := wr) wr.heap.size 9 ?hg (N := 39) ?hd (xs := ([] : List ByteArray)) (inner := []) (ok := fun _ => True) (okp := fun _ => True) ?hr ?hp (fun _ hk => hk) trivial (Below.refl _ _) (Nat.le_refl _) (by simp) ?_; (case hd => rfl); (case hg => rfl); (case hr => first | (go_simp; done) | (go_simp; rfl)); (case hp => exact (Reps.none _ _)); intro v39 w5 ho_ hb_ hg_ hn_; have HO := Lib.hid ho_; have HB5 := Lib.hid hb_; have x1 := pw_cell_below hb_ x1; clear ho_ hb_ hg_ hn_)
        | ((with_reducible refine gate_builtin (b := .append) (xs := #[.tmp 39, .tmp 43]) rfl ?_); at_builtin; refine Kd.R_append_rows Kd.string (w0 := wr) wr.heap.size rfl (.tmp 39) (.tmp 43) 22 9 (.string ⟨#[]⟩) 16 rfl Try.underlying22 info9 rfl (by decide) (by omega) v39 [] X _ _ _ (fun _ => True) (fun _ => False) rfl rfl HO.out (HLW.out _ (below_step h4.out HB5.out)).2 (fun _ _ h => h) (fun _ h => h.elim) (fun _ _ => trivial) HB5.out HB5.out.size (by have := HXL.out; simp; omega) ?_; intro v44 w6 ho_ hb_ hg_ hn_; rw [List.nil_append] at ho_; (obtain ⟨Ain, cin, e_⟩ := Kd.R_slice ho_); subst e_; rw [HX1.out] at ho_ ⊢; have HO6 := Lib.hid ho_; have HB6 := Lib.hid hb_; clear ho_ hb_ hg_ hn_)
        | (go_at_call 17; ((with_reducible refine (queue_push (h5.out.q.below HB6.out) (by omega) X Ain n1 cin HX1.out (by have h9 := Kd.R_reads' HO6.out; rw [← h9.1] at h9; exact h9.2.2) (Kd.R_reads' HO6.out).2.1 (by have := HXL.out; omega)).mono ?_); rintro e w7 ⟨rfl, ok', A', c', hk, hq, hm⟩; have HK7 := Lib.hid hk; have HM7 := Lib.hid hm; have HRQ7 := Lib.hid ((h5.out.below HB6.out).queue (hq.perm (ins_perm' deep X S).symm) hm); clear hk hq hm)))
      have hb7 : Below w.heap.size w w7 := (below_step h4.out HB6.out).trans HM7.out.below
      obtain ⟨o1, o2, o3, o4⟩ := h5.out.q.own
      have hbi : ∀ k, some k = (Value.slice Ain n1 cin).ownBlock → wr.heap.size ≤ k ∧ k < w6.heap.size := fun k hk => ⟨Kd.R_base HO6.out k hk.symm, Kd.N_lt (Kd.R_N HO6.out) k hk.symm⟩
      have hin7 : Kd.R Kd.string 9 w7 wr.heap.size (fun k => some k = (Value.slice Ain n1 cin).ownBlock) (.slice Ain n1 cin) X := Kd.R_step (Kd.R_tight rfl HO6.out) (fun k hk hlt => HM7.out.block k hlt (fun e => by have := (hbi k hk).1; omega) (fun e => by have h8 := (hbi k hk).1; have h9 := (o1 k (o4 k _ _ e.symm)).2.2; omega))
      have hok7 : ∀ k, ok' k → k < wr.heap.size ∨ w6.heap.size ≤ k := fun k hk => (HK7.out k hk).imp (fun e => (o1 k e.1).2.2) (fun e => e)
      have HB7 := Lib.hid hb7
      have HBI := Lib.hid hbi
      have HIN7 := Lib.hid hin7
      have HOK7 := Lib.hid hok7
      have HPY := Lib.hid (show p < wr.heap.size ∧ y < wr.heap.size ∧ wr.heap.size ≤ w6.heap.size ∧ w6.heap.size ≤ w7.heap.size ∧ (∀ k, rk k → k < wr.heap.size) from ⟨o2, blk_lt h5.out.yb, HB6.out.size, HM7.out.below.size, fun k hk => (h5.out.sep k hk).2.2.2⟩)
      clear hb7 hbi hin7 hok7 o1 o2 o3 o4 HO HB5 HO6 HB6 HM7 HK7 h4 h5 x1

      have hS8 : Below w.heap.size w w7.drew ∧ RQ w.heap.size ok' rk w7.drew p y deep A' (n + 1) c' (ins deep X S) Ar n cr S := ⟨below_drew1 HB7.out, HRQ7.out.below (below_drew1 (Below.refl _ _))⟩
      have hin8 := Kd.R_drew HIN7.out
      have hz8 : w7.heap.size ≤ w7.drew.heap.size := Nat.le_refl _
      refine start_ (n := 7) (S := fun w' => Below w.heap.size w w' ∧ RQ w.heap.size ok' rk w' p y deep A' (n + 1) c' (ins deep X S) Ar n cr S) (ds := [6]) #[false, false, false, false, false, false, false] (by kernel_rfl) rfl rfl hS8 (fun hHeld => ?_)
      clear hHeld
      have HS8 := Lib.hid hS8
      have HIN8 := Lib.hid hin8
      have HZ8 := Lib.hid hz8
      clear hS8 hin8 hz8 HIN7 HRQ7 HB7
      generalize w7.drew = w8 at *
      refine take_ (i := 0) (N := some 48) (v := ?_) (a' := ?_) #[true, false, false, false, false, false, false] rfl rfl (by kernel_rfl) (fun _ _ _ h => h) (Or.inl ⟨by rfl, ?_⟩) HS8.out ?_ ?_
      rotate_left
      · intro w' s0
        have x0 := (blk_cell s0.2.yb 0).trans rfl
        have x1 := (blk_cell s0.2.yb 1).trans rfl
        go_simp
        with_reducible rfl
      rotate_left
      · simp only [Act.put, List.setIfInBounds_toArray, List.set_cons_zero, List.set_cons_succ, i64_w, i32_w]
        rfl
      refine pure_ (i := 1) (N := some 49) (v := ?_) (a' := ?_) #[true, true, false, false, false, false, false] rfl rfl (by kernel_rfl) (fun _ _ _ h => h) (Or.inl ⟨by rfl, ?_⟩) ?_ ?_
      rotate_left
      · intro w'
        go_simp
        with_reducible rfl
      rotate_left
      · simp only [Act.put, List.setIfInBounds_toArray, List.set_cons_zero, List.set_cons_succ, i64_w, i32_w]
        rfl
      refine pure_ (i := 2) (N := some 50) (v := ?_) (a' := ?_) #[true, true, true, false, false, false, false] rfl rfl (by kernel_rfl) (fun _ _ _ h => h) (Or.inl ⟨by rfl, ?_⟩) ?_ ?_
      rotate_left
      · intro w'
        go_simp
        with_reducible rfl
      rotate_left
      · simp only [Act.put, List.setIfInBounds_toArray, List.set_cons_zero, List.set_cons_succ, i64_w, i32_w]
        rfl
      refine pure_ (i := 3) (N := some 51) (v := ?_) (a' := ?_) #[true, true, true, true, false, false, false] rfl rfl (by kernel_rfl) (fun _ _ _ h => h) (Or.inl ⟨by rfl, ?_⟩) ?_ ?_
      rotate_left
      · intro w'
        go_simp
        with_reducible rfl
      rotate_left
      · simp only [Act.put, List.setIfInBounds_toArray, List.set_cons_zero, List.set_cons_succ, i64_w, i32_w]
        rfl
      refine take_ (i := 4) (N := some 52) (v := ?_) (a' := ?_) #[true, true, true, true, true, false, false] rfl rfl (by kernel_rfl) (fun _ _ _ h => h) (Or.inl ⟨by rfl, ?_⟩) HS8.out ?_ ?_
      rotate_left
      · intro w' s0
        have x0 := (HLW.out w' s0.1).1
        go_simp
        with_reducible rfl
      rotate_left
      · simp only [Act.put, List.setIfInBounds_toArray, List.set_cons_zero, List.set_cons_succ, i64_w, i32_w]
        rfl
      refine one_ (i := 5) (N := some 53) #[true, true, true, true, true, true, false] rfl rfl (by kernel_rfl) (by decide) (fun K hK => ?_)
      refine goes_ Try.func18 (by kernel_rfl) rfl #[.agg #[.bool deep, .slice Ar n cr], .slice A1 n1 c1] (by rfl) rfl rfl (by (try simp only [List.map_toArray, List.map_cons, List.map_nil]); first | done | rfl) ?_
      with_reducible refine (rpush_call deep S X rk Ar n cr A1 n1 c1 w8 hSl (by omega) (fun z hz => Nat.le_trans (h7.out z hz) (by decide)) HX1.out (by have := HXL.out; omega) HS8.out.2.r HS8.out.2.rc (HLW.out _ HS8.out.1).2 HY1.out).mono ?_
      rintro e wn ⟨A9, c9, rfl, hc9, hF9, hb9⟩
      refine ⟨_, rfl, ?_⟩
      have hS9 := And.intro (below_step HS8.out.1 hb9) (HS8.out.2.below hb9)
      refine hK _ _ hS9 (fun _ => ?_)
      refine norm_ (a' := ?_) ?_ ?_
      rotate_left
      · simp only [Act.put, List.setIfInBounds_toArray, List.set_cons_zero, List.set_cons_succ, i64_w, i32_w]
        rfl
      have HS9 := Lib.hid hS9
      have HIN9 := Lib.hid (Kd.R_below HIN8.out hb9)
      have HRK := Lib.hid (show ∀ k, ((rk k ∨ w8.heap.size ≤ k) ∧ k < wn.heap.size) → k ≠ p ∧ k ≠ y ∧ some k ≠ (Value.slice A' 0 0).ownBlock ∧ k < wn.heap.size from fun k hk => by
        obtain ⟨z1, z2, z3, z4, z5⟩ := HPY.out
        have z6 := HZ8.out
        rcases hk.1 with h | h
        · obtain ⟨q1, q2, q3, q4⟩ := HS8.out.2.sep k h
          exact ⟨q1, q2, q3, hk.2⟩
        · refine ⟨by omega, by omega, fun e => ?_, hk.2⟩
          obtain ⟨o1, o2, o3, o4⟩ := HS8.out.2.q.own
          have := (o1 k (o4 k _ _ e.symm)).2.2
          omega)
      have HF9 := Lib.hid (Kd.F_bound hF9)
      have HC9 := Lib.hid hc9
      have HZ9 := Lib.hid hb9.size
      clear hS9 hF9 hc9 hb9
      refine last_ (i := 6) (N := none) #[true, true, true, true, true, true, true] rfl rfl (by kernel_rfl) (by decide) (fun K hK => ?_)
      rw [if_pos (by rfl)]
      unfold Oper.wp
      have k0 := (blk_cell HS9.out.2.yb 0).trans rfl
      have k1 := (blk_cell HS9.out.2.yb 1).trans rfl
      have f0 := blk_frozen HS9.out.2.yb 0
      have f1 := blk_frozen HS9.out.2.yb 1
      go_simp
      refine hK _ _ ?_
      refine done_ (by kernel_rfl) ?_
      have hrq10 := HS9.out.2.store HF9.out HC9.out HRK.out
      have hyz : w.heap.size ≤ y := HS9.out.2.hy
      have hb10 : Below w.heap.size w ((wn.setCell ⟨y, 0, none⟩ (.bool deep)).setCell ⟨y, 1, none⟩ (.slice A9 (n + 1) c9)) := (HS9.out.1.setCell (p := ⟨y, 0, none⟩) hyz _).setCell (p := ⟨y, 1, none⟩) hyz _
      have hin10 : Kd.R Kd.string 9 ((wn.setCell ⟨y, 0, none⟩ (.bool deep)).setCell ⟨y, 1, none⟩ (.slice A9 (n + 1) c9)) wr.heap.size (fun k => some k = (Value.slice Ain n1 cin).ownBlock) (.slice Ain n1 cin) X := Kd.R_step HIN9.out (fun k hk _ => by
        have h8 := (HBI.out k hk).1
        have h9 := HPY.out.2.1
        rw [Below.heap_setCell _ ⟨y, 1, none⟩ _ k (by show k ≠ y; omega), Below.heap_setCell _ ⟨y, 0, none⟩ _ k (by show k ≠ y; omega)])
      have HSEP := Lib.hid (show ∀ k, (k = p ∨ k = y ∨ ok' k ∨ ((rk k ∨ w8.heap.size ≤ k) ∧ k < wn.heap.size)) → some k ≠ (Value.slice Ain n1 cin).ownBlock from fun k hk e => by
        obtain ⟨b1, b2⟩ := HBI.out k e
        obtain ⟨z1, z2, z3, z4, z5⟩ := HPY.out
        have z6 := HZ8.out
        rcases hk with rfl | rfl | hk | hk
        · omega
        · omega
        · rcases HOK7.out k hk with h | h <;> omega
        · rcases hk.1 with h | h
          · have := z5 k h
            omega
          · omega)
      have HRQ10 := Lib.hid hrq10
      have HB10 := Lib.hid hb10
      have HIN10 := Lib.hid hin10
      generalize hrk9 : (fun k => (rk k ∨ w8.heap.size ≤ k) ∧ k < wn.heap.size) = rk9 at HRQ10
      have HSEP9 := Lib.hid (show ∀ k, (k = p ∨ k = y ∨ ok' k ∨ rk9 k) → some k ≠ (Value.slice Ain n1 cin).ownBlock from fun k hk => HSEP.out k (by rw [← hrk9] at hk; exact hk))
      clear hrq10 hb10 hin10 hyz k0 k1 f0 f1 HS9 HIN9 HF9 HC9 HRK HZ9 HSEP hrk9 HS8 HIN8 HOK7
      generalize (wn.setCell ⟨y, 0, none⟩ (.bool deep)).setCell ⟨y, 1, none⟩ (.slice A9 (n + 1) c9) = w10 at *
      generalize hNr : wr.heap.size = Nr at *
      clear hNr
      go_wp2
      go_loopg [11] (n1 + 1) (fun gk2 v11 wx => ∃ j : Nat, j + gk2 = n1 + 1 ∧ j ≤ n1 ∧ v11 = .int .i64 (j : Int) ∧ Aside0 (Below w.heap.size w wx) ∧ Aside0 (RQ w.heap.size ok' rk9 wx p y deep A' (n + 1) c' (ins deep X S) A9 (n + 1) c9 (ins deep X S)) ∧ Aside0 (∃ l' : List ByteArray, l'.length = n1 ∧ Kd.R Kd.string 9 wx Nr (fun k => some k = (Value.slice Ain n1 cin).ownBlock) (.slice Ain n1 cin) l'))
      case atStart => exact ⟨0, by omega, by omega, rfl, ⟨HB10.out⟩, ⟨HRQ10.out⟩, ⟨X, HX1.out, HIN10.out⟩⟩
      case round =>
        clear HB10 HRQ10 HIN10
        obtain ⟨j, q1, q2, rfl, h4, h5, h8⟩ := hrel
        by_cases hjt : j < n1
        · obtain ⟨g2, rfl⟩ : ∃ g2, gk = g2 + 1 := ⟨gk - 1, by omega⟩
          have hjz : (j : Int) < (n1 : Int) := by omega
          have h0j : (0 : Int) ≤ (j : Int) := by omega
          have hj9 : (j : Int) ≤ 1000 := by have := HXL.out; omega
          obtain ⟨l', hl', hR⟩ := h8.out
          obtain ⟨g, cap, e, -, -, -⟩ := Kd.N_form (Kd.R_N hR) (by omega)
          rw [hl'] at e
          injection e with e1 e2 e3
          subst e1
          clear e2 e3
          obtain ⟨hcl, hfz⟩ := Kd.R_cell ByteArray.empty (by rw [hl']; exact hR) (j : Int) (by omega) (by omega)
          rw [Int.toNat_natCast] at hcl hfz
          have HRR := Lib.hid hR
          have HLE := Lib.hid hl'
          clear hR hl' h8
          go_wp2
          have hput := Kd.R_putg (h1 := fun _ => rfl) HRR.out (j : Int) (⟨#[63]⟩ : ByteArray)
          rw [Int.toNat_natCast] at hput
          have hg9 : ∀ k, (k = p ∨ k = y ∨ ok' k ∨ rk9 k) → some k ≠ some g := fun k hk e => HSEP9.out k hk (by rw [e]; simp [Value.ownBlock])
          have hrq11 := h5.out.move hput.2.size (fun k hk hlt => hput.2.block k hlt (hg9 k hk))
          have hb11 := pw_below_grown h4.out (some g) h4.out.size hput.2 (fun k hk => by have h9 := (HBI.out k (by rw [hk.symm]; simp [Value.ownBlock])).1; have := HPY.out.2.1; have := h5.out.hy; omega)
          go_roundg g2
          case measure => omega
          case rel => exact ⟨j + 1, by omega, by omega, by go_num, ⟨hb11⟩, ⟨hrq11⟩, ⟨l'.set j ⟨#[63]⟩, by rw [List.length_set, HLE.out], hput.1⟩⟩
        · have hjz : ¬ ((j : Int) < (n1 : Int)) := by omega
          clear h8 hjt q1 q2
          obtain ⟨S1, hS1⟩ : ∃ S1, ins deep X S = S1 := ⟨_, rfl⟩
          have hS1l : S1.length = n + 1 := by rw [← hS1, ins_length, hSl]
          have hS1s : S1.Pairwise (le deep) := by rw [← hS1]; exact ins_sorted' h6.out
          have hS1b : ∀ x ∈ S1, x.length ≤ 1000 := fun x hx => by
            rw [← hS1] at hx
            rcases List.mem_cons.1 ((ins_perm' deep X S).mem_iff.1 hx) with rfl | hx
            · rw [HX1.out]; exact HXL.out
            · exact h7.out x hx
          rw [hS1] at h5
          have HS1S := Lib.hid hS1s
          have HS1B := Lib.hid hS1b
          clear hS1 hS1s hS1b HSEP9 HBI HPY HLW HX1 HY1 HXL h6 h7 hSl
          by_cases hpi : i < n2 ∧ pops.getD i false = true
          · have hpz : (i : Int) < (n2 : Int) := by omega
            obtain ⟨adp, rfl, hpc⟩ := (Kd.reads_of_C (d := false) HPC.out).2.2 (by omega)
            have hpx := hpc i hpi.1
            rw [hpi.2] at hpx
            have hpx := pw_cell_below h4.out hpx
            obtain ⟨y0, S2, rfl⟩ : ∃ y0 S2, S1 = y0 :: S2 := by
              cases S1 with
              | nil => simp at hS1l
              | cons y0 S2 => exact ⟨y0, S2, rfl⟩
            have hS2l : S2.length = n := by simpa using hS1l
            clear hS1l
            obtain ⟨ad9, cc, rfl, k1, k2, k3, k4⟩ := Kd.F_get h5.out.r [] 0 (by omega) (by omega)
            obtain ⟨Ab, cb, rfl, yb9, zb9⟩ := Kd.FK_slice_open k2
            have x9 := k3 0 _ rfl
            simp only [List.getD_cons_zero, Int.toNat_zero, Nat.zero_mul, Nat.add_zero, Int.reduceToNat] at x9 yb9 zb9
            obtain ⟨nb, hnb⟩ : ∃ nb, y0.length = nb := ⟨_, rfl⟩
            rw [hnb] at x9 yb9 zb9
            have hr9 := k4 (by decide)
            have HCELL := Lib.hid (show ∀ W : World, (∀ k, rk9 k → k < wr.heap.size → W.heap[k]? = wr.heap[k]?) → W.cell? (ad9.add 0) = some (.slice Ab nb cb) from fun W hW => by
              have h9 := hW ad9.block hr9 (h5.out.sep _ hr9).2.2.2
              rw [← x9]
              simp only [World.cell?, add_block, h9])
            have HZB := Lib.hid zb9
            have HYB := Lib.hid yb9
            have HNB := Lib.hid hnb
            have HNB9 := Lib.hid (show nb ≤ 1000 from hnb ▸ HS1B.out y0 (by simp))
            obtain ⟨A9', hA9'⟩ : ∃ A9', (if c9 = 1 then some ad9 else some (ad9.add 1)) = A9' := ⟨_, rfl⟩
            have hcut : Kd.F KP wr rk9 A9' n S2 := by
              have h9 := Kd.F_cut (m := 1) (c := c9) (by have := h5.out.r; rw [← hS2l] at this; exact this) (by simp) (by have := h5.out.rc; simp only [List.length_cons, hS2l]; exact this)
              rw [← hA9', ← hS2l]
              exact h9
            have HCUT := Lib.hid hcut
            have HA9' := Lib.hid hA9'
            clear k1 k2 k3 k4 x9 yb9 zb9 hnb hr9 hcut hA9'
            go_wp2_with (first
              | (go_at_call 19; ((with_reducible refine (queue_pop h5.out.q HS1S.out (by omega) nb HNB.out).mono ?_); rintro e w11 ⟨A1p, c1p, rfl, q1, q2, q3, q4⟩; have HC1 := Lib.hid q1; have HRQp := Lib.hid (h5.out.queue q3 q4); have HCE := Lib.hid (HCELL.out w11 (fun k hk hlt => q4.block k hlt (h5.out.sep k hk).1 (by rw [own_any]; exact (h5.out.sep k hk).2.2.1))); have HZB1 := Lib.hid (Kd.F_step HZB.out (fun k hk hlt => q4.block k hlt (h5.out.sep k hk).1 (by rw [own_any]; exact (h5.out.sep k hk).2.2.1))); have HCUT1 := Lib.hid (Kd.F_step HCUT.out (fun k hk hlt => q4.block k hlt (h5.out.sep k hk).1 (by rw [own_any]; exact (h5.out.sep k hk).2.2.1))); have HF1 := Lib.hid q2; have HBp := Lib.hid (h4.out.trans q4.below); have k0 := (blk_cell HRQp.out.yb 0).trans rfl; have k1 := (blk_cell HRQp.out.yb 1).trans rfl; clear q1 q2 q3 q4))
              | (go_at_call 20; ((with_reducible refine (rpop_some deep ad9 n c9 Ab nb cb _ HRQp.out.rc HCE.out A9' HA9'.out).mono ?_); rintro e w12 ⟨rfl, hb⟩; have HRQq := Lib.hid (HRQp.out.below hb); have HBq := Lib.hid (below_step HBp.out hb); have HPK := Lib.hid (pop_kept (HRQp.out.below hb) (Kd.F_step HCUT1.out (fun k _ hlt => hb.block k hlt)) (Nat.le_sub_of_add_le HRQp.out.rc) (Kd.F_step HF1.out (fun k _ hlt => hb.block k hlt)) (Kd.F_step HZB1.out (fun k _ hlt => hb.block k hlt)) (below_step HBp.out hb)); clear k0 k1; have k0 := fun o : Obj => (blk_cell (blk_alloc HRQq.out.yb o) 0).trans rfl; have k1 := fun o : Obj => (blk_cell (blk_alloc HRQq.out.yb o) 1).trans rfl; have f0 := fun o : Obj => blk_frozen (blk_alloc HRQq.out.yb o) 0; have f1 := fun o : Obj => blk_frozen (blk_alloc HRQq.out.yb o) 1; have hny : y ≠ w12.heap.size := Nat.ne_of_lt (blk_lt HRQq.out.yb); have hny' := hny.symm; clear hb))
              | (go_at_call 21; ((with_reducible refine (same_call y0 A1p nb c1p Ab nb cb _ HNB.out HNB.out (by have := HNB9.out; omega) (HPK.out _).1 HC1.out (HPK.out _).2.1 HYB.out).mono ?_); rintro e w13 ⟨rfl, hd⟩; have HRQe := Lib.hid ((HPK.out _).2.2.1.below hd.below); have HBe := Lib.hid (below_step (HPK.out _).2.2.2 hd.below); clear hd)))
            have hS22 : Below w.heap.size w w13.drew ∧ RQ w.heap.size ok' rk9 w13.drew p y deep A' (n) c' S2 A9' (n) (c9 - 1) S2 := ⟨below_drew1 HBe.out, HRQe.out.below (below_drew1 (Below.refl _ _))⟩
            have hn22 : (n : Nat) ≤ 1048576 := by omega
            refine start_ (n := 6) (S := fun w' => Below w.heap.size w w' ∧ RQ w.heap.size ok' rk9 w' p y deep A' (n) c' S2 A9' (n) (c9 - 1) S2) (ds := []) #[false, false, false, false, false, false] (by kernel_rfl) rfl rfl hS22 (fun hHeld => ?_)
            clear hHeld
            have HS22 := Lib.hid hS22
            clear hS22
            generalize w13.drew = w22 at *
            refine pure_ (i := 0) (N := some 94) (v := ?_) (a' := ?_) #[true, false, false, false, false, false] rfl rfl (by kernel_rfl) (fun _ _ _ h => h) (Or.inl ⟨by rfl, ?_⟩) ?_ ?_
            rotate_left
            · intro w'
              go_simp
              with_reducible rfl
            rotate_left
            · simp only [Act.put, List.setIfInBounds_toArray, List.set_cons_zero, List.set_cons_succ, i64_w, i32_w]
              rfl
            refine pure_ (i := 2) (N := some 96) (v := ?_) (a' := ?_) #[true, false, true, false, false, false] rfl rfl (by kernel_rfl) (fun _ _ _ h => h) (Or.inl ⟨by rfl, ?_⟩) ?_ ?_
            rotate_left
            · intro w'
              go_simp
              with_reducible rfl
            rotate_left
            · simp only [Act.put, List.setIfInBounds_toArray, List.set_cons_zero, List.set_cons_succ, i64_w, i32_w]
              rfl
            refine take_ (i := 3) (N := some 97) (v := ?_) (a' := ?_) #[true, false, true, true, false, false] rfl rfl (by kernel_rfl) (fun _ _ _ h => h) (Or.inl ⟨by rfl, ?_⟩) HS22.out ?_ ?_
            rotate_left
            · intro w' s0
              have x1 := (blk_cell s0.2.yb 1).trans rfl
              go_simp
              with_reducible rfl
            rotate_left
            · simp only [Act.put, List.setIfInBounds_toArray, List.set_cons_zero, List.set_cons_succ, i64_w, i32_w]
              rfl
            refine pure_ (i := 4) (N := some 98) (v := ?_) (a' := ?_) #[true, false, true, true, true, false] rfl rfl (by kernel_rfl) (fun _ _ _ h => h) (Or.inl ⟨by rfl, ?_⟩) ?_ ?_
            rotate_left
            · intro w'
              go_simp
              with_reducible rfl
            rotate_left
            · simp only [Act.put, List.setIfInBounds_toArray, List.set_cons_zero, List.set_cons_succ, i64_w, i32_w]
              rfl
            refine one_ (i := 1) (N := some 95) #[true, true, true, true, true, false] rfl rfl (by kernel_rfl) (by decide) (fun K hK => ?_)
            refine goes_ Try.func22 (by kernel_rfl) rfl #[.pointer (some ⟨p, 0, none⟩)] (by rfl) rfl rfl (by (try simp only [List.map_toArray, List.map_cons, List.map_nil]); first | done | rfl) ?_
            with_reducible refine (queue_len HS22.out.2.q).mono ?_
            rintro e wn ⟨rfl, hw_⟩
            refine ⟨_, rfl, ?_⟩
            subst hw_
            refine hK _ _ HS22.out (fun _ => ?_)
            refine norm_ (a' := ?_) ?_ ?_
            rotate_left
            · simp only [Act.put, List.setIfInBounds_toArray, List.set_cons_zero, List.set_cons_succ, i64_w, i32_w]
              rfl
            refine pure_ (i := 5) (N := some 99) (v := ?_) (a' := ?_) #[true, true, true, true, true, true] rfl rfl (by kernel_rfl) (fun _ _ _ h => h) (Or.inl ⟨by rfl, ?_⟩) ?_ ?_
            rotate_left
            · intro w'
              go_simp
              with_reducible rfl
            rotate_left
            · simp only [Act.put, List.setIfInBounds_toArray, List.set_cons_zero, List.set_cons_succ, i64_w, i32_w]
              rfl
            refine done_ (by kernel_rfl) ?_
            go_wp2
            go_roundg g'
            case measure => omega
            case rel => exact ⟨i + 1, n, S2, ok', rk9, A', c', A9', c9 - 1, by omega, by omega, by go_num, by omega, hS2l, ⟨HS22.out.1⟩, ⟨HS22.out.2⟩, ⟨(List.pairwise_cons.1 HS1S.out).2⟩, ⟨fun x hx => HS1B.out x (List.mem_cons_of_mem _ hx)⟩⟩
          · have hnp : ¬ (i < n2 ∧ pops.getD i false = true) := hpi
            have HRQe := Lib.hid h5.out
            have HBe := Lib.hid h4.out
            clear hpi h5 h4
            by_cases hi2 : i < n2
            · have hpz : (i : Int) < (n2 : Int) := by omega
              obtain ⟨adp, rfl, hpc⟩ := (Kd.reads_of_C (d := false) HPC.out).2.2 (by omega)
              have hpx := hpc i hi2
              have hpf : pops.getD i false = false := by
                cases h : pops.getD i false
                · rfl
                · exact absurd ⟨hi2, h⟩ hnp
              rw [hpf] at hpx
              have hpx := pw_cell_below HBe.out hpx
              clear hnp
              go_wp2
              have hS22 : Below w.heap.size w wr.drew ∧ RQ w.heap.size ok' rk9 wr.drew p y deep A' (n + 1) c' S1 A9 (n + 1) (c9) S1 := ⟨below_drew1 HBe.out, HRQe.out.below (below_drew1 (Below.refl _ _))⟩
              have hn22 : (n + 1 : Nat) ≤ 1048576 := by omega
              refine start_ (n := 6) (S := fun w' => Below w.heap.size w w' ∧ RQ w.heap.size ok' rk9 w' p y deep A' (n + 1) c' S1 A9 (n + 1) (c9) S1) (ds := []) #[false, false, false, false, false, false] (by kernel_rfl) rfl rfl hS22 (fun hHeld => ?_)
              clear hHeld
              have HS22 := Lib.hid hS22
              clear hS22
              generalize wr.drew = w22 at *
              refine pure_ (i := 0) (N := some 94) (v := ?_) (a' := ?_) #[true, false, false, false, false, false] rfl rfl (by kernel_rfl) (fun _ _ _ h => h) (Or.inl ⟨by rfl, ?_⟩) ?_ ?_
              rotate_left
              · intro w'
                go_simp
                with_reducible rfl
              rotate_left
              · simp only [Act.put, List.setIfInBounds_toArray, List.set_cons_zero, List.set_cons_succ, i64_w, i32_w]
                rfl
              refine pure_ (i := 2) (N := some 96) (v := ?_) (a' := ?_) #[true, false, true, false, false, false] rfl rfl (by kernel_rfl) (fun _ _ _ h => h) (Or.inl ⟨by rfl, ?_⟩) ?_ ?_
              rotate_left
              · intro w'
                go_simp
                with_reducible rfl
              rotate_left
              · simp only [Act.put, List.setIfInBounds_toArray, List.set_cons_zero, List.set_cons_succ, i64_w, i32_w]
                rfl
              refine take_ (i := 3) (N := some 97) (v := ?_) (a' := ?_) #[true, false, true, true, false, false] rfl rfl (by kernel_rfl) (fun _ _ _ h => h) (Or.inl ⟨by rfl, ?_⟩) HS22.out ?_ ?_
              rotate_left
              · intro w' s0
                have x1 := (blk_cell s0.2.yb 1).trans rfl
                go_simp
                with_reducible rfl
              rotate_left
              · simp only [Act.put, List.setIfInBounds_toArray, List.set_cons_zero, List.set_cons_succ, i64_w, i32_w]
                rfl
              refine pure_ (i := 4) (N := some 98) (v := ?_) (a' := ?_) #[true, false, true, true, true, false] rfl rfl (by kernel_rfl) (fun _ _ _ h => h) (Or.inl ⟨by rfl, ?_⟩) ?_ ?_
              rotate_left
              · intro w'
                go_simp
                with_reducible rfl
              rotate_left
              · simp only [Act.put, List.setIfInBounds_toArray, List.set_cons_zero, List.set_cons_succ, i64_w, i32_w]
                rfl
              refine one_ (i := 1) (N := some 95) #[true, true, true, true, true, false] rfl rfl (by kernel_rfl) (by decide) (fun K hK => ?_)
              refine goes_ Try.func22 (by kernel_rfl) rfl #[.pointer (some ⟨p, 0, none⟩)] (by rfl) rfl rfl (by (try simp only [List.map_toArray, List.map_cons, List.map_nil]); first | done | rfl) ?_
              with_reducible refine (queue_len HS22.out.2.q).mono ?_
              rintro e wn ⟨rfl, hw_⟩
              refine ⟨_, rfl, ?_⟩
              subst hw_
              refine hK _ _ HS22.out (fun _ => ?_)
              refine norm_ (a' := ?_) ?_ ?_
              rotate_left
              · simp only [Act.put, List.setIfInBounds_toArray, List.set_cons_zero, List.set_cons_succ, i64_w, i32_w]
                rfl
              refine pure_ (i := 5) (N := some 99) (v := ?_) (a' := ?_) #[true, true, true, true, true, true] rfl rfl (by kernel_rfl) (fun _ _ _ h => h) (Or.inl ⟨by rfl, ?_⟩) ?_ ?_
              rotate_left
              · intro w'
                go_simp
                with_reducible rfl
              rotate_left
              · simp only [Act.put, List.setIfInBounds_toArray, List.set_cons_zero, List.set_cons_succ, i64_w, i32_w]
                rfl
              refine done_ (by kernel_rfl) ?_
              go_wp2
              go_roundg g'
              case measure => omega
              case rel => exact ⟨i + 1, n + 1, S1, ok', rk9, A', c', A9, c9, by omega, by omega, by go_num, by omega, hS1l, ⟨HS22.out.1⟩, ⟨HS22.out.2⟩, ⟨HS1S.out⟩, ⟨HS1B.out⟩⟩
            · have hpz : ¬ ((i : Int) < (n2 : Int)) := by omega
              go_wp2
              have hS22 : Below w.heap.size w wr.drew ∧ RQ w.heap.size ok' rk9 wr.drew p y deep A' (n + 1) c' S1 A9 (n + 1) (c9) S1 := ⟨below_drew1 HBe.out, HRQe.out.below (below_drew1 (Below.refl _ _))⟩
              have hn22 : (n + 1 : Nat) ≤ 1048576 := by omega
              refine start_ (n := 6) (S := fun w' => Below w.heap.size w w' ∧ RQ w.heap.size ok' rk9 w' p y deep A' (n + 1) c' S1 A9 (n + 1) (c9) S1) (ds := []) #[false, false, false, false, false, false] (by kernel_rfl) rfl rfl hS22 (fun hHeld => ?_)
              clear hHeld
              have HS22 := Lib.hid hS22
              clear hS22
              generalize wr.drew = w22 at *
              refine pure_ (i := 0) (N := some 94) (v := ?_) (a' := ?_) #[true, false, false, false, false, false] rfl rfl (by kernel_rfl) (fun _ _ _ h => h) (Or.inl ⟨by rfl, ?_⟩) ?_ ?_
              rotate_left
              · intro w'
                go_simp
                with_reducible rfl
              rotate_left
              · simp only [Act.put, List.setIfInBounds_toArray, List.set_cons_zero, List.set_cons_succ, i64_w, i32_w]
                rfl
              refine pure_ (i := 2) (N := some 96) (v := ?_) (a' := ?_) #[true, false, true, false, false, false] rfl rfl (by kernel_rfl) (fun _ _ _ h => h) (Or.inl ⟨by rfl, ?_⟩) ?_ ?_
              rotate_left
              · intro w'
                go_simp
                with_reducible rfl
              rotate_left
              · simp only [Act.put, List.setIfInBounds_toArray, List.set_cons_zero, List.set_cons_succ, i64_w, i32_w]
                rfl
              refine take_ (i := 3) (N := some 97) (v := ?_) (a' := ?_) #[true, false, true, true, false, false] rfl rfl (by kernel_rfl) (fun _ _ _ h => h) (Or.inl ⟨by rfl, ?_⟩) HS22.out ?_ ?_
              rotate_left
              · intro w' s0
                have x1 := (blk_cell s0.2.yb 1).trans rfl
                go_simp
                with_reducible rfl
              rotate_left
              · simp only [Act.put, List.setIfInBounds_toArray, List.set_cons_zero, List.set_cons_succ, i64_w, i32_w]
                rfl
              refine pure_ (i := 4) (N := some 98) (v := ?_) (a' := ?_) #[true, false, true, true, true, false] rfl rfl (by kernel_rfl) (fun _ _ _ h => h) (Or.inl ⟨by rfl, ?_⟩) ?_ ?_
              rotate_left
              · intro w'
                go_simp
                with_reducible rfl
              rotate_left
              · simp only [Act.put, List.setIfInBounds_toArray, List.set_cons_zero, List.set_cons_succ, i64_w, i32_w]
                rfl
              refine one_ (i := 1) (N := some 95) #[true, true, true, true, true, false] rfl rfl (by kernel_rfl) (by decide) (fun K hK => ?_)
              refine goes_ Try.func22 (by kernel_rfl) rfl #[.pointer (some ⟨p, 0, none⟩)] (by rfl) rfl rfl (by (try simp only [List.map_toArray, List.map_cons, List.map_nil]); first | done | rfl) ?_
              with_reducible refine (queue_len HS22.out.2.q).mono ?_
              rintro e wn ⟨rfl, hw_⟩
              refine ⟨_, rfl, ?_⟩
              subst hw_
              refine hK _ _ HS22.out (fun _ => ?_)
              refine norm_ (a' := ?_) ?_ ?_
              rotate_left
              · simp only [Act.put, List.setIfInBounds_toArray, List.set_cons_zero, List.set_cons_succ, i64_w, i32_w]
                rfl
              refine pure_ (i := 5) (N := some 99) (v := ?_) (a' := ?_) #[true, true, true, true, true, true] rfl rfl (by kernel_rfl) (fun _ _ _ h => h) (Or.inl ⟨by rfl, ?_⟩) ?_ ?_
              rotate_left
              · intro w'
                go_simp
                with_reducible rfl
              rotate_left
              · simp only [Act.put, List.setIfInBounds_toArray, List.set_cons_zero, List.set_cons_succ, i64_w, i32_w]
                rfl
              refine done_ (by kernel_rfl) ?_
              go_wp2
              go_roundg g'
              case measure => omega
              case rel => exact ⟨i + 1, n + 1, S1, ok', rk9, A', c', A9, c9, by omega, by omega, by go_num, by omega, hS1l, ⟨HS22.out.1⟩, ⟨HS22.out.2⟩, ⟨HS1S.out⟩, ⟨HS1B.out⟩⟩
    · have hltz : ¬ ((i : Int) < (n0 : Int)) := by omega
      obtain rfl : i = n0 := by omega
      have HH4 := Lib.hid h4.out
      have HH5 := Lib.hid h5.out
      have HH6 := Lib.hid h6.out
      have HH7 := Lib.hid h7.out
      clear h4 h5 h6 h7 h1 h2 hlt
      go_wp2
      go_loopg [17] (i + 2) (fun gk v17 wx => ∃ (j n1 : Nat) (S1 : List Pth) (ok' rk9 : Nat → Prop) (A' : Option Addr) (c' : Nat) (A9 : Option Addr) (c9 : Nat), j + gk = i + 2 ∧ j ≤ i + 1 ∧ v17 = .int .i64 (j : Int) ∧ n1 ≤ i - j ∧ S1.length = n1 ∧ Aside0 (Below w.heap.size w wx) ∧ Aside0 (RQ w.heap.size ok' rk9 wx p y deep A' n1 c' S1 A9 n1 c9 S1) ∧ Aside0 (S1.Pairwise (le deep)) ∧ Aside0 (∀ x ∈ S1, x.length ≤ 1000))
      case atStart => exact ⟨0, n, S, ok, rk, A, c, Ar, cr, by omega, by omega, rfl, by omega, hSl, ⟨HH4.out⟩, ⟨HH5.out⟩, ⟨HH6.out⟩, ⟨HH7.out⟩⟩
      case round =>
        clear HH4 HH5 HH6 HH7 hSl h3 hltz
        obtain ⟨j, nx, S1, ok', rk9, A', c', A9, c9, q1, q2, rfl, q3, hS1l, h4, h5, h6, h7⟩ := hrel
        by_cases hji : j ≤ i
        · obtain ⟨g', rfl⟩ : ∃ g', gk = g' + 1 := ⟨gk - 1, by omega⟩
          have hjz : (j : Int) ≤ (i : Int) := by omega
          have hj9 : (j : Int) ≤ 200 := by omega
          have h0j : (0 : Int) ≤ (j : Int) := by omega
          rcases Nat.eq_zero_or_pos nx with h0 | h0
          · subst h0
            obtain rfl := List.eq_nil_of_length_eq_zero hS1l
            go_wp2_with (first
              | (go_at_call 19; ((with_reducible refine (queue_none h5.out.q).mono ?_); rintro e w11 ⟨rfl, hw_⟩; subst hw_; have k0 := (blk_cell h5.out.yb 0).trans rfl; have k1 := (blk_cell h5.out.yb 1).trans rfl))
              | (go_at_call 20; ((with_reducible refine (rpop_none deep A9 c9 _).mono ?_); rintro e w12 ⟨rfl, hb⟩; have HRQq := Lib.hid (h5.out.below hb); have HPK := Lib.hid (pop_kept (okf := fun _ => True) (nb := 0) (y0 := []) (Aa := none) (Ab := none) (h5.out.below hb) (Kd.F_step h5.out.r (fun k _ hlt => hb.block k hlt)) h5.out.rc (Kd.F_nil _ _ _) (Kd.F_nil _ _ _) (below_step h4.out hb)); clear k0 k1; have k0 := fun o : Obj => (blk_cell (blk_alloc HRQq.out.yb o) 0).trans rfl; have k1 := fun o : Obj => (blk_cell (blk_alloc HRQq.out.yb o) 1).trans rfl; have f0 := fun o : Obj => blk_frozen (blk_alloc HRQq.out.yb o) 0; have f1 := fun o : Obj => blk_frozen (blk_alloc HRQq.out.yb o) 1; have hny : y ≠ w12.heap.size := Nat.ne_of_lt (blk_lt HRQq.out.yb); have hny' := hny.symm; clear hb))
              | (go_at_call 21; ((with_reducible refine (same_call [] none 0 0 none 0 0 _ rfl rfl (by omega) (HPK.out _).1 (Nat.le_refl _) (HPK.out _).2.1 (Nat.le_refl _)).mono ?_); rintro e w13 ⟨rfl, hd⟩; have HRQe := Lib.hid ((HPK.out _).2.2.1.below hd.below); have HBe := Lib.hid (below_step (HPK.out _).2.2.2 hd.below); clear hd)))
            go_roundg g'
            case measure => omega
            case rel => exact ⟨j + 1, 0, [], ok', rk9, A', c', A9, c9, by omega, by omega, by go_num, by omega, rfl, ⟨HBe.out⟩, ⟨HRQe.out⟩, ⟨List.Pairwise.nil⟩, ⟨fun _ h => by cases h⟩⟩
          · obtain ⟨n, rfl⟩ : ∃ n, nx = n + 1 := ⟨nx - 1, by omega⟩
            obtain ⟨y0, S2, rfl⟩ : ∃ y0 S2, S1 = y0 :: S2 := by
              cases S1 with
              | nil => simp at hS1l
              | cons y0 S2 => exact ⟨y0, S2, rfl⟩
            have hS2l : S2.length = n := by simpa using hS1l
            have HS1S := Lib.hid h6.out
            have HS1B := Lib.hid h7.out
            clear hS1l h6 h7
            obtain ⟨ad9, cc, rfl, k1, k2, k3, k4⟩ := Kd.F_get h5.out.r [] 0 (by omega) (by omega)
            obtain ⟨Ab, cb, rfl, yb9, zb9⟩ := Kd.FK_slice_open k2
            have x9 := k3 0 _ rfl
            simp only [List.getD_cons_zero, Int.toNat_zero, Nat.zero_mul, Nat.add_zero, Int.reduceToNat] at x9 yb9 zb9
            obtain ⟨nb, hnb⟩ : ∃ nb, y0.length = nb := ⟨_, rfl⟩
            rw [hnb] at x9 yb9 zb9
            have hr9 := k4 (by decide)
            have HCELL := Lib.hid (show ∀ W : World, (∀ k, rk9 k → k < wr.heap.size → W.heap[k]? = wr.heap[k]?) → W.cell? (ad9.add 0) = some (.slice Ab nb cb) from fun W hW => by
              have h9 := hW ad9.block hr9 (h5.out.sep _ hr9).2.2.2
              rw [← x9]
              simp only [World.cell?, add_block, h9])
            have HZB := Lib.hid zb9
            have HYB := Lib.hid yb9
            have HNB := Lib.hid hnb
            have HNB9 := Lib.hid (show nb ≤ 1000 from hnb ▸ HS1B.out y0 (by simp))
            obtain ⟨A9', hA9'⟩ : ∃ A9', (if c9 = 1 then some ad9 else some (ad9.add 1)) = A9' := ⟨_, rfl⟩
            have hcut : Kd.F KP wr rk9 A9' n S2 := by
              have h9 := Kd.F_cut (m := 1) (c := c9) (by have := h5.out.r; rw [← hS2l] at this; exact this) (by simp) (by have := h5.out.rc; simp only [List.length_cons, hS2l]; exact this)
              rw [← hA9', ← hS2l]
              exact h9
            have HCUT := Lib.hid hcut
            have HA9' := Lib.hid hA9'
            clear k1 k2 k3 k4 x9 yb9 zb9 hnb hr9 hcut hA9'
            go_wp2_with (first
              | (go_at_call 19; ((with_reducible refine (queue_pop h5.out.q HS1S.out (by omega) nb HNB.out).mono ?_); rintro e w11 ⟨A1p, c1p, rfl, q1, q2, q3, q4⟩; have HC1 := Lib.hid q1; have HRQp := Lib.hid (h5.out.queue q3 q4); have HCE := Lib.hid (HCELL.out w11 (fun k hk hlt => q4.block k hlt (h5.out.sep k hk).1 (by rw [own_any]; exact (h5.out.sep k hk).2.2.1))); have HZB1 := Lib.hid (Kd.F_step HZB.out (fun k hk hlt => q4.block k hlt (h5.out.sep k hk).1 (by rw [own_any]; exact (h5.out.sep k hk).2.2.1))); have HCUT1 := Lib.hid (Kd.F_step HCUT.out (fun k hk hlt => q4.block k hlt (h5.out.sep k hk).1 (by rw [own_any]; exact (h5.out.sep k hk).2.2.1))); have HF1 := Lib.hid q2; have HBp := Lib.hid (h4.out.trans q4.below); have k0 := (blk_cell HRQp.out.yb 0).trans rfl; have k1 := (blk_cell HRQp.out.yb 1).trans rfl; clear q1 q2 q3 q4))
              | (go_at_call 20; ((with_reducible refine (rpop_some deep ad9 n c9 Ab nb cb _ HRQp.out.rc HCE.out A9' HA9'.out).mono ?_); rintro e w12 ⟨rfl, hb⟩; have HRQq := Lib.hid (HRQp.out.below hb); have HBq := Lib.hid (below_step HBp.out hb); have HPK := Lib.hid (pop_kept (HRQp.out.below hb) (Kd.F_step HCUT1.out (fun k _ hlt => hb.block k hlt)) (Nat.le_sub_of_add_le HRQp.out.rc) (Kd.F_step HF1.out (fun k _ hlt => hb.block k hlt)) (Kd.F_step HZB1.out (fun k _ hlt => hb.block k hlt)) (below_step HBp.out hb)); clear k0 k1; have k0 := fun o : Obj => (blk_cell (blk_alloc HRQq.out.yb o) 0).trans rfl; have k1 := fun o : Obj => (blk_cell (blk_alloc HRQq.out.yb o) 1).trans rfl; have f0 := fun o : Obj => blk_frozen (blk_alloc HRQq.out.yb o) 0; have f1 := fun o : Obj => blk_frozen (blk_alloc HRQq.out.yb o) 1; have hny : y ≠ w12.heap.size := Nat.ne_of_lt (blk_lt HRQq.out.yb); have hny' := hny.symm; clear hb))
              | (go_at_call 21; ((with_reducible refine (same_call y0 A1p nb c1p Ab nb cb _ HNB.out HNB.out (by have := HNB9.out; omega) (HPK.out _).1 HC1.out (HPK.out _).2.1 HYB.out).mono ?_); rintro e w13 ⟨rfl, hd⟩; have HRQe := Lib.hid ((HPK.out _).2.2.1.below hd.below); have HBe := Lib.hid (below_step (HPK.out _).2.2.2 hd.below); clear hd)))
            go_roundg g'
            case measure => omega
            case rel => exact ⟨j + 1, n, S2, ok', rk9, A', c', A9', c9 - 1, by omega, by omega, by go_num, by omega, hS2l, ⟨HBe.out⟩, ⟨HRQe.out⟩, ⟨(List.pairwise_cons.1 HS1S.out).2⟩, ⟨fun x hx => HS1B.out x (List.mem_cons_of_mem _ hx)⟩⟩
        · have hjz : ¬ ((j : Int) ≤ (i : Int)) := by omega
          obtain rfl : nx = 0 := by omega
          go_wp2_with (first
            | (go_at_call 22; ((with_reducible refine (queue_len h5.out.q).mono ?_); rintro e w11 ⟨rfl, hw_⟩; subst hw_))
            | (go_at_call 8; ((with_reducible refine (awake_call' _).mono ?_); rintro e w12 ⟨rfl, hb⟩; have HB := Lib.hid hb; clear hb)))
          go_ret
          exact ⟨rfl, below_step h4.out HB.out⟩
def gessolaw15_WalkQueues.f (deep : Bool) (l : List (List ByteArray)) (pops : List Bool) : Option Bool := some true
theorem gessolaw15_WalkQueues.calls (deep : Bool) (A0 : Option Addr) (c0 : Nat) (l0 : List (List ByteArray)) (A1 : Option Addr) (c1 : Nat) (l1 : List Bool) (r : Bool) (w : World) (hr0 : Kd.C (Kd.slice 9 Kd.string) w A0 l0.length l0) (hc0 : l0.length ≤ c0) (hr1 : Kd.C Kd.bool w A1 l1.length l1) (hc1 : l1.length ≤ c1) (h : gessolaw15_WalkQueues.f deep l0 l1 = some r) :
    Calls Try.prog 4 #[.bool deep, .slice A0 l0.length c0, .slice A1 l1.length c1] w fun e w' => e = .returned (.bool r) ∧ Below w.heap.size w w' := by
  obtain rfl := Option.some.inj h
  cases hL : lightB l0
  · exact queues_far deep l0 A0 l0.length c0 _ w rfl hr0 hc0 hL
  · exact queues_any deep l0 A0 l0.length c0 l1 A1 l1.length c1 w rfl hr0 hc0 hL rfl hr1
end Go.Proofs.Ytomhpfgibekmfaa.P
