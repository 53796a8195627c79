/- The law ScanFeeds: its call comes to true. No condition. -/
import Derived.Test.YtjlhehaagaaihaaDoorGx
namespace Go.Proofs.YtjlhehaagaaihaaDoor.P
open Go.RowKit Go.Lib Go.Proofs.YtjlhehaagaaihaaDoorW.PrintWords Go.Proofs.YtjlhehaagaaihaaDoorW.PrintLast Go.Proofs.YtjlhehaagaaihaaDoorW.PrintMore Go.Proofs.YtjlhehaagaaihaaDoor.Pure
attribute [local go_sem] max2_int min2_int max_two min_two max_three min_three max_four min_four run_fld0 run_fld1 run_fld2
set_option linter.unusedVariables false
set_option linter.unusedSimpArgs false

theorem of_nil_bad : ofBad [] = -1 := rfl
theorem of_nil_pend : ofPend [] = [] := rfl
/-- 'same', of a scan behind all bytes. -/
theorem same_of (p : Nat) (a : List Int) (L : Nat) (ok : Nat → Prop) (A : Option Addr) (c : Nat) (w : World) (ha : Bytes a) (hl : a.length ≤ 1099511627776) (hL : (ofPend a).length = L) (h : OfAt w p a ok) (hC : Kd.C (Kd.int .u8) w A L (ofPend a)) (hc : L ≤ c) (s b : Int) (hs : (a.length : Int) = s) (hb : ofBad a = b) :
    Calls Tryd.prog 35 #[.pointer (some ⟨p, 0, none⟩), .agg #[.int .i64 s, .int .i64 b, .slice A L c]] w fun e w' => e = .returned (.bool true) ∧ Below w.heap.size w w' := by
  subst hs
  subst hb
  have := (bad_le a ha).2.2.2.2.2.1
  exact same_true p (a.length : Int) (ofBad a) (ofPend a) L hL ok A c w h hC hc (by omega) (by omega) (by omega)
theorem y_set {w W0 : World} {y p : Nat} {z0 z1 z2 : Value} {ax : List Int} {ok : Nat → Prop} {A : Option Addr} {L c base : Nat} (hy : w.heap[y]? = some (.cells #[z0, z1, z2] 52 (0, 0))) (hB : Below W0.heap.size W0 w) (hyy : W0.heap.size ≤ y) (hs : OfAt w p ax ok) (hpy : p ≠ y)
    (hR : Kd.R (Kd.int .u8) 5 w base (fun _ => True) (.slice A L c) (ofPend ax)) (S B : Int) :
    Below W0.heap.size W0 (((w.setCell ⟨y, 0, none⟩ (.int .i64 S)).setCell ⟨y, 1, none⟩ (.int .i64 B)).setCell ⟨y, 2, none⟩ (.slice A L c)) ∧
    OfAt (((w.setCell ⟨y, 0, none⟩ (.int .i64 S)).setCell ⟨y, 1, none⟩ (.int .i64 B)).setCell ⟨y, 2, none⟩ (.slice A L c)) p ax ok ∧
    (((w.setCell ⟨y, 0, none⟩ (.int .i64 S)).setCell ⟨y, 1, none⟩ (.int .i64 B)).setCell ⟨y, 2, none⟩ (.slice A L c)).heap[y]? = some (.cells #[.int .i64 S, .int .i64 B, .slice A L c] 52 (0, 0)) ∧
    Kd.R (Kd.int .u8) 5 (((w.setCell ⟨y, 0, none⟩ (.int .i64 S)).setCell ⟨y, 1, none⟩ (.int .i64 B)).setCell ⟨y, 2, none⟩ (.slice A L c)) 0 (fun _ => True) (.slice A L c) (ofPend ax) := by
  have far : ∀ (i : Nat) (u : Value) (W : World) (k : Nat), k ≠ y → (W.setCell ⟨y, i, none⟩ u).heap[k]? = W.heap[k]? := fun i u W k hk => Below.heap_setCell W ⟨y, i, none⟩ u k hk
  have far3 : ∀ k, k ≠ y → (((w.setCell ⟨y, 0, none⟩ (.int .i64 S)).setCell ⟨y, 1, none⟩ (.int .i64 B)).setCell ⟨y, 2, none⟩ (.slice A L c)).heap[k]? = w.heap[k]? := fun k hk => by rw [far _ _ _ _ hk, far _ _ _ _ hk, far _ _ _ _ hk]
  refine ⟨((hB.setCell (p := ⟨y, 0, none⟩) hyy _).setCell (p := ⟨y, 1, none⟩) hyy _).setCell (p := ⟨y, 2, none⟩) hyy _, ScanAt.step hs (far3 p hpy) (fun k _ hu _ => far3 k (fun e => ?_)), by simpa using blk_set (blk_set (blk_set hy 0 (.int .i64 S)) 1 (.int .i64 B)) 2 (.slice A L c), ?_⟩
  · subst e
    obtain ⟨cs, fz, hu⟩ := hu
    rw [hy] at hu
    injection hu with hu
    injection hu with _ hu _
    cases hu
  · have h1 := Kd.R_types hR hy (by decide)
    exact Kd.R_mono (Kd.R_lower (Kd.R_step h1 (fun k hk _ => far3 k hk.2)) (Nat.zero_le _)) (fun _ _ => trivial)
set_option maxHeartbeats 4000000 in
set_option maxRecDepth 100000 in
theorem feeds_any (A0 : Option Addr) (n0 c0 : Nat) (l0 : List (List Int)) (W0 : World) (hT : Tabs W0) (hn0 : l0.length = n0) (hr0 : Kd.C (Kd.slice 5 (Kd.int .u8)) W0 A0 n0 l0) (hc0 : n0 ≤ c0) (hb0 : ∀ x ∈ l0, Bytes x) (hl : l0.flatten.length ≤ 1048576) (hn : n0 ≤ 1048576) :
    Calls Tryd.prog 11 #[.slice A0 n0 c0] W0 fun e w' => e = .returned (.bool true) ∧ Below W0.heap.size W0 w' := by
  have hu52 := Tryd.underlying52
  have HR0 := Lib.hid hr0
  have HN0 := Lib.hid hn0
  have HX0 := Lib.hid hb0
  have HLL := Lib.hid hl
  clear hr0 hn0 hb0 hl
  go_enter Tryd.func11, Tryd.ntmps11
  go_wp2_with (first
    | (go_at_call 34; ((with_reducible refine (new_of _).mono ?_); rintro e w1 ⟨p, rfl, hp1, hb1, hs1⟩; have HP := Lib.hid hp1; have HYS := Lib.hid hb1.size; have HB1 := Lib.hid (hb1.alloc hb1.size (.cells #[.int .i64 0, .int .i64 (-1), .slice none 0 0] 52)); have HY1 := Lib.hid (blk_new w1 (.cells #[.int .i64 0, .int .i64 (-1), .slice none 0 0] 52)); have HS1 := Lib.hid (hs1.below ((Below.refl _ _).alloc (Nat.le_refl _) (.cells #[.int .i64 0, .int .i64 (-1), .slice none 0 0] 52))); clear hp1 hb1 hs1))
    | (go_at_call 35; ((with_reducible refine (same_of p [] 0 _ none 0 _ bytes_nil (by simp) rfl HS1.out (Kd.R_reads' (Kd.R_nil (Kd.int .u8) 5 _ 0 (fun _ => True))).2.2 (Nat.le_refl _) 0 (-1) rfl rfl).mono ?_); rintro e w2 ⟨rfl, hb2⟩; have HB2 := Lib.hid (below_step HB1.out hb2); have HS2 := Lib.hid (HS1.out.below hb2); have HY2 := Lib.hid (blk_below HY1.out hb2); have HG := Lib.hid (show p ≠ w1.heap.size from fun e => by have h1 := HP.out; have h2 := blk_ne HS1.out.choose_spec.choose_spec.1 HY1.out (by decide); exact h2 e); clear hb2)))
  obtain ⟨y, hy⟩ : ∃ y, w1.heap.size = y := ⟨_, rfl⟩
  have hY2 := HY2.out
  have hG := HG.out
  have hy0 : W0.heap.size ≤ y := hy ▸ HYS.out
  rw [hy] at hY2 hG ⊢
  have HYY := Lib.hid hy0
  have HGG := Lib.hid hG
  clear hy hG hy0
  go_loopg [5] (n0 + 1) (fun gk v5 wx => ∃ i : Nat, i + gk = n0 + 1 ∧ i ≤ n0 ∧ v5 = .int .i64 (i : Int) ∧ Aside0 (Below W0.heap.size W0 wx) ∧ Aside0 (OfAt wx p (l0.take i).flatten (fun _ => True)) ∧ Aside0 (∃ A L c, (ofPend (l0.take i).flatten).length = L ∧ wx.heap[y]? = some (.cells #[.int .i64 ((l0.take i).flatten.length : Int), .int .i64 (ofBad (l0.take i).flatten), .slice A L c] 52 (0, 0)) ∧ Kd.R (Kd.int .u8) 5 wx 0 (fun _ => True) (.slice A L c) (ofPend (l0.take i).flatten)))
  case atStart => exact ⟨0, by omega, by omega, rfl, ⟨HB2.out⟩, ⟨HS2.out.mono (fun _ _ => trivial)⟩, ⟨none, 0, 0, rfl, hY2, Kd.R_nil _ _ _ _ _⟩⟩
  case round =>
    clear HB2 HS2 HY2 HB1 HS1 HY1 hY2 HG
    obtain ⟨i, hik, hin, rfl, HB, HS, HY⟩ := hrel
    by_cases hlt : i < n0
    · have hltz : (i : Int) < (n0 : Int) := by omega
      obtain ⟨g', rfl⟩ : ∃ g', gk = g' + 1 := ⟨gk - 1, by omega⟩
      have p0 : (0 : Int) ≤ (i : Int) := by omega
      obtain ⟨X, hX⟩ : ∃ X, rd_L2 l0 (i : Int) = X := ⟨_, rfl⟩
      have hiX : l0.getD i [] = X := by rw [← rd_L2_nat]; exact hX
      have hX0 : X ∈ l0 := by rw [← hiX, getD_lt _ _ _ (by rw [HN0.out]; exact hlt)]; exact List.getElem_mem _
      have hbX := HX0.out X hX0
      have hti : (l0.take (i + 1)).flatten = (l0.take i).flatten ++ X := by
        rw [List.take_succ_eq_append_getElem (by rw [HN0.out]; exact hlt), List.flatten_append, ← hiX, getD_lt _ _ _ (by rw [HN0.out]; exact hlt)]
        simp
      have hfl : (l0.take (i + 1)).flatten.length ≤ 1048576 := by
        have h2 := HLL.out
        have h3 : l0.flatten = (l0.take (i + 1)).flatten ++ (l0.drop (i + 1)).flatten := by rw [← List.flatten_append, List.take_append_drop]
        rw [h3, List.length_append] at h2
        omega
      have hq : ∀ W : World, Below W0.heap.size W0 W → ∃ ad A1 c1, A0 = some ad ∧ W.cell? (ad.add i) = some (.slice A1 X.length c1) ∧ X.length ≤ c1 ∧ Kd.C (Kd.int .u8) W A1 X.length X := fun W hB => by
        obtain ⟨ad, A1, c1, e1, e2, e3, e4⟩ := at_L2 (Kd.C_below HR0.out hB) (i : Int) (by omega) hltz
        rw [hX, Int.toNat_natCast] at e2
        rw [hX] at e3 e4
        exact ⟨ad, A1, c1, e1, e2, e3, e4⟩
      obtain ⟨ad, A1, c1, e1, e2, e3, e4⟩ := hq W0 (Below.refl _ _)
      subst e1
      obtain ⟨m, hm⟩ : ∃ m, X.length = m := ⟨_, rfl⟩
      rw [hm] at e2 e3 e4
      have hcl : ∀ W : World, Below W0.heap.size W0 W → W.cell? (ad.add i) = some (.slice A1 m c1) := fun W hB => pw_cell_below hB e2
      have hcx : ∀ W : World, Below W0.heap.size W0 W → Kd.C (Kd.int .u8) W A1 m X := fun W hB => Kd.C_below e4 hB
      have hmm : m ≤ 1048576 := by rw [← hm]; rw [hti, List.length_append] at hfl; omega
      have HCL := Lib.hid hcl
      have HCX := Lib.hid hcx
      have HM := Lib.hid hm
      have HMM := Lib.hid hmm
      have HTI := Lib.hid hti
      have HFL := Lib.hid hfl
      have HBX := Lib.hid hbX
      clear hq hcl hcx hm hmm hti hfl hbX hX hiX hX0 e2 e4
      go_wp2_with (first
        | ((with_reducible refine gate_dst (N := 24) rfl ?_); refine Kd.R_lit (Kd.int .u8) wr.heap.size 5 ?hg (N := 24) ?hd (xs := ([] : List Int)) (inner := []) (ok := fun k => wr.heap.size ≤ k) (okp := fun _ => False) ?hr ?hp (fun _ hk => hk.elim) (Nat.le_refl _) (Below.refl _ _) (Nat.le_refl _) (by simp) ?_; (case hd => rfl); (case hg => rfl); (case hr => first | (go_simp; done) | (go_simp; rfl)); (case hp => exact (Reps.none _ _)); intro v2 w2 ho hb2 hg_ hnew_; have HO2 := Lib.hid ho; have HB2 := Lib.hid hb2; have k2 := HCL.out _ (below_step HB.out hb2); clear ho hb2 hg_ hnew_)
        | ((with_reducible refine gate_builtin (b := .append) (xs := #[.tmp 24, .tmp 28]) rfl ?_); at_builtin; refine Kd.R_append_rows (Kd.int .u8) (w0 := wr) wr.heap.size rfl (.tmp 24) (.tmp 28) 23 5 (.int .u8 0) 1 rfl Tryd.underlying23 info5 rfl (by decide) (by omega) v2 [] X _ _ _ (fun k => wr.heap.size ≤ k) (fun _ => False) rfl rfl HO2.out (HCX.out _ (below_step HB.out HB2.out)) (fun _ _ h => h) (fun _ h => h.elim) (fun k hk => Nat.le_trans HB2.out.size hk) HB2.out HB2.out.size (by have := HMM.out; rw [List.length_nil]; omega) ?_; intro v3 w3 ho hb3 hg_ hat_; rw [List.nil_append] at ho; (obtain ⟨A3, c3, e3'⟩ := Kd.R_slice ho); subst e3'; rw [HM.out] at ho ⊢; have HO3 := Lib.hid ho; have HB3 := Lib.hid hb3; clear ho hb3 hg_ hat_ HO2 HB2 k2))
      have hS0 : Below W0.heap.size W0 w3.drew ∧ Kd.R (Kd.int .u8) 5 w3.drew W0.heap.size (fun k => wr.heap.size ≤ k) (.slice A3 m c3) X := ⟨below_drew1 (below_step HB.out HB3.out), Kd.R_drew (Kd.R_lower HO3.out HB.out.size)⟩
      have hP1 : OfAt w3.drew p (l0.take i).flatten (fun k => k < wr.heap.size) := ((HS.out.bound.mono (fun k hk => hk.2)).below HB3.out).below (below_drew1 (Below.refl _ _))
      have hYb : wr.heap.size ≤ w3.drew.heap.size := HB3.out.size
      have hBa : Bytes (l0.take i).flatten := fun z hz => by
        obtain ⟨q, hq1, hq2⟩ := List.mem_flatten.1 hz
        exact HX0.out q (List.mem_of_mem_take hq1) z hq2
      have HBA := Lib.hid hBa
      have HP1 := Lib.hid hP1
      have HPL := Lib.hid (show p < wr.heap.size from HS.out.lt)
      obtain ⟨Ay, Ly, cy, hLy, hYc, hYr⟩ := HY.out
      have hpb : ∃ cs, wr.heap[p]? = some (.cells cs 78 (0, 0)) := by obtain ⟨A9, c9, q1, q2, q3⟩ := HS.out; exact ⟨_, q1⟩
      obtain ⟨csp, hcsp⟩ := hpb
      have hYr1 : Kd.R (Kd.int .u8) 5 w3.drew 0 (fun k => k < wr.heap.size ∧ k ≠ p) (.slice Ay Ly cy) (ofPend (l0.take i).flatten) := Kd.R_drew (Kd.R_below (Kd.R_mono (Kd.R_types (Kd.R_bound hYr) hcsp (by decide)) (fun k hk => ⟨hk.1.2.2.1, hk.2⟩)) HB3.out)
      have hYc1 := blk_drew (blk_below hYc HB3.out)
      have HYR1 := Lib.hid hYr1
      have HYC1 := Lib.hid hYc1
      have HLY := Lib.hid hLy
      have HYL := Lib.hid (blk_lt hYc)
      clear hBa hP1 hYr1 hYc1 hLy hYc hYr hcsp HY HS
      refine start_ (n := 14) (S := fun w' => Below W0.heap.size W0 w' ∧ Kd.R (Kd.int .u8) 5 w' W0.heap.size (fun k => wr.heap.size ≤ k) (.slice A3 m c3) X) (ds := []) #[false, false, false, false, false, false, false, false, false, false, false, false, false, false] (by kernel_rfl) rfl rfl hS0 (fun hHeld => ?_)
      clear hHeld
      have HS0 := Lib.hid hS0
      have HYB := Lib.hid hYb
      clear hS0 hYb
      generalize w3.drew = wD at *
      refine pure_ (i := 0) (N := some 30) (v := ?_) (a' := ?_) #[true, false, false, false, false, false, false, false, false, false, false, false, false, false] rfl rfl (by kernel_rfl) (fun _ _ _ h => h) (Or.inl ⟨by rfl, ?_⟩) ?_ ?_
      rotate_left
      · intro w'
        go_simp
        with_reducible rfl
      rotate_left
      · simp only [Act.put, List.setIfInBounds_toArray, List.set_cons_zero, List.set_cons_succ, i64_w, i32_w]
        rfl
      refine pure_ (i := 1) (N := some 31) (v := ?_) (a' := ?_) #[true, true, false, false, false, false, false, false, false, false, false, false, false, false] rfl rfl (by kernel_rfl) (fun _ _ _ h => h) (Or.inl ⟨by rfl, ?_⟩) ?_ ?_
      rotate_left
      · intro w'
        go_simp
        with_reducible rfl
      rotate_left
      · simp only [Act.put, List.setIfInBounds_toArray, List.set_cons_zero, List.set_cons_succ, i64_w, i32_w]
        rfl
      refine one_ (i := 2) (N := some 32) #[true, true, true, false, false, false, false, false, false, false, false, false, false, false] rfl rfl (by kernel_rfl) (by decide) (fun K hK => ?_)
      refine goes_ Tryd.func36 (by kernel_rfl) rfl #[.pointer (some ⟨p, 0, none⟩), .slice A3 m c3] (by rfl) rfl rfl (by (try simp only [List.map_toArray, List.map_cons, List.map_nil]); first | done | rfl) ?_
      with_reducible refine (feed_of (l0.take i).flatten X p _ _ A3 c3 m W0 _ HM.out hT HS0.out.1 HP.out HP1.out (Kd.R_F HS0.out.2) (fun k hk => by have := HPL.out; omega) (Kd.R_reads' HS0.out.2).2.1 HBA.out HBX.out (by have h1 := HFL.out; rw [HTI.out, List.length_append] at h1; omega)).mono ?_
      rintro e wn ⟨rfl, hg, hbn, hsn⟩
      refine ⟨_, rfl, ?_⟩
      have hRn := Kd.R_grown HS0.out.2 hg (fun k hk e => by injection e with e; have := HPL.out; omega)
      refine hK _ _ ⟨hbn, hRn⟩ (fun _ => ?_)
      refine norm_ (a' := ?_) ?_ ?_
      rotate_left
      · simp only [Act.put, List.setIfInBounds_toArray, List.set_cons_zero, List.set_cons_succ, i64_w, i32_w]
        rfl
      have HSN := Lib.hid (show Below W0.heap.size W0 wn ∧ Kd.R (Kd.int .u8) 5 wn W0.heap.size (fun k => wr.heap.size ≤ k) (.slice A3 m c3) X from ⟨hbn, hRn⟩)
      have HON := Lib.hid hsn
      have HGN := Lib.hid hg
      obtain ⟨XS, hXS⟩ : ∃ XS, strOfNums X = XS := ⟨_, rfl⟩
      have HXS := Lib.hid hXS
      have hss : (XS.toList != XS.toList) = false := by simp
      have HYRN := Lib.hid (Kd.R_grown HYR1.out hg (fun k hk e => hk.2 (by injection e)))
      have HYCN := Lib.hid (blk_grown HYC1.out hg (fun e => HGG.out (by injection e with e; exact e.symm)))
      have HRI := Lib.hid (Kd.R_grown (Kd.R_mono (ok' := fun k => wr.heap.size ≤ k ∧ k < wD.heap.size) (Kd.R_bound HS0.out.2) (fun k hk => ⟨hk.1, hk.2.2.1⟩)) hg (fun k hk e => by injection e with e; have := HPL.out; omega))
      clear hbn hRn hsn hg hXS HYR1 HYC1
      refine pure_ (i := 3) (N := some 33) (v := ?_) (a' := ?_) #[true, true, true, true, false, false, false, false, false, false, false, false, false, false] rfl rfl (by kernel_rfl) (fun _ _ _ h => h) (Or.inl ⟨by rfl, ?_⟩) ?_ ?_
      rotate_left
      · intro w'
        go_simp
        with_reducible rfl
      rotate_left
      · simp only [Act.put, List.setIfInBounds_toArray, List.set_cons_zero, List.set_cons_succ, i64_w, i32_w]
        rfl
      refine pure_ (i := 4) (N := some 34) (v := ?_) (a' := ?_) #[true, true, true, true, true, false, false, false, false, false, false, false, false, false] rfl rfl (by kernel_rfl) (fun _ _ _ h => h) (Or.inl ⟨by rfl, ?_⟩) ?_ ?_
      rotate_left
      · intro w'
        go_simp
        with_reducible rfl
      rotate_left
      · simp only [Act.put, List.setIfInBounds_toArray, List.set_cons_zero, List.set_cons_succ, i64_w, i32_w]
        rfl
      refine pure_ (i := 5) (N := some 35) (v := ?_) (a' := ?_) #[true, true, true, true, true, true, false, false, false, false, false, false, false, false] rfl rfl (by kernel_rfl) (fun _ _ _ h => h) (Or.inl ⟨by rfl, ?_⟩) ?_ ?_
      rotate_left
      · intro w'
        go_simp
        with_reducible rfl
      rotate_left
      · simp only [Act.put, List.setIfInBounds_toArray, List.set_cons_zero, List.set_cons_succ, i64_w, i32_w]
        rfl
      refine take_ (i := 6) (N := some 36) (v := ?_) (a' := ?_) #[true, true, true, true, true, true, true, false, false, false, false, false, false, false] rfl rfl (by kernel_rfl) (fun _ _ _ h => h) (Or.inl ⟨by rfl, ?_⟩) HSN.out ?_ ?_
      rotate_left
      · intro w' s0
        have x0 : Sem.run Tryd.prog (convert 23 9 (.slice A3 m c3)) w' = Result.ok (Value.string XS) w' := HXS.out ▸ own_string (P := Tryd.prog) Tryd.underlying23 Tryd.underlying5 Tryd.underlying9 (Kd.own_of_R s0.2)
        go_simp
        with_reducible rfl
      rotate_left
      · simp only [Act.put, List.setIfInBounds_toArray, List.set_cons_zero, List.set_cons_succ, i64_w, i32_w]
        rfl
      refine pure_ (i := 7) (N := some 37) (v := ?_) (a' := ?_) #[true, true, true, true, true, true, true, true, false, false, false, false, false, false] rfl rfl (by kernel_rfl) (fun _ _ _ h => h) (Or.inl ⟨by rfl, ?_⟩) ?_ ?_
      rotate_left
      · intro w'
        go_simp
        with_reducible rfl
      rotate_left
      · simp only [Act.put, List.setIfInBounds_toArray, List.set_cons_zero, List.set_cons_succ, i64_w, i32_w]
        rfl
      refine pure_ (i := 8) (N := some 38) (v := ?_) (a' := ?_) #[true, true, true, true, true, true, true, true, true, false, false, false, false, false] rfl rfl (by kernel_rfl) (fun _ _ _ h => h) (Or.inl ⟨by rfl, ?_⟩) ?_ ?_
      rotate_left
      · intro w'
        go_simp
        with_reducible rfl
      rotate_left
      · simp only [Act.put, List.setIfInBounds_toArray, List.set_cons_zero, List.set_cons_succ, i64_w, i32_w]
        rfl
      refine pure_ (i := 9) (N := some 39) (v := ?_) (a' := ?_) #[true, true, true, true, true, true, true, true, true, true, false, false, false, false] rfl rfl (by kernel_rfl) (fun _ _ _ h => h) (Or.inl ⟨by rfl, ?_⟩) ?_ ?_
      rotate_left
      · intro w'
        go_simp
        with_reducible rfl
      rotate_left
      · simp only [Act.put, List.setIfInBounds_toArray, List.set_cons_zero, List.set_cons_succ, i64_w, i32_w]
        rfl
      refine take_ (i := 10) (N := some 40) (v := ?_) (a' := ?_) #[true, true, true, true, true, true, true, true, true, true, true, false, false, false] rfl rfl (by kernel_rfl) (fun _ _ _ h => h) (Or.inl ⟨by rfl, ?_⟩) HSN.out ?_ ?_
      rotate_left
      · intro w' s0
        have x0 := HCL.out w' s0.1
        go_simp
        with_reducible rfl
      rotate_left
      · simp only [Act.put, List.setIfInBounds_toArray, List.set_cons_zero, List.set_cons_succ, i64_w, i32_w]
        rfl
      refine take_ (i := 11) (N := some 41) (v := ?_) (a' := ?_) #[true, true, true, true, true, true, true, true, true, true, true, true, false, false] rfl rfl (by kernel_rfl) (fun _ _ _ h => h) (Or.inl ⟨by rfl, ?_⟩) HSN.out ?_ ?_
      rotate_left
      · intro w' s0
        have x0 : Sem.run Tryd.prog (convert 23 9 (.slice A1 m c1)) w' = Result.ok (Value.string XS) w' := HXS.out ▸ Kd.C_string (P := Tryd.prog) Tryd.underlying23 Tryd.underlying5 Tryd.underlying9 (HCX.out w' s0.1)
        go_simp
        with_reducible rfl
      rotate_left
      · simp only [Act.put, List.setIfInBounds_toArray, List.set_cons_zero, List.set_cons_succ, i64_w, i32_w]
        rfl
      refine pure_ (i := 12) (N := some 42) (v := ?_) (a' := ?_) #[true, true, true, true, true, true, true, true, true, true, true, true, true, false] rfl rfl (by kernel_rfl) (fun _ _ _ h => h) (Or.inl ⟨by rfl, ?_⟩) ?_ ?_
      rotate_left
      · intro w'
        go_simp
        with_reducible rfl
      rotate_left
      · simp only [Act.put, List.setIfInBounds_toArray, List.set_cons_zero, List.set_cons_succ, i64_w, i32_w]
        rfl
      refine pure_ (i := 13) (N := some 43) (v := ?_) (a' := ?_) #[true, true, true, true, true, true, true, true, true, true, true, true, true, true] rfl rfl (by kernel_rfl) (fun _ _ _ h => h) (Or.inl ⟨by rfl, ?_⟩) ?_ ?_
      rotate_left
      · intro w'
        go_simp
        with_reducible rfl
      rotate_left
      · simp only [Act.put, List.setIfInBounds_toArray, List.set_cons_zero, List.set_cons_succ, i64_w, i32_w]
        rfl
      refine done_ (by kernel_rfl) ?_
      go_wp2
      clear HS0 HB3 HO3 HGN
      generalize hN0 : wr.heap.size = N0 at *
      clear hN0
      go_loopg [7] (m + 1) (fun gk2 v7 wx => ∃ j : Nat, j + gk2 = m + 1 ∧ j ≤ m ∧ v7 = .int .i64 (j : Int) ∧ Aside0 (Below W0.heap.size W0 wx) ∧ Aside0 (OfAt wx p ((l0.take i).flatten ++ X) (fun k => k < N0 ∨ wD.heap.size ≤ k)) ∧ Aside0 (wx.heap[y]? = some (.cells #[.int .i64 ((l0.take i).flatten.length : Int), .int .i64 (ofBad (l0.take i).flatten), .slice Ay Ly cy] 52 (0, 0))) ∧ Aside0 (Kd.R (Kd.int .u8) 5 wx 0 (fun k => k < N0 ∧ k ≠ p) (.slice Ay Ly cy) (ofPend (l0.take i).flatten)) ∧ Aside0 (∃ l' : List Int, l'.length = m ∧ Kd.R (Kd.int .u8) 5 wx W0.heap.size (fun k => N0 ≤ k ∧ k < wD.heap.size) (.slice A3 m c3) l'))
      case atStart => exact ⟨0, by omega, by omega, rfl, ⟨HSN.out.1⟩, ⟨HON.out⟩, ⟨HYCN.out⟩, ⟨HYRN.out⟩, ⟨X, HM.out, HRI.out⟩⟩
      case round =>
        clear HSN HON HYCN HYRN HRI
        obtain ⟨j, hjk, hjn, rfl, HBj, HSj, HYj, HRj, HIj⟩ := hrel
        by_cases hjt : j < m
        · have hjz : (j : Int) < (m : Int) := by omega
          obtain ⟨g2, rfl⟩ : ∃ g2, gk = g2 + 1 := ⟨gk - 1, by omega⟩
          obtain ⟨l', hl', hR⟩ := HIj.out
          obtain ⟨g, rfl⟩ := own_addr hR (by omega)
          obtain ⟨hcl, hfz⟩ := Kd.R_cell (0 : Int) (by rw [hl']; exact hR) (j : Int) (by omega) (by omega)
          have h0j : (0 : Int) ≤ (j : Int) := by omega
          obtain ⟨z, hz⟩ : ∃ z, rdOf 0 l' (j : Int) = z := ⟨_, rfl⟩
          rw [hz] at hcl
          rw [Int.toNat_natCast] at hcl hfz
          have HRR := Lib.hid hR
          have HLE := Lib.hid hl'
          clear hR hl' hz HIj
          have hmm9 := HMM.out
          go_wp2
          have hput := Kd.R_putg (h1 := fun _ => rfl) HRR.out (j : Int) ((z + 1) % 256)
          rw [Int.toNat_natCast] at hput
          have hgok : N0 ≤ g ∧ g < wD.heap.size := HRR.out.1 g (by simp [Value.ownBlock])
          have hgw : ∀ k, some g = some k → W0.heap.size ≤ k := fun k hk => Kd.R_base HRR.out k (by simpa [Value.ownBlock] using hk)
          have hB6 := pw_below_grown HBj.out (some g) HBj.out.size hput.2 hgw
          have hy6 := blk_grown HYj.out hput.2 (fun e => by injection e with e; have := HYL.out; omega)
          have hr6 := Kd.R_grown HRj.out hput.2 (fun k hk e => by injection e with e; omega)
          have hs6 : OfAt _ p ((l0.take i).flatten ++ X) (fun k => k < N0 ∨ wD.heap.size ≤ k) := ScanAt.step HSj.out (hput.2.block p HSj.out.lt (fun e => by injection e with e; have := HPL.out; omega)) (fun k hk _ hlt => hput.2.block k hlt (fun e => by injection e with e; omega))
          go_roundg g2
          case measure => omega
          case rel => exact ⟨j + 1, by omega, by omega, by go_num, ⟨hB6⟩, ⟨hs6⟩, ⟨hy6⟩, ⟨hr6⟩, ⟨l'.set j ((z + 1) % 256), by rw [List.length_set, HLE.out], hput.1⟩⟩
        · have hjz : ¬ ((j : Int) < (m : Int)) := by omega
          clear HIj hjt hjk hjn
          go_wp2
          clear hin hltz
          generalize ha : (l0.take i).flatten = a at *
          clear ha
          have hS14 : Below W0.heap.size W0 wr.drew ∧ wr.drew.heap[y]? = some (.cells #[.int .i64 (a.length : Int), .int .i64 (ofBad a), .slice Ay Ly cy] 52 (0, 0)) := ⟨below_drew1 HBj.out, blk_drew HYj.out⟩
          have hr14 := Kd.R_drew HRj.out
          have hs14 : OfAt wr.drew p (a ++ X) (fun k => k < N0 ∨ wD.heap.size ≤ k) := HSj.out.below (below_drew1 (Below.refl _ _))
          clear HBj HSj HYj HRj
          refine start_ (n := 10) (S := fun w' => Below W0.heap.size W0 w' ∧ w'.heap[y]? = some (.cells #[.int .i64 (a.length : Int), .int .i64 (ofBad a), .slice Ay Ly cy] 52 (0, 0))) (ds := [9]) #[false, false, false, false, false, false, false, false, false, false] (by kernel_rfl) rfl rfl hS14 (fun hHeld => ?_)
          clear hHeld
          have HS4 := Lib.hid hS14
          have HR4 := Lib.hid hr14
          have HF4 := Lib.hid hs14
          clear hS14 hr14 hs14
          generalize wr.drew = wE at *
          refine take_ (i := 0) (N := some 57) (v := ?_) (a' := ?_) #[true, false, false, false, false, false, false, false, false, false] rfl rfl (by kernel_rfl) (fun _ _ _ h => h) (Or.inl ⟨by rfl, ?_⟩) HS4.out ?_ ?_
          rotate_left
          · intro w' s0
            have x0 := (blk_cell s0.2 0).trans rfl
            have x1 := (blk_cell s0.2 1).trans rfl
            have x2 := (blk_cell s0.2 2).trans rfl
            go_simp
            with_reducible rfl
          rotate_left
          · simp only [Act.put, List.setIfInBounds_toArray, List.set_cons_zero, List.set_cons_succ, i64_w, i32_w]
            rfl
          refine pure_ (i := 1) (N := some 58) (v := ?_) (a' := ?_) #[true, true, false, false, false, false, false, false, false, false] rfl rfl (by kernel_rfl) (fun _ _ _ h => h) (Or.inl ⟨by rfl, ?_⟩) ?_ ?_
          rotate_left
          · intro w'
            go_simp
            with_reducible rfl
          rotate_left
          · simp only [Act.put, List.setIfInBounds_toArray, List.set_cons_zero, List.set_cons_succ, i64_w, i32_w]
            rfl
          refine pure_ (i := 2) (N := some 59) (v := ?_) (a' := ?_) #[true, true, true, false, false, false, false, false, false, false] rfl rfl (by kernel_rfl) (fun _ _ _ h => h) (Or.inl ⟨by rfl, ?_⟩) ?_ ?_
          rotate_left
          · intro w'
            go_simp
            with_reducible rfl
          rotate_left
          · simp only [Act.put, List.setIfInBounds_toArray, List.set_cons_zero, List.set_cons_succ, i64_w, i32_w]
            rfl
          refine pure_ (i := 3) (N := some 60) (v := ?_) (a' := ?_) #[true, true, true, true, false, false, false, false, false, false] rfl rfl (by kernel_rfl) (fun _ _ _ h => h) (Or.inl ⟨by rfl, ?_⟩) ?_ ?_
          rotate_left
          · intro w'
            go_simp
            with_reducible rfl
          rotate_left
          · simp only [Act.put, List.setIfInBounds_toArray, List.set_cons_zero, List.set_cons_succ, i64_w, i32_w]
            rfl
          refine take_ (i := 4) (N := some 61) (v := ?_) (a' := ?_) #[true, true, true, true, true, false, false, false, false, false] rfl rfl (by kernel_rfl) (fun _ _ _ h => h) (Or.inl ⟨by rfl, ?_⟩) HS4.out ?_ ?_
          rotate_left
          · intro w' s0
            have x0 := HCL.out w' s0.1
            go_simp
            with_reducible rfl
          rotate_left
          · simp only [Act.put, List.setIfInBounds_toArray, List.set_cons_zero, List.set_cons_succ, i64_w, i32_w]
            rfl
          refine one_ (i := 5) (N := some 62) #[true, true, true, true, true, true, false, false, false, false] rfl rfl (by kernel_rfl) (by decide) (fun K hK => ?_)
          refine goes_ Tryd.func37 (by kernel_rfl) rfl #[.agg #[.int .i64 (a.length : Int), .int .i64 (ofBad a), .slice Ay Ly cy], .slice A1 m c1] (by rfl) rfl rfl (by (try simp only [List.map_toArray, List.map_cons, List.map_nil]); first | done | rfl) ?_
          have hSlen : (a ++ X).length ≤ 1048576 := by have h1 := HFL.out; rw [HTI.out] at h1; exact h1
          obtain ⟨S, hS⟩ : ∃ S, (a ++ X).length = S := ⟨_, rfl⟩
          obtain ⟨B, hB⟩ : ∃ B, ofBad (a ++ X) = B := ⟨_, rfl⟩
          obtain ⟨L, hL⟩ : ∃ L, (ofPend (a ++ X)).length = L := ⟨_, rfl⟩
          with_reducible refine (next_of a X Ly Ay cy A1 m c1 wE HBA.out HBX.out HLY.out HM.out (by rw [List.length_append, HM.out] at hSlen; omega) (HLY.out ▸ (Kd.R_reads' HR4.out).2.2) (HCX.out _ HS4.out.1) S L B hS hB hL).mono ?_
          rintro e wm ⟨A5, c5, rfl, hf⟩
          refine ⟨_, rfl, ?_⟩
          have hbm := below_step HS4.out.1 hf.2
          have hym := blk_below HS4.out.2 hf.2
          refine hK _ _ ⟨hbm, hym⟩ (fun _ => ?_)
          refine norm_ (a' := ?_) ?_ ?_
          rotate_left
          · simp only [Act.put, List.setIfInBounds_toArray, List.set_cons_zero, List.set_cons_succ, i64_w, i32_w]
            rfl
          have HFM := Lib.hid hf.1
          have HSM := Lib.hid (HF4.out.below hf.2)
          have HBM := Lib.hid hbm
          have HYM := Lib.hid hym
          have HEM := Lib.hid (show wE.heap.size ≤ wm.heap.size from hf.2.size)
          have HSL := Lib.hid hSlen
          have HSS := Lib.hid hS
          have HSB := Lib.hid hB
          have HSP := Lib.hid hL
          clear hbm hym hf hSlen hS hB hL
          refine pure_ (i := 6) (N := some 56) (v := ?_) (a' := ?_) #[true, true, true, true, true, true, true, false, false, false] rfl rfl (by kernel_rfl) (fun _ _ _ h => h) (Or.inl ⟨by rfl, ?_⟩) ?_ ?_
          rotate_left
          · intro w'
            go_simp
            with_reducible rfl
          rotate_left
          · simp only [Act.put, List.setIfInBounds_toArray, List.set_cons_zero, List.set_cons_succ, i64_w, i32_w]
            rfl
          refine pure_ (i := 7) (N := some 63) (v := ?_) (a' := ?_) #[true, true, true, true, true, true, true, true, false, false] rfl rfl (by kernel_rfl) (fun _ _ _ h => h) (Or.inl ⟨by rfl, ?_⟩) ?_ ?_
          rotate_left
          · intro w'
            go_simp
            with_reducible rfl
          rotate_left
          · simp only [Act.put, List.setIfInBounds_toArray, List.set_cons_zero, List.set_cons_succ, i64_w, i32_w]
            rfl
          refine pure_ (i := 8) (N := some 64) (v := ?_) (a' := ?_) #[true, true, true, true, true, true, true, true, true, false] rfl rfl (by kernel_rfl) (fun _ _ _ h => h) (Or.inl ⟨by rfl, ?_⟩) ?_ ?_
          rotate_left
          · intro w'
            go_simp
            with_reducible rfl
          rotate_left
          · simp only [Act.put, List.setIfInBounds_toArray, List.set_cons_zero, List.set_cons_succ, i64_w, i32_w]
            rfl
          refine last_ (i := 9) (N := none) #[true, true, true, true, true, true, true, true, true, true] rfl rfl (by kernel_rfl) (by decide) (fun K hK => ?_)
          rw [if_pos (by rfl)]
          unfold Oper.wp
          have k0 := (blk_cell HYM.out 0).trans rfl
          have k1 := (blk_cell HYM.out 1).trans rfl
          have k2 := (blk_cell HYM.out 2).trans rfl
          have f0 := blk_frozen HYM.out 0
          have f1 := blk_frozen HYM.out 1
          have f2 := blk_frozen HYM.out 2
          go_simp
          refine hK _ _ ?_
          refine done_ (by kernel_rfl) ?_
          have hset := y_set HYM.out HBM.out HYY.out HSM.out HGG.out HFM.out (S : Int) B
          generalize ((wm.setCell ⟨y, 0, none⟩ (.int .i64 S)).setCell ⟨y, 1, none⟩ (.int .i64 B)).setCell ⟨y, 2, none⟩ (.slice A5 L c5) = wf at hset ⊢
          clear HBM HYM HSM HFM HEM k0 k1 k2 f0 f1 f2 HS4 HR4 HF4
          have HSET := Lib.hid hset
          obtain ⟨hb5, hs5, hy5, hr5⟩ := hset
          have k0 := (blk_cell hy5 0).trans rfl
          have k1 := (blk_cell hy5 1).trans rfl
          have k2 := (blk_cell hy5 2).trans rfl
          clear hb5 hs5 hy5 hr5
          have hbx : Bytes (a ++ X) := fun z hz => (List.mem_append.1 hz).elim (HBA.out z) (HBX.out z)
          have HBXX := Lib.hid hbx
          clear hbx
          go_wp2_with (first
            | (go_at_call 35; ((with_reducible refine (same_of p (a ++ X) L _ A5 c5 _ HBXX.out (by have := HSL.out; omega) HSP.out HSET.out.2.1 (HSP.out ▸ (Kd.R_reads' HSET.out.2.2.2).2.2) (Kd.R_reads' HSET.out.2.2.2).2.1 S B (by rw [HSS.out]) HSB.out).mono ?_); rintro e w9 ⟨rfl, hb9⟩; have HB9 := Lib.hid hb9; clear hb9)))
          go_roundg g'
          case measure => omega
          case rel =>
            have hb9 := HB9.out
            obtain ⟨hb5, hs5, hy5, hr5⟩ := HSET.out
            refine ⟨i + 1, by omega, by omega, by go_num, ⟨below_step hb5 hb9⟩, ⟨?_⟩, ⟨A5, L, c5, ?_, ?_, ?_⟩⟩
            · rw [HTI.out]; exact (hs5.below hb9).mono (fun _ _ => trivial)
            · rw [HTI.out]; exact HSP.out
            · rw [HTI.out, HSS.out, HSB.out]; exact blk_below hy5 hb9
            · rw [HTI.out]; exact Kd.R_below hr5 hb9
    · have hltz : ¬ ((i : Int) < (n0 : Int)) := by omega
      clear HS HY hik hin
      go_wp2_with (first
        | (go_at_call 33; ((with_reducible refine (scan_awake_any _ (hT.below HB.out)).mono ?_); rintro e w9 ⟨rfl, hb9⟩; have HB9 := Lib.hid (below_step HB.out hb9); clear hb9)))
      go_ret
      exact ⟨rfl, HB9.out⟩
def gessolaw02_ScanFeeds.f (l0 : List (List Int)) : Option Bool := if (∀ x ∈ l0, allb x = true) ∧ l0.flatten.length ≤ 1048576 ∧ l0.length ≤ 1048576 then some true else none
theorem gessolaw02_ScanFeeds.calls (A0 : Option Addr) (c0 : Nat) (l0 : List (List Int)) (r : Bool) (w : World) (HTb_ : Aside0 (Tabs w)) (hr0 : Kd.C (Kd.slice 5 (Kd.int .u8)) w A0 l0.length l0) (hc0 : l0.length ≤ c0) (h : gessolaw02_ScanFeeds.f l0 = some r) :
    Calls Tryd.prog 11 #[.slice A0 l0.length c0] w fun e w' => e = .returned (.bool r) ∧ Below w.heap.size w w' := by
  unfold gessolaw02_ScanFeeds.f at h
  split at h
  · rename_i hh
    obtain rfl := Option.some.inj h
    exact feeds_any A0 l0.length c0 l0 w HTb_.out rfl hr0 hc0 (fun x hx => bytes_allb (hh.1 x hx)) hh.2.1 hh.2.2
  · cases h
end Go.Proofs.YtjlhehaagaaihaaDoor.P
