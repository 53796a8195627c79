/- The law WalkSorts: its call comes to true. No condition. -/
import Derived.Test.YtomhpfgibekmfaaWq
namespace Go.Proofs.Ytomhpfgibekmfaa.P
open Go.RowKit Go.Lib Go.Proofs.YtomhpfgibekmfaaW.PrintWords Go.Proofs.YtomhpfgibekmfaaW.PrintLast Go.Proofs.YtomhpfgibekmfaaW.PrintMore Go.Proofs.Ytomhpfgibekmfaa.Pure
set_option linter.unusedVariables false
set_option linter.unusedSimpArgs false
attribute [local go_sem] List.getElem?_cons_zero List.getElem?_cons_succ
/-- Names are written over, in rows of ok; all else stays, and all rows keep their lengths. -/
structure Scr (ok : Nat → Prop) (w w' : World) : Prop where
  os : w'.os = w.os
  tape : w'.tape = w.tape
  output : w'.output = w.output
  size : w.heap.size ≤ w'.heap.size
  far : ∀ k : Nat, ¬ ok k → w'.heap[k]? = w.heap[k]?
  near : ∀ (k : Nat) (cs : Array Value) (t : TypeId), w.heap[k]? = some (.cells cs t (0, 0)) → ∃ cs', w'.heap[k]? = some (.cells cs' t (0, 0)) ∧ cs'.size = cs.size
theorem Scr.refl (ok : Nat → Prop) (w : World) : Scr ok w w := ⟨rfl, rfl, rfl, Nat.le_refl _, fun _ _ => rfl, fun k cs t h => ⟨cs, h, rfl⟩⟩
theorem Scr.set {ok : Nat → Prop} {w w' : World} (h : Scr ok w w') {b o : Nat} (hb : ok b) (hc : ∃ cs t, w'.heap[b]? = some (.cells cs t (0, 0))) (u : Value) : Scr ok w (w'.setCell ⟨b, o, none⟩ u) := by
  obtain ⟨cs0, t0, h0⟩ := hc
  have hs := blk_set h0 o u
  have hB : Below 0 w' (w'.setCell ⟨b, o, none⟩ u) := (Below.refl 0 w').setCell (p := ⟨b, o, none⟩) (Nat.zero_le _) u
  refine ⟨hB.os.trans h.os, hB.tape.trans h.tape, hB.output.trans h.output, Nat.le_trans h.size hB.size, fun k hk => ?_, fun k cs t hk => ?_⟩
  · exact (Below.heap_setCell w' ⟨b, o, none⟩ u k (fun e => hk (e ▸ hb))).trans (h.far k hk)
  · obtain ⟨cs', h1, h2⟩ := h.near k cs t hk
    by_cases hkb : k = b
    · subst hkb
      rw [h1] at h0
      injection h0 with h0
      injection h0 with e1 e2 e3
      subst e1 e2
      exact ⟨_, hs, by rw [← h2]; simp⟩
    · exact ⟨cs', (Below.heap_setCell w' ⟨b, o, none⟩ u k hkb).trans h1, h2⟩
theorem Scr.below {ok : Nat → Prop} {w0 w w' : World} (h : Scr ok w w') (hb : Below w0.heap.size w0 w) (ho : ∀ k, ok k → w0.heap.size ≤ k) : Below w0.heap.size w0 w' :=
  ⟨h.os.trans hb.os, h.tape.trans hb.tape, h.output.trans hb.output, Nat.le_trans hb.size h.size, fun k hk => (h.far k (fun e => by have := ho k e; omega)).trans (hb.block k hk)⟩
/-- A name's place, where it was and where it is. -/
theorem Scr.cell {ok : Nat → Prop} {w w' : World} (h : Scr ok w w') {ad : Addr} {v : Value} (hc : w.cell? ad = some v) (hz : ∃ cs t, w.heap[ad.block]? = some (.cells cs t (0, 0))) :
    ∃ o v', ad = ⟨ad.block, o, none⟩ ∧ w'.cell? ⟨ad.block, o, none⟩ = some v' ∧ w'.frozen? ⟨ad.block, o, none⟩ = false ∧ ∃ cs t, w'.heap[ad.block]? = some (.cells cs t (0, 0)) := by
  obtain ⟨cs, t, h1⟩ := hz
  obtain ⟨cs', h2, h3⟩ := h.near _ cs t h1
  have hsp : ad.spot = none := by
    unfold World.cell? at hc
    split at hc
    · split at hc
      · cases hc
      · rename_i h3
        simpa using h3
    · cases hc
  obtain ⟨b, o, sp⟩ := ad
  simp only at hsp h1 h2 hc ⊢
  subst hsp
  rw [blk_cell h1] at hc
  have ho : o < cs.size := by
    have := (Array.getElem?_eq_some_iff.1 hc).1
    exact this
  exact ⟨o, cs'[o]'(by omega), rfl, by rw [blk_cell h2]; exact Array.getElem?_eq_getElem _, blk_frozen h2 o, cs', t, h2⟩
theorem sorts_far (deep : Bool) (l : List Pth) (A0 : Option Addr) (n0 c0 : Nat) (w : World) (hn : l.length = n0) (hC : Kd.C KP w A0 n0 l) (hc : n0 ≤ c0) (hL : lightB l = false) :
    Calls Try.prog 5 #[.slice A0 n0 c0, .bool deep] w fun e w' => e = .returned (.bool true) ∧ Below w.heap.size w w' := by
  have HL := Lib.hid hL
  have HC := Lib.hid hC
  have HN := Lib.hid hn
  clear hL hC hn
  go_enter Try.func5, Try.ntmps5
  go_wp2_with (first
    | (go_at_call 15; ((with_reducible refine (light_call l A0 n0 c0 false _ HL.out HN.out HC.out hc).mono ?_); rintro e w1 ⟨rfl, hd⟩; have HD := Lib.hid hd; clear hd))
    | (go_at_call 8; ((with_reducible refine (awake_call' _).mono ?_); rintro e w2 ⟨rfl, hb⟩; have HB := Lib.hid hb; clear hb)))
  go_ret
  exact ⟨rfl, below_step HD.out HB.out⟩
theorem rsort_call (l : List Pth) (A0 : Option Addr) (n0 c0 : Nat) (deep : Bool) (w : World) (hn : l.length = n0) (hC : Kd.C KP w A0 n0 l) (hc : n0 ≤ c0) (hb : n0 ≤ 1048576) (hl : ∀ x ∈ l, x.length ≤ 1099511627776) :
    Calls Try.prog 24 #[.slice A0 n0 c0, .bool deep] w fun e w' => ∃ A c, e = .returned (.slice A n0 c) ∧ Kd.N KP 22 w' w.heap.size (fun k => w.heap.size ≤ k) (.slice A n0 c) (srt deep [] l) ∧ Below w.heap.size w w' := by
  subst hn
  obtain ⟨k, h⟩ := (rsort_ev deep l hb hl).rounds
  refine (gessoref15_Sorted.calls k A0 c0 l deep _ w hC hc h).mono fun e w' q => ?_
  obtain ⟨v, rfl, h1, h2⟩ := q
  obtain ⟨A, c, rfl⟩ := Kd.N_slice h1
  rw [show (srt deep [] l).length = l.length by rw [srt_length]; simp] at h1 ⊢
  exact ⟨A, c, rfl, h1, h2⟩
theorem sames_call' (x y : List Pth) (A0 : Option Addr) (n0 c0 : Nat) (A1 : Option Addr) (n1 c1 : Nat) (w : World) (hr : x = y) (hx : x.length = n0) (hy : y.length = n1) (hl : n0 ≤ 1099511627776) (hl2 : ∀ p ∈ x, p.length ≤ 1099511627776) (hr0 : Kd.C KP w A0 n0 x) (hc0 : n0 ≤ c0) (hr1 : Kd.C KP w A1 n1 y) (hc1 : n1 ≤ c1) :
    Calls Try.prog 25 #[.slice A0 n0 c0, .slice A1 n1 c1] w fun e w' => e = .returned (.bool true) ∧ Drawn0 w w' := by
  subst hx
  subst hy
  subst hr
  obtain ⟨k, h⟩ := (sames_ev x x hl hl2).rounds
  rw [decide_eq_true rfl] at h
  exact gessoref15_Same.calls k A0 c0 x A1 c1 x _ w hr0 hc0 hr1 hc1 h
theorem getD_row (S : List Pth) (j : Nat) (h : j < S.length) : S.getD j [] = S[j] := by simp [h]
set_option maxHeartbeats 4000000 in
set_option maxRecDepth 100000 in
theorem sorts_any (deep : Bool) (l : List Pth) (A0 : Option Addr) (n0 c0 : Nat) (w : World) (hn : l.length = n0) (hC : Kd.C KP w A0 n0 l) (hc : n0 ≤ c0) (hL : lightB l = true) :
    Calls Try.prog 5 #[.slice A0 n0 c0, .bool deep] w fun e w' => e = .returned (.bool true) ∧ Below w.heap.size w w' := by
  have hlo := light_of hL
  have h200 : n0 ≤ 200 := hn ▸ hlo.1
  have HL := Lib.hid hL
  have HLT := Lib.hid hlo.2
  have HLB := Lib.hid (show ∀ x ∈ l, x.length ≤ 1099511627776 from fun x hx => Nat.le_trans (hlo.2 x hx) (by decide))
  have HR := Lib.hid hC
  have HN := Lib.hid hn
  have hsl : (srt deep [] l).length = n0 := by rw [srt_length, hn]; simp
  have hsb : ∀ x ∈ srt deep [] l, x.length ≤ 1099511627776 := fun x hx => Nat.le_trans (hlo.2 x (by have := (srt_perm deep l []).mem_iff.1 hx; simpa using this)) (by decide)
  have HSL := Lib.hid hsl
  have HSB := Lib.hid hsb
  clear hL hC hn hlo hsl hsb
  go_enter Try.func5, Try.ntmps5
  go_wp2_with (first
    | (go_at_call 15; ((with_reducible refine (light_call l A0 n0 c0 true _ HL.out HN.out HR.out hc).mono ?_); rintro e w1 ⟨rfl, hd⟩; have HD := Lib.hid hd; clear hd))
    | (go_at_call 23; ((with_reducible refine (sorted_any A0 n0 c0 l deep _ HN.out (Kd.C_below HR.out HD.out) hc (by omega) HLB.out).mono ?_); rintro e w2 ⟨Aa, ca, oka, rfl, q1, q2, q3⟩; have HNA := Lib.hid q1; have HOA := Lib.hid q2; have HB2 := Lib.hid q3; clear q1 q2 q3))
    | (go_at_call 24; ((with_reducible refine (rsort_call l A0 n0 c0 deep _ HN.out (Kd.C_below HR.out (below_step HD.out HB2.out)) hc (by omega) HLB.out).mono ?_); rintro e w3 ⟨Ab, cb, rfl, q1, q2⟩; have HNB := Lib.hid q1; have HB3 := Lib.hid q2; clear q1 q2))
    | (go_at_call 25; ((with_reducible refine (sames_call' (srt deep [] l) (srt deep [] l) Aa n0 ca Ab n0 cb _ rfl HSL.out HSL.out (by omega) HSB.out (by have h9 := Kd.N_reads' (Kd.N_below HNA.out HB3.out); rw [← h9.1] at h9; exact h9.2.2) (Kd.N_reads' HNA.out).2.1 (by have h9 := Kd.N_reads' HNB.out; rw [← h9.1] at h9; exact h9.2.2) (Kd.N_reads' HNB.out).2.1).mono ?_); rintro e w4 ⟨rfl, hd⟩; have HD4 := Lib.hid hd; clear hd)))
  have hb4 : Below w.heap.size w w4 := below_step (below_step (below_step HD.out HB2.out) HB3.out) HD4.out.below
  have hb24 : Below w2.heap.size w2 w4 := below_step HB3.out HD4.out.below
  have HNA4 := Lib.hid (Kd.N_below HNA.out hb24)
  have HOA4 := Lib.hid (show ∀ k, oka k → Own w4 w.heap.size k ∧ k < w4.heap.size from fun k hk => by
    obtain ⟨q1, cs, t, q2, q3⟩ := (HOA.out k hk).below hb24
    exact ⟨⟨Nat.le_trans HD.out.size q1, cs, t, q2, q3⟩, blk_lt q2⟩)
  have HB4 := Lib.hid hb4
  clear hb4 hb24 HNA HOA HNB HB2 HB3 HD4
  go_loopg [8, 9] (n0 + 1) (fun gk v8 v9 wx => ∃ (i : Nat) (Ai : Option Addr) (ci : Nat), i + gk = n0 + 1 ∧ i ≤ n0 ∧ v9 = .int .i64 (i : Int) ∧ v8 = .slice Ai i ci ∧ Aside0 (Below w4.heap.size w4 wx) ∧ Aside0 (Kd.N KP 22 wx w4.heap.size (fun k => w4.heap.size ≤ k) (.slice Ai i ci) (l.take i)))
  case atStart => exact ⟨0, none, 0, by omega, by omega, rfl, rfl, ⟨Below.refl _ _⟩, ⟨Kd.N_nil _ _ _ _ _⟩⟩
  case round =>
    obtain ⟨i, Ai, ci, h1, h2, rfl, rfl, h3, h4⟩ := hrel
    by_cases hlt : i < n0
    · obtain ⟨g', rfl⟩ : ∃ g', gk = g' + 1 := ⟨gk - 1, by omega⟩
      have hltz : (i : Int) < (n0 : Int) := by omega
      have h0z : (0 : Int) ≤ (i : Int) := by omega
      have hi9 : (i : Int) ≤ 1048576 := by omega
      obtain ⟨ad, A1, c1, rfl, x1, y1, z1⟩ := at_L1 (Kd.C_below HR.out (below_step HB4.out h3.out)) (i : Int) h0z hltz
      rw [Int.toNat_natCast] at x1
      obtain ⟨X, hX⟩ : ∃ X, rd_L1 l (i : Int) = X := ⟨_, rfl⟩
      have hX2 : X = l[i]'(by rw [HN.out]; exact hlt) := by rw [← hX]; simp [rd_L1, HN.out, hlt]
      rw [hX] at x1 y1 z1
      obtain ⟨n1, hn1⟩ : ∃ n1, X.length = n1 := ⟨_, rfl⟩
      rw [hn1] at x1 y1 z1
      have hXl : n1 ≤ 1099511627776 := by
        rw [← hn1, hX2]
        exact Nat.le_trans (HLT.out _ (List.getElem_mem _)) (by decide)
      have htake : l.take (i + 1) = l.take i ++ [X] := by rw [hX2]; exact List.take_succ_eq_append_getElem (by rw [HN.out]; exact hlt)
      have HX1 := Lib.hid hn1
      have HY1 := Lib.hid y1
      have HZ1 := Lib.hid z1
      have HXL := Lib.hid hXl
      have HT := Lib.hid htake
      have HTL := Lib.hid (show (l.take i).length = i by rw [List.length_take, HN.out, Nat.min_eq_left (by omega)])
      clear htake hX hX2 hn1 y1 z1 hXl
      go_wp2_with (first
        | ((with_reducible refine gate_dst (N := 35) rfl ?_); refine Kd.R_lit Kd.string (w0 := wr) wr.heap.size 9 ?hg (N := 35) ?hd (xs := ([] : List ByteArray)) (inner := []) (ok := fun _ => True) (okp := fun _ => True) ?hr ?hp (fun _ hk => hk) trivial (Below.refl _ _) (Nat.le_refl _) (by simp) ?_; (case hd => rfl); (case hg => rfl); (case hr => first | (go_simp; done) | (go_simp; rfl)); (case hp => exact (Reps.none _ _)); intro v35 w5 ho_ hb_ hg_ hn_; have HO := Lib.hid ho_; have HB5 := Lib.hid hb_; have x1 := pw_cell_below hb_ x1; clear ho_ hb_ hg_ hn_)
        | ((with_reducible refine gate_builtin (b := .append) (xs := #[.tmp 35, .tmp 39]) rfl ?_); at_builtin; refine Kd.R_append_rows Kd.string (w0 := wr) wr.heap.size rfl (.tmp 35) (.tmp 39) 22 9 (.string ⟨#[]⟩) 16 rfl Try.underlying22 info9 rfl (by decide) (by omega) v35 [] X _ _ _ (fun _ => True) (fun _ => False) rfl rfl HO.out (Kd.C_below HZ1.out HB5.out) (fun _ _ h => h) (fun _ h => h.elim) (fun _ _ => trivial) HB5.out HB5.out.size (by have := HXL.out; simp; omega) ?_; intro v40 w6 ho_ hb_ hg_ hn_; rw [List.nil_append] at ho_; (obtain ⟨A40, c40, e_⟩ := Kd.R_slice ho_); subst e_; rw [HX1.out] at ho_ ⊢; have HO6 := Lib.hid ho_; have HB6 := Lib.hid hb_; clear ho_ hb_ hg_ hn_)
        | ((with_reducible refine gate_builtin (b := .append) (xs := #[.tmp 34, .tmp 41]) rfl ?_); at_builtin; refine Kd.N_append KP (w0 := w4) w4.heap.size rfl (.tmp 34) (.tmp 41) 26 22 (.slice none 0 0) 24 rfl Try.underlying26 info22 rfl (by decide) (by omega) (.slice Ai i ci) (l.take i) X [.slice A40 n1 c40] (fun k => w4.heap.size ≤ k) (fun k => w4.heap.size ≤ k ∧ some k ≠ (Value.slice Ai i ci).ownBlock) rfl rfl ?aP (fun k hk => hk) ?aF ?aO ?aB ?aS ?aL ?_; (case aP => have h9 := HX1.out; subst h9; exact Kd.FK_slice_mk (Kd.R_reads' HO6.out).2.1 (Kd.F_mono (Kd.R_F (Kd.R_tight rfl HO6.out)) (fun k hk => by have q1 := Kd.R_base HO6.out k hk.symm; have q2 := h3.out.size; exact ⟨by omega, fun e => by have q3 := Kd.N_lt h4.out k e.symm; omega⟩))); (case aF => exact fun k hk => Nat.le_trans h3.out.size (Nat.le_trans HB6.out.size hk)); (case aO => exact Kd.N_below h4.out HB6.out); (case aB => exact below_step h3.out HB6.out); (case aS => exact Nat.le_trans h3.out.size HB6.out.size); (case aL => have := HTL.out; omega); intro v42 w7 ho_ hb_ hg_ hn_; (obtain ⟨A7, c7, e_⟩ := Kd.N_slice ho_); subst e_; rw [← HT.out] at ho_ ⊢; rw [show (l.take (i + 1)).length = i + 1 by rw [HT.out, List.length_append, HTL.out]; rfl] at ho_ ⊢; have HO7 := Lib.hid ho_; have HB7 := Lib.hid hb_; clear ho_ hb_ hg_ hn_))
      go_roundg g'
      case measure => omega
      case rel => exact ⟨i + 1, A7, c7, by omega, by omega, by go_num, rfl, ⟨HB7.out⟩, ⟨HO7.out⟩⟩
    · have hltz : ¬ ((i : Int) < (n0 : Int)) := by omega
      obtain rfl : i = n0 := by omega
      clear h1 h2
      have hfull : l.take i = l := List.take_of_length_le (by rw [HN.out]; exact Nat.le_refl _)
      rw [hfull] at h4
      go_wp2
      have HIN := Lib.hid h4.out
      have HBS := Lib.hid (below_step HB4.out h3.out)
      have HNAS := Lib.hid (Kd.N_below HNA4.out h3.out)
      have HOAS := Lib.hid (show ∀ k, oka k → Own wr w.heap.size k ∧ k < w4.heap.size from fun k hk => ⟨(HOA4.out k hk).1.below h3.out, (HOA4.out k hk).2⟩)
      have HS0 := Lib.hid (Scr.refl (fun k => oka k ∧ some k ≠ (Value.slice Aa i ca).ownBlock) wr)
      have HW4 := Lib.hid h3.out.size
      clear HNA4 HOA4 h3 h4 HB4 hlt hltz
      generalize hwS : wr = wS at HIN HBS HNAS HOAS HS0 HW4
      rw [← hwS]
      have HS1 := Lib.hid (show Scr (fun k => oka k ∧ some k ≠ (Value.slice Aa i ca).ownBlock) wS wr by rw [hwS]; exact HS0.out)
      clear hwS HS0
      go_loopg [10] (i + 1) (fun gk v10 wx => ∃ j : Nat, j + gk = i + 1 ∧ j ≤ i ∧ v10 = .int .i64 (j : Int) ∧ Aside0 (Scr (fun k => oka k ∧ some k ≠ (Value.slice Aa i ca).ownBlock) wS wx))
      case atStart => exact ⟨0, by omega, by omega, rfl, ⟨HS1.out⟩⟩
      case round =>
        obtain ⟨j, h1, h2, rfl, h3⟩ := hrel
        clear HS1
        by_cases hjt : j < i
        · obtain ⟨g', rfl⟩ : ∃ g', gk = g' + 1 := ⟨gk - 1, by omega⟩
          have hjz : (j : Int) < (i : Int) := by omega
          have h0j : (0 : Int) ≤ (j : Int) := by omega
          have hj9 : (j : Int) ≤ 200 := by omega
          obtain ⟨ad, -, -, rfl, -, -, -⟩ := at_L1 (by have h9 := Kd.N_reads' HNAS.out; rw [← h9.1] at h9; exact h9.2.2) (j : Int) h0j hjz
          obtain ⟨cc, k1, k2, k3⟩ := Kd.N_get HNAS.out [] (j : Int) h0j hjz
          obtain ⟨A1, c1, rfl, y1, z1⟩ := Kd.FK_slice_open k2
          have x1 := k3 0 _ rfl
          rw [Int.toNat_natCast, show KP.sz = 1 from rfl, Nat.mul_one, Nat.add_zero] at x1
          rw [Int.toNat_natCast] at y1 z1
          obtain ⟨X, hX⟩ : ∃ X, (srt deep [] l).getD j [] = X := ⟨_, rfl⟩
          rw [hX] at x1 y1 z1
          obtain ⟨n1, hn1⟩ : ∃ n1, X.length = n1 := ⟨_, rfl⟩
          have hn9 : n1 ≤ 1099511627776 := by
            rw [← hn1, ← hX, getD_row _ j (by rw [HSL.out]; exact hjt)]
            exact HSB.out _ (List.getElem_mem _)
          rw [hn1] at x1 y1 z1
          have hxc : ∀ W, Scr (fun k => oka k ∧ some k ≠ (Value.slice (some ad) i ca).ownBlock) wS W → W.cell? (ad.add j) = some (.slice A1 n1 c1) := fun W hW => by
            have h9 := hW.far ad.block (fun e => e.2 rfl)
            rw [← x1]
            simp only [World.cell?, add_block, h9]
          have HXC := Lib.hid hxc
          have HZ1 := Lib.hid z1
          have HNN := Lib.hid hn1
          clear k1 k2 k3 x1 y1 z1 hxc hX
          have x1 := HXC.out wr h3.out
          go_wp2
          go_loopg [11] (n1 + 1) (fun gk2 v11 wx => ∃ q : Nat, q + gk2 = n1 + 1 ∧ q ≤ n1 ∧ v11 = .int .i64 (q : Int) ∧ Aside0 (Scr (fun k => oka k ∧ some k ≠ (Value.slice (some ad) i ca).ownBlock) wS wx))
          case atStart => exact ⟨0, by omega, by omega, rfl, ⟨h3.out⟩⟩
          case round =>
            clear h3 x1
            obtain ⟨q, q1, q2, rfl, h3⟩ := hrel
            have x1 := HXC.out wr h3.out
            by_cases hqt : q < n1
            · obtain ⟨g2, rfl⟩ : ∃ g2, gk = g2 + 1 := ⟨gk - 1, by omega⟩
              have hqz : (q : Int) < (n1 : Int) := by omega
              have h0q : (0 : Int) ≤ (q : Int) := by omega
              have hq9 : (q : Int) ≤ 1099511627776 := by omega
              obtain ⟨ad2, cc, rfl, k1, k2, k3, k4⟩ := Kd.F_get HZ1.out ByteArray.empty (q : Int) h0q hqz
              have hok := k4 (by decide)
              obtain ⟨v0, rfl⟩ : ∃ v0, cc = [v0] := List.length_eq_one_iff.1 (k1.trans rfl)
              have x3 := k3 0 v0 rfl
              rw [Int.toNat_natCast, show Kd.string.sz = 1 from rfl, Nat.mul_one, Nat.add_zero] at x3
              obtain ⟨-, cs0, t0, q5, -⟩ := (HOAS.out _ hok.1).1
              obtain ⟨o, v', e1, e2, e3, e4⟩ := h3.out.cell x3 ⟨cs0, t0, by rw [add_block]; exact q5⟩
              have hset := h3.out.set (o := o) hok (by have := e4; rw [add_block] at this; exact this) (.string ⟨#[63]⟩)
              rw [add_block] at e1 e2 e3
              rw [← e1] at e2 e3 hset
              have HSET := Lib.hid hset
              clear k1 k2 k3 k4 x3 q5 e1 e4 hset hok
              go_wp2
              go_roundg g2
              case measure => omega
              case rel => exact ⟨q + 1, by omega, by omega, by go_num, ⟨HSET.out⟩⟩
            · have hqz : ¬ ((q : Int) < (n1 : Int)) := by omega
              go_wp2
              go_roundg g'
              case measure => omega
              case rel => exact ⟨j + 1, by omega, by omega, by go_num, ⟨h3.out⟩⟩
        · have hjz : ¬ ((j : Int) < (i : Int)) := by omega
          clear hjt h1 h2
          have hbe : Below w.heap.size w wr := h3.out.below HBS.out (fun k hk => (HOAS.out k hk.1).1.1)
          have hin : Kd.N KP 22 wr w4.heap.size (fun k => w4.heap.size ≤ k) (.slice Ai i ci) l := Kd.N_step HIN.out (fun k hk _ => h3.out.far k (fun e => by have := (HOAS.out k e.1).2; omega))
          have hinr := Kd.N_reads' hin
          rw [← hinr.1] at hinr
          have HCI := Lib.hid (fun W (hW : Below wr.heap.size wr W) => Kd.C_below hinr.2.2 hW)
          have HIL := Lib.hid hinr.2.1
          have HCL := Lib.hid (fun W (hW : Below wr.heap.size wr W) => Kd.C_below HR.out (below_step hbe hW))
          have HBE := Lib.hid hbe
          have HBR := Lib.hid (Below.refl wr.heap.size wr)
          clear hbe hin hinr h3
          go_wp2_with (first
            | (go_at_call 17; ((with_reducible refine (push_nil _ _).mono ?_); rintro e w5 ⟨rfl, hw_⟩; subst hw_))
            | (go_at_call 19; ((with_reducible refine (pop_nil _).mono ?_); rintro e w6 ⟨rfl, hw_⟩; subst hw_))
            | (go_at_call 25; ((with_reducible refine (sames_call' l l Ai i ci A0 i c0 _ rfl HN.out HN.out (by omega) HLB.out (HCI.out _ (by repeat (first | exact HBR.out | apply below_alloc))) HIL.out (HCL.out _ (by repeat (first | exact HBR.out | apply below_alloc))) hc).mono ?_); rintro e w7 ⟨rfl, hd⟩; have hb_ := below_step (by repeat (first | exact HBR.out | apply below_alloc)) hd.below; clear HBR; have HBR := Lib.hid hb_; clear hb_ hd))
            | (go_at_call 22; ((with_reducible refine (qlen_nil _).mono ?_); rintro e w8 ⟨rfl, hw_⟩; subst hw_))
            | (go_at_call 8; ((with_reducible refine (awake_call' _).mono ?_); rintro e w9 ⟨rfl, hb⟩; have hb_ := below_step HBR.out hb; clear HBR; have HBR := Lib.hid hb_; clear hb_ hb)))
          go_ret
          exact ⟨rfl, below_step HBE.out HBR.out⟩
def gessolaw15_WalkSorts.f (l : List (List ByteArray)) (deep : Bool) : Option Bool := some true
theorem gessolaw15_WalkSorts.calls (A0 : Option Addr) (c0 : Nat) (l0 : List (List ByteArray)) (deep : Bool) (r : Bool) (w : World) (hr0 : Kd.C (Kd.slice 9 Kd.string) w A0 l0.length l0) (hc0 : l0.length ≤ c0) (h : gessolaw15_WalkSorts.f l0 deep = some r) :
    Calls Try.prog 5 #[.slice A0 l0.length c0, .bool deep] w fun e w' => e = .returned (.bool r) ∧ Below w.heap.size w w' := by
  obtain rfl := Option.some.inj h
  cases hL : lightB l0
  · exact sorts_far deep l0 A0 l0.length c0 w rfl hr0 hc0 hL
  · exact sorts_any deep l0 A0 l0.length c0 w rfl hr0 hc0 hL
end Go.Proofs.Ytomhpfgibekmfaa.P
