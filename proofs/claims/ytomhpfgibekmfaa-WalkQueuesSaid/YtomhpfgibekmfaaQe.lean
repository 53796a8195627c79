/- walk.Sorted: its calls. No condition. -/
import Derived.Test.YtomhpfgibekmfaaQd
import Derived.Test.YtomhpfgibekmfaaMc
namespace Go.Proofs.Ytomhpfgibekmfaa.P
open Go.RowKit Go.Lib Go.Proofs.YtomhpfgibekmfaaW.PrintWords Go.Proofs.YtomhpfgibekmfaaW.PrintLast Go.Proofs.YtomhpfgibekmfaaW.PrintMore Go.Proofs.Ytomhpfgibekmfaa.Pure
set_option linter.unusedVariables false
set_option linter.unusedSimpArgs false
theorem QS.step {base : Nat} {ok : Nat → Prop} {w w' : World} {p : Nat} {deep : Bool} {A : Option Addr} {n c : Nat} {S : List Pth} (h : QS base ok w p deep A n c S) (hm : ∀ k, k = p ∨ ok k → k < w.heap.size → w'.heap[k]? = w.heap[k]?) : QS base ok w' p deep A n c S := by
  obtain ⟨H, h1, h2, h3⟩ := h
  refine ⟨H, h1, h2, (hm p (.inl rfl) h3.lt).trans h3.blk, h3.hp, Kd.N_step h3.rows (fun k hk hlt => hm k (.inr hk) hlt), fun k hk => ?_, h3.light⟩
  obtain ⟨q1, cs, t, q2, q3⟩ := h3.own k hk
  exact ⟨q1, cs, t, (hm k (.inr hk) (blk_lt q2)).trans q2, q3⟩
theorem QS.own {base : Nat} {ok : Nat → Prop} {w : World} {p : Nat} {deep : Bool} {A : Option Addr} {n c : Nat} {S : List Pth} (h : QS base ok w p deep A n c S) : (∀ k, ok k → Own w base k ∧ k ≠ p ∧ k < w.heap.size) ∧ p < w.heap.size ∧ base ≤ w.heap.size ∧ ∀ k n c, (Value.slice A n c).ownBlock = some k → ok k := by
  obtain ⟨H, h1, h2, h3⟩ := h
  refine ⟨fun k hk => ⟨h3.own k hk, (h3.own k hk).ne h3.blk, ?_⟩, h3.lt, h3.base_le, fun k n c hk => h3.rows.1 k (by cases A <;> exact hk)⟩
  obtain ⟨-, cs, t, q2, -⟩ := h3.own k hk
  exact blk_lt q2
/-- What was told of the queue stays where it goes on. -/
theorem out_moved {base Nq : Nat} {ok : Nat → Prop} {w w' : World} {p : Nat} {deep : Bool} {A Ao : Option Addr} {n c m c' j co : Nat} {S T : List Pth} (hN : Kd.N KP 22 w base (fun k => (ok k ∧ some k ≠ (Value.slice A 0 0).ownBlock) ∨ some k = (Value.slice Ao j co).ownBlock) (.slice Ao j co) T) (hQ : QS base ok w p deep A n c S)
    (hq : ∀ k, (Value.slice Ao j co).ownBlock = some k → Nq ≤ k) (ho : ∀ k, ok k → k < Nq) (hp : p < Nq) (hg : ∀ k, (Value.slice A 0 0).ownBlock = some k → k < Nq) (hM : Moved base w w' p (.slice A n c) (.slice A m c')) :
    Kd.N KP 22 w' base (fun k => (ok k ∧ some k ≠ (Value.slice A 0 0).ownBlock) ∨ some k = (Value.slice Ao j co).ownBlock) (.slice Ao j co) T := by
  have hAA : (Value.slice A n c).ownBlock = (Value.slice A 0 0).ownBlock := by cases A <;> rfl
  obtain ⟨o1, o2, o3, o4⟩ := hQ.own
  refine Kd.N_step hN (fun k hk hlt => hM.block k hlt ?_ ?_)
  · rcases hk with hk | hk
    · exact (o1 k hk.1).2.1
    · have := hq k hk.symm
      omega
  · rw [hAA]
    rcases hk with hk | hk
    · exact hk.2
    · intro e
      have h1 := hq k hk.symm
      have h2 := hg k e.symm
      omega
set_option maxHeartbeats 2000000 in
set_option maxRecDepth 100000 in
theorem sorted_any (A0 : Option Addr) (n0 c0 : Nat) (l : List Pth) (deep : Bool) (w : World) (hn : l.length = n0) (hr : Kd.C KP w A0 n0 l) (hc : n0 ≤ c0) (hb : n0 ≤ 1048576) (hl : ∀ x ∈ l, x.length ≤ 1099511627776) :
    Calls Try.prog 23 #[.slice A0 n0 c0, .bool deep] w fun e w' => ∃ A c ok, e = .returned (.slice A n0 c) ∧ Kd.N KP 22 w' w.heap.size ok (.slice A n0 c) (srt deep [] l) ∧ (∀ k, ok k → Own w' w.heap.size k) ∧ Below w.heap.size w w' := by
  have HN := Lib.hid hn
  have HR := Lib.hid hr
  have HL := Lib.hid hl
  clear hn hr hl
  go_enter Try.func23, Try.ntmps23
  go_wp2_with (first
    | (go_at_call 16; ((with_reducible refine (new_any deep _).mono ?_); rintro e w1 ⟨rfl, rfl⟩)))
  have hB1 : Below w.heap.size w (w.alloc (.cells #[.slice none 0 0, .func (.func (lessF deep)) #[] #[]] 51)) := below_alloc (Below.refl _ _) _
  have hQ1 : QS w.heap.size (fun _ => False) (w.alloc (.cells #[.slice none 0 0, .func (.func (lessF deep)) #[] #[]] 51)) w.heap.size deep none 0 0 (srt deep [] (l.take 0)) := QS.new (Nat.le_refl _)
  have HB1 := Lib.hid hB1
  have HQ1 := Lib.hid hQ1
  clear hB1 hQ1
  go_loopg [15] (n0 + 1) (fun gk v15 wx => ∃ (i : Nat) (ok : Nat → Prop) (A : Option Addr) (c : Nat), i + gk = n0 + 1 ∧ i ≤ n0 ∧ v15 = .int .i64 (i : Int) ∧ Aside0 (Below w.heap.size w wx) ∧ Aside0 (QS w.heap.size ok wx w.heap.size deep A i c (srt deep [] (l.take i))))
  case atStart => exact ⟨0, _, none, 0, by omega, by omega, rfl, ⟨HB1.out⟩, ⟨HQ1.out⟩⟩
  case round =>
    obtain ⟨i, ok, A, c, h1, h2, rfl, h3, h4⟩ := hrel
    clear HB1 HQ1
    by_cases hlt : i < n0
    · obtain ⟨g', rfl⟩ : ∃ g', gk = g' + 1 := ⟨gk - 1, by omega⟩
      have hltz : (i : Int) < (n0 : Int) := by omega
      have h0z : (0 : Int) ≤ (i : Int) := by omega
      have hi9 : (i : Int) ≤ 1048576 := by omega
      obtain ⟨ad, A1, c1, rfl, x1, y1, z1⟩ := at_L1 (Kd.C_below HR.out h3.out) (i : Int) h0z hltz
      rw [Int.toNat_natCast] at x1
      obtain ⟨X, hX⟩ : ∃ X, rd_L1 l (i : Int) = X := ⟨_, rfl⟩
      have hX2 : X = l[i]'(by rw [HN.out]; exact hlt) := by rw [← hX]; simp [rd_L1, HN.out, hlt]
      rw [hX] at x1 y1 z1
      obtain ⟨n1, hn1⟩ : ∃ n1, X.length = n1 := ⟨_, rfl⟩
      rw [hn1] at x1 y1 z1
      have hXl : n1 ≤ 1099511627776 := by rw [← hn1, hX2]; exact HL.out _ (List.getElem_mem _)
      have HX1 := Lib.hid hn1
      have HY1 := Lib.hid y1
      have HZ1 := Lib.hid z1
      have HXL := Lib.hid hXl
      have htake : l.take (i + 1) = l.take i ++ [X] := by rw [hX2]; exact List.take_succ_eq_append_getElem (by rw [HN.out]; exact hlt)
      have HT := Lib.hid htake
      clear htake hX hX2 hn1 y1 z1 hXl
      go_wp2_with (first
        | (go_at_call 17; ((with_reducible refine (queue_push h4.out (by omega) X A1 n1 c1 HX1.out HZ1.out HY1.out HXL.out).mono ?_); rintro e w2 ⟨rfl, ok', A', c', hk, hq, hm⟩; have HQ2 := Lib.hid hq; have HM2 := Lib.hid hm; clear hk hq hm)))
      go_roundg g'
      case measure => omega
      case rel =>
        refine ⟨i + 1, ok', A', c', by omega, by omega, by go_num, ⟨h3.out.trans HM2.out.below⟩, ⟨HQ2.out.perm ?_⟩⟩
        rw [HT.out, srt_snoc]
        exact (ins_perm' _ _ _).symm
    · have hltz : ¬ ((i : Int) < (n0 : Int)) := by omega
      obtain rfl : i = n0 := by omega
      clear h1 h2
      have hfull : l.take i = l := List.take_of_length_le (by rw [HN.out]; exact Nat.le_refl _)
      rw [hfull] at h4
      go_wp2
      obtain ⟨S, hS⟩ : ∃ S, srt deep [] l = S := ⟨_, rfl⟩
      have hSl : S.length = i := by rw [← hS, srt_length, HN.out]; simp
      have hSs : S.Pairwise (le deep) := by rw [← hS]; exact srt_sorted _ _ List.Pairwise.nil
      rw [hS] at h4
      have HSE := Lib.hid hS
      obtain ⟨o1, o2, o3, o4⟩ := h4.out.own
      obtain ⟨Nq, hNq⟩ : ∃ Nq, wr.heap.size = Nq := ⟨_, rfl⟩
      rw [hNq] at o1 o2 o3
      have HO := Lib.hid (show ∀ k, ok k → k < Nq from fun k hk => (o1 k hk).2.2)
      have HP := Lib.hid o2
      have HG := Lib.hid o4
      have HSL := Lib.hid hSl
      have HSS := Lib.hid hSs
      have HNQ := Lib.hid (Nat.le_of_eq hNq.symm)
      have HH3 := Lib.hid h3.out
      have HH4 := Lib.hid h4.out
      clear o1 o2 o3 o4 hSl hSs hNq hS hfull h3 h4 hlt hltz
      go_loopg [8] (i + 1) (fun gk v8 wx => ∃ (m j : Nat) (Ao : Option Addr) (co : Nat), m + 1 = gk ∧ m + j = i ∧ v8 = .slice Ao j co ∧ Aside0 (Below w.heap.size w wx) ∧ Aside0 (QS w.heap.size ok wx w.heap.size deep A m c (S.drop j)) ∧ Aside0 (Kd.N KP 22 wx w.heap.size (fun k => (ok k ∧ some k ≠ (Value.slice A 0 0).ownBlock) ∨ some k = (Value.slice Ao j co).ownBlock) (.slice Ao j co) (S.take j)) ∧ Aside0 (∀ k, (Value.slice Ao j co).ownBlock = some k → Nq ≤ k) ∧ Aside0 (Nq ≤ wx.heap.size))
      case atStart => exact ⟨i, 0, none, 0, rfl, by omega, rfl, ⟨HH3.out⟩, ⟨HH4.out⟩, ⟨Kd.N_nil _ _ _ _ _⟩, ⟨fun k hk => by cases hk⟩, ⟨HNQ.out⟩⟩
      case round =>
        obtain ⟨m, j, Ao, co, h1, h2, rfl, h3, h4, h5, h6, h7⟩ := hrel
        clear HH3 HH4
        rcases Nat.eq_zero_or_pos m with h0 | h0
        · subst h0
          obtain rfl : j = i := by omega
          go_wp2_with (first
            | (go_at_call 22; ((with_reducible refine (queue_len h4.out).mono ?_); rintro e w2 ⟨rfl, rfl⟩)))
          go_ret
          have hfull : S.take j = S := List.take_of_length_le (by rw [HSL.out]; exact Nat.le_refl _)
          obtain ⟨o1, o2, o3, o4⟩ := h4.out.own
          refine ⟨Ao, co, _, rfl, by rw [HSE.out, ← hfull]; exact h5.out, fun k hk => ?_, h3.out⟩
          rcases hk with hk | hk
          · exact (o1 k hk.1).1
          · obtain ⟨cs, q⟩ := Kd.N_typed h5.out k hk.symm
            exact ⟨Kd.N_base h5.out k hk.symm, cs, 22, q, .inr rfl⟩
        · obtain ⟨m', rfl⟩ : ∃ m', m = m' + 1 := ⟨m - 1, by omega⟩
          obtain ⟨g', rfl⟩ : ∃ g', gk = g' + 1 := ⟨gk - 1, by omega⟩
          have hmz : (0 : Int) < (m' : Int) + 1 := by omega
          have hj : j < S.length := by rw [HSL.out]; omega
          have hdrop := List.drop_eq_getElem_cons hj
          obtain ⟨y, hy⟩ : ∃ y, S[j] = y := ⟨_, rfl⟩
          have htake := List.take_succ_eq_append_getElem hj
          rw [hy] at hdrop htake
          rw [hdrop] at h4
          have hsd : (y :: S.drop (j + 1)).Pairwise (le deep) := by rw [← hdrop]; exact HSS.out.sublist (List.drop_sublist _ _)
          obtain ⟨n1, hn1⟩ : ∃ n1, y.length = n1 := ⟨_, rfl⟩
          have HSD := Lib.hid hsd
          have HN1 := Lib.hid hn1
          have HT := Lib.hid htake
          clear hdrop htake hsd hn1 hy hj
          go_wp2_with (first
            | (go_at_call 22; ((with_reducible refine (queue_len h4.out).mono ?_); rintro e w2 ⟨rfl, rfl⟩))
            | (go_at_call 19; ((with_reducible refine (queue_pop h4.out HSD.out (by omega) n1 HN1.out).mono ?_); rintro e w2 ⟨A1, c1, rfl, q1, q2, q3, q4⟩; have HC1 := Lib.hid q1; have HF1 := Lib.hid q2; have HQ2 := Lib.hid q3; have HM2 := Lib.hid q4; have HOUT := Lib.hid (out_moved h5.out h4.out h6.out HO.out HP.out (fun k hk => HO.out k (HG.out k _ _ hk)) q4); have HKP := Lib.hid (show ∀ k, (ok k ∧ some k ≠ (Value.slice A m' c).ownBlock) → some k ≠ (Value.slice Ao j co).ownBlock from fun k hk e => by have e1 := HO.out k hk.1; have e2 := h6.out k e.symm; omega); have HSZ := Lib.hid h3.out.size; clear q1 q2 q3 q4))
            | ((with_reducible refine gate_builtin (b := .append) (xs := #[.tmp 31, .tmp 33]) rfl ?_); at_builtin; refine N_append_ownL KP (w0 := w) w.heap.size rfl (.tmp 31) (.tmp 33) 26 22 (.slice none 0 0) 24 rfl Try.underlying26 info22 rfl (by decide) (by omega) (.slice Ao j co) (S.take j) y [.slice A1 n1 c1] _ _ rfl rfl (by have h9 := HN1.out; subst h9; exact Kd.FK_slice_mk HC1.out HF1.out) HKP.out HOUT.out (h3.out.trans HM2.out.below) (Nat.le_trans HSZ.out HM2.out.below.size) (by rw [List.length_take]; omega) ?_; intro v1 w3 hN3 hB3 hg3 hat3; have HN3 := Lib.hid hN3; have HB3 := Lib.hid hB3; have HG3 := Lib.hid hg3; have HAT3 := Lib.hid hat3; clear hN3 hB3 hg3 hat3))
          have hpn := HP.out
          have hgn : ∀ k, some k = (Value.slice A 0 0).ownBlock → k < Nq := fun k hk => HO.out k (HG.out k _ _ hk.symm)
          have hAA : ∀ n c, (Value.slice A n c).ownBlock = (Value.slice A 0 0).ownBlock := fun n c => by cases A <;> rfl
          have hlen : (S.take j ++ [y]).length = j + 1 := by rw [List.length_append, List.length_take, HSL.out, Nat.min_eq_left (by omega)]; rfl
          have hn3 := HN3.out
          obtain ⟨A', c', e⟩ := Kd.N_slice hn3
          rw [hlen] at e
          subst e
          rw [← HT.out] at hn3
          have hat := HAT3.out
          have hown : ∀ k, (Value.slice A' (j + 1) c').ownBlock = some k → Nq ≤ k := fun k hk => by
            rcases hat with e | ⟨b, e, hb⟩
            · exact h6.out k (e ▸ hk)
            · rw [e] at hk
              injection hk with hk
              have h9 := HM2.out.below.size
              have h8 := h7.out
              omega
          go_roundg g'
          case measure => omega
          case rel =>
            refine ⟨m', j + 1, A', c', by omega, by omega, rfl, ⟨HB3.out⟩, ⟨HQ2.out.step (fun k hk hlt => HG3.out.block k hlt (fun e => ?_))⟩, ⟨Kd.N_mono hn3 (fun k hk => ?_)⟩, ⟨hown⟩, ⟨Nat.le_trans h7.out (Nat.le_trans HM2.out.below.size HG3.out.size)⟩⟩
            · have h9 := h6.out k e.symm
              rcases hk with rfl | hk
              · omega
              · have h8 := HO.out k hk
                omega
            · rcases hk with (hk | hk) | hk
              · rcases hk.1 with h9 | h9
                · exact .inl h9
                · exact absurd h9 hk.2
              · exact .inl ⟨hk.1, by rw [← hAA m' c]; exact hk.2⟩
              · exact .inr hk
end Go.Proofs.Ytomhpfgibekmfaa.P
