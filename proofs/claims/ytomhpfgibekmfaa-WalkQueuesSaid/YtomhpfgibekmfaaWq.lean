/- The law WalkFirst: its call comes to true. No condition. -/
import Derived.Test.YtomhpfgibekmfaaMx
import Derived.Deep.LoopGhost
namespace Go.Proofs.Ytomhpfgibekmfaa.P
open Go.RowKit Go.Lib Go.Proofs.YtomhpfgibekmfaaW.PrintWords Go.Proofs.YtomhpfgibekmfaaW.PrintLast Go.Proofs.YtomhpfgibekmfaaW.PrintMore Go.Proofs.Ytomhpfgibekmfaa.Pure
set_option linter.unusedVariables false
set_option linter.unusedSimpArgs false
attribute [local go_sem] List.getElem?_cons_zero List.getElem?_cons_succ
theorem light_call (l : List Pth) (A0 : Option Addr) (n0 c0 : Nat) (r : Bool) (w : World) (hr : lightB l = r) (hn : l.length = n0) (hC : Kd.C KP w A0 n0 l) (hc : n0 ≤ c0) :
    Calls Try.prog 15 #[.slice A0 n0 c0] w fun e w' => e = .returned (.bool r) ∧ Below w.heap.size w w' := by
  subst hn
  subst hr
  obtain ⟨k, h⟩ := (light_ev l).rounds
  exact gessolaw15_light.calls k A0 c0 l _ w hC hc h
theorem less_call' (x y : Pth) (A0 : Option Addr) (n0 c0 : Nat) (A1 : Option Addr) (n1 c1 : Nat) (deep : Bool) (f : Nat) (hf : lessF deep = f) (r : Bool) (w : World) (hr : bf deep x y = r) (hx : x.length = n0) (hy : y.length = n1) (hl : n0 ≤ 1099511627776) (hr0 : Kd.C Kd.string w A0 n0 x) (hc0 : n0 ≤ c0) (hr1 : Kd.C Kd.string w A1 n1 y) (hc1 : n1 ≤ c1) :
    Calls Try.prog f #[.slice A0 n0 c0, .slice A1 n1 c1] w fun e w' => e = .returned (.bool r) ∧ Drawn0 w w' := by
  subst hx
  subst hy
  subst hr
  subst hf
  exact by_any deep x y A0 c0 A1 c1 w hl hr0 hc0 hr1 hc1
theorem awake_call' (w : World) : Calls Try.prog 8 #[] w fun e w' => e = .returned (.bool true) ∧ Below w.heap.size w w' := by
  obtain ⟨k, h⟩ := awake_ev.rounds
  exact gessolaw15_awake.calls k true w h
theorem first_far (deep : Bool) (l : List Pth) (A0 : Option Addr) (n0 c0 : Nat) (w : World) (hn : l.length = n0) (hC : Kd.C KP w A0 n0 l) (hc : n0 ≤ c0) (h : lightB l = false ∨ 100 < n0) :
    Calls Try.prog 7 #[.bool deep, .slice A0 n0 c0] w fun e w' => e = .returned (.bool true) ∧ Below w.heap.size w w' := by
  obtain ⟨L, hL⟩ : ∃ L, lightB l = L := ⟨_, rfl⟩
  rw [hL] at h
  have HL := Lib.hid hL
  have HC := Lib.hid hC
  have HN := Lib.hid hn
  clear hL hC hn
  go_enter Try.func7, Try.ntmps7
  cases L
  · go_wp2_with (first
      | (go_at_call 15; ((with_reducible refine (light_call l A0 n0 c0 false _ HL.out HN.out HC.out hc).mono ?_); rintro e w1 ⟨rfl, hd⟩; have HD := Lib.hid hd; clear hd))
      | (go_at_call 8; ((with_reducible refine (awake_call' _).mono ?_); rintro e w2 ⟨rfl, hb⟩; have HB := Lib.hid hb; clear hb)))
    go_ret
    exact ⟨rfl, below_step HD.out HB.out⟩
  · have h1 : 100 < n0 := h.resolve_left (by decide)
    have h1z : (100 : Int) < (n0 : Int) := by omega
    go_wp2_with (first
      | (go_at_call 15; ((with_reducible refine (light_call l A0 n0 c0 true _ HL.out HN.out HC.out hc).mono ?_); rintro e w1 ⟨rfl, hd⟩; have HD := Lib.hid hd; clear hd))
      | (go_at_call 8; ((with_reducible refine (awake_call' _).mono ?_); rintro e w2 ⟨rfl, hb⟩; have HB := Lib.hid hb; clear hb)))
    go_ret
    exact ⟨rfl, below_step HD.out HB.out⟩
set_option maxHeartbeats 4000000 in
set_option maxRecDepth 100000 in
theorem first_any (deep : Bool) (l : List Pth) (A0 : Option Addr) (n0 c0 : Nat) (w : World) (hn : l.length = n0) (hC : Kd.C KP w A0 n0 l) (hc : n0 ≤ c0) (hL : lightB l = true) (h100 : n0 ≤ 100) :
    Calls Try.prog 7 #[.bool deep, .slice A0 n0 c0] w fun e w' => e = .returned (.bool true) ∧ Below w.heap.size w w' := by
  have HL := Lib.hid hL
  have HLT := Lib.hid (light_of hL).2
  have HR := Lib.hid hC
  have HN := Lib.hid hn
  have h1z : ¬ ((100 : Int) < (n0 : Int)) := by omega
  clear hL hC hn
  go_enter Try.func7, Try.ntmps7
  go_wp2_with (first
    | (go_at_call 15; ((with_reducible refine (light_call l A0 n0 c0 true _ HL.out HN.out HR.out hc).mono ?_); rintro e w1 ⟨rfl, hd⟩; have HD := Lib.hid hd; clear hd))
    | (go_at_call 16; ((with_reducible refine (new_any deep _).mono ?_); rintro e w2 ⟨rfl, rfl⟩)))
  have HD1 := HD.out
  have hB1 : Below w.heap.size w (w1.alloc (.cells #[.slice none 0 0, .func (.func (lessF deep)) #[] #[]] 51)) := below_alloc HD1 _
  have hQ1 : QS w.heap.size (fun _ => False) (w1.alloc (.cells #[.slice none 0 0, .func (.func (lessF deep)) #[] #[]] 51)) w1.heap.size deep none 0 0 (srt deep [] (l.take 0)) := QS.new HD1.size
  have HB1 := Lib.hid hB1
  have HQ1 := Lib.hid hQ1
  obtain ⟨p, hp⟩ : ∃ p, w1.heap.size = p := ⟨_, rfl⟩
  rw [hp] at HQ1 ⊢
  generalize w1.alloc (.cells #[.slice none 0 0, .func (.func (lessF deep)) #[] #[]] 51) = w2 at *
  clear hB1 hQ1 HD HD1 hp
  go_loopg [6] (n0 + 1) (fun gk v6 wx => ∃ (i : Nat) (ok : Nat → Prop) (A : Option Addr) (c : Nat), i + gk = n0 + 1 ∧ i ≤ n0 ∧ v6 = .int .i64 (i : Int) ∧ Aside0 (Below w.heap.size w wx) ∧ Aside0 (QS w.heap.size ok wx p deep A i c (srt deep [] (l.take i))))
  case atStart => exact ⟨0, _, none, 0, by omega, by omega, rfl, ⟨HB1.out⟩, ⟨HQ1.out⟩⟩
  case round =>
    obtain ⟨i, ok, A, c, h1, h2, rfl, h3, h4⟩ := hrel
    clear HB1 HQ1
    by_cases hlt : i < n0
    · obtain ⟨g', rfl⟩ : ∃ g', gk = g' + 1 := ⟨gk - 1, by omega⟩
      have hltz : (i : Int) < (n0 : Int) := by omega
      have h0z : (0 : Int) ≤ (i : Int) := by omega
      have hi9 : (i : Int) ≤ 1048576 := by omega
      obtain ⟨ad, A1, c1, rfl, x1, y1, z1⟩ := at_L1 (Kd.C_below HR.out h3.out) (i : Int) h0z hltz
      rw [Int.toNat_natCast] at x1
      obtain ⟨X, hX⟩ : ∃ X, rd_L1 l (i : Int) = X := ⟨_, rfl⟩
      have hX2 : X = l[i]'(by rw [HN.out]; exact hlt) := by rw [← hX]; simp [rd_L1, HN.out, hlt]
      rw [hX] at x1 y1 z1
      obtain ⟨n1, hn1⟩ : ∃ n1, X.length = n1 := ⟨_, rfl⟩
      rw [hn1] at x1 y1 z1
      have hXl : n1 ≤ 1099511627776 := by
        rw [← hn1, hX2]
        exact Nat.le_trans (HLT.out _ (List.getElem_mem _)) (by decide)
      have HX1 := Lib.hid hn1
      have HY1 := Lib.hid y1
      have HZ1 := Lib.hid z1
      have HXL := Lib.hid hXl
      have htake : l.take (i + 1) = l.take i ++ [X] := by rw [hX2]; exact List.take_succ_eq_append_getElem (by rw [HN.out]; exact hlt)
      have HT := Lib.hid htake
      clear htake hX hX2 hn1 y1 z1 hXl
      go_wp2_with (first
        | (go_at_call 17; ((with_reducible refine (queue_push h4.out (by omega) X A1 n1 c1 HX1.out HZ1.out HY1.out HXL.out).mono ?_); rintro e w3 ⟨rfl, ok', A', c', hk, hq, hm⟩; have HQ2 := Lib.hid hq; have HM2 := Lib.hid hm; clear hk hq hm)))
      go_roundg g'
      case measure => omega
      case rel =>
        refine ⟨i + 1, ok', A', c', by omega, by omega, by go_num, ⟨h3.out.trans HM2.out.below⟩, ⟨HQ2.out.perm ?_⟩⟩
        rw [HT.out, srt_snoc]
        exact (ins_perm' _ _ _).symm
    · have hltz : ¬ ((i : Int) < (n0 : Int)) := by omega
      obtain rfl : i = n0 := by omega
      clear h1 h2
      have hfull : l.take i = l := List.take_of_length_le (by rw [HN.out]; exact Nat.le_refl _)
      rw [hfull] at h4
      go_wp2
      obtain ⟨S, hS⟩ : ∃ S, srt deep [] l = S := ⟨_, rfl⟩
      have hSl : S.length = i := by rw [← hS, srt_length, HN.out]; simp
      have hSs : S.Pairwise (le deep) := by rw [← hS]; exact srt_sorted _ _ List.Pairwise.nil
      have hSb : ∀ x ∈ S, x.length ≤ 1000 := fun x hx => HLT.out x (by have := (srt_perm deep l []).mem_iff.1 (hS ▸ hx); simpa using this)
      rw [hS] at h4
      have HSL := Lib.hid hSl
      have HSS := Lib.hid hSs
      have HSB := Lib.hid hSb
      have HH3 := Lib.hid h3.out
      have HH4 := Lib.hid h4.out
      clear hSl hSs hSb hS hfull h3 h4 hlt hltz
      go_loopg [7, 8] (i + 1) (fun gk v7 v8 wx => ∃ (m j : Nat) (Al : Option Addr) (nl cl : Nat) (last : Pth), m + 1 = gk ∧ m + j = i ∧ v8 = .int .i64 (j : Int) ∧ v7 = .slice Al nl cl ∧ Aside0 (Below w.heap.size w wx) ∧ Aside0 (QS w.heap.size ok wx p deep A m c (S.drop j)) ∧ Aside0 (last.length = nl ∧ nl ≤ cl ∧ Kd.F Kd.string wx (fun k => ok k ∧ some k ≠ (Value.slice A 0 0).ownBlock) Al nl last) ∧ Aside0 (0 < j → last = ga S (j - 1)))
      case atStart => exact ⟨i, 0, none, 0, 0, [], rfl, by omega, rfl, rfl, ⟨HH3.out⟩, ⟨HH4.out⟩, ⟨rfl, Nat.le_refl _, Kd.F_nil _ _ _⟩, ⟨fun h => by omega⟩⟩
      case round =>
        obtain ⟨m, j, Al, nl, cl, last, h1, h2, rfl, rfl, h3, h4, h5, h6⟩ := hrel
        clear HH3 HH4
        rcases Nat.eq_zero_or_pos m with h0 | h0
        · subst h0
          obtain rfl : j = i := by omega
          have hltz : ¬ ((j : Int) < (j : Int)) := by omega
          go_wp2_with (first
            | (go_at_call 19; ((with_reducible refine (queue_none h4.out).mono ?_); rintro e w3 ⟨rfl, rfl⟩))
            | (go_at_call 8; ((with_reducible refine (awake_call' _).mono ?_); rintro e w4 ⟨rfl, hb⟩; have HB := Lib.hid hb; clear hb)))
          go_ret
          exact ⟨rfl, below_step h3.out HB.out⟩
        · obtain ⟨m', rfl⟩ : ∃ m', m = m' + 1 := ⟨m - 1, by omega⟩
          obtain ⟨g', rfl⟩ : ∃ g', gk = g' + 1 := ⟨gk - 1, by omega⟩
          have hltz : (j : Int) < (i : Int) := by omega
          have hj : j < S.length := by rw [HSL.out]; omega
          have hdrop := List.drop_eq_getElem_cons hj
          obtain ⟨y, hy⟩ : ∃ y, S[j] = y := ⟨_, rfl⟩
          rw [hy] at hdrop
          rw [hdrop] at h4
          have hsd : (y :: S.drop (j + 1)).Pairwise (le deep) := by rw [← hdrop]; exact HSS.out.sublist (List.drop_sublist _ _)
          obtain ⟨n1, hn1⟩ : ∃ n1, y.length = n1 := ⟨_, rfl⟩
          have HSD := Lib.hid hsd
          have HN1 := Lib.hid hn1
          have HYE := Lib.hid (show y = ga S j by rw [ga_lt hj]; exact hy.symm)
          have HNL := Lib.hid (show n1 ≤ 1099511627776 from hn1 ▸ Nat.le_trans (HSB.out y (hy ▸ List.getElem_mem _)) (by decide))
          have HOW := Lib.hid h4.out.own.1
          have HAA := Lib.hid (show (Value.slice A (m' + 1) c).ownBlock = (Value.slice A 0 0).ownBlock by cases A <;> rfl)
          have HA2 := Lib.hid (show (Value.slice A m' c).ownBlock = (Value.slice A 0 0).ownBlock by cases A <;> rfl)
          have hq9 : (i : Int) - 1 - (j : Int) = (m' : Int) := by omega
          have hb1 : (i : Int) ≤ 100 := by omega
          have hb2 : (j : Int) ≤ 100 := by omega
          have hb3 : (0 : Int) ≤ (j : Int) := by omega
          have hb4 : (0 : Int) ≤ (i : Int) - 1 := by omega
          clear hdrop hsd hn1
          rcases Nat.eq_zero_or_pos j with hj0 | hj0
          · have hjz : ¬ ((0 : Int) < (j : Int)) := by omega
            clear hy hj hj0
            go_wp2_with (first
              | (go_at_call 19; ((with_reducible refine (queue_pop h4.out HSD.out (by omega) n1 HN1.out).mono ?_); rintro e w3 ⟨A1, c1, rfl, q1, q2, q3, q4⟩; have HC1 := Lib.hid q1; have HF1 := Lib.hid q2; have HQ2 := Lib.hid q3; have HM2 := Lib.hid q4; have HFL := Lib.hid (Kd.F_step h5.out.2.2 (fun k hk hlt => q4.block k hlt ((HOW.out k hk.1).2.1) (by rw [HAA.out]; exact hk.2))); clear q1 q2 q3 q4))
              | (go_at_call 22; ((with_reducible refine (queue_len HQ2.out).mono ?_); rintro e w4 ⟨rfl, rfl⟩)))
            go_roundg g'
            case measure => omega
            case rel =>
              refine ⟨m', j + 1, A1, n1, c1, y, by omega, by omega, by go_num, rfl, ⟨h3.out.trans HM2.out.below⟩, ⟨HQ2.out⟩, ⟨HN1.out, HC1.out, by have := HF1.out; rw [HA2.out] at this; exact this⟩, ⟨fun _ => by rw [Nat.add_sub_cancel]; exact HYE.out⟩⟩
          · have hjz : (0 : Int) < (j : Int) := by omega
            have hle : bf deep y last = false := by
              rw [h6.out hj0, ga_lt (by omega), ← hy]
              exact (List.pairwise_iff_getElem.1 HSS.out) (j - 1) j (by omega) hj (by omega)
            have HLE := Lib.hid hle
            clear hle hy hj hj0
            cases deep
            · go_wp2_with (first
              | (go_at_call 19; ((with_reducible refine (queue_pop h4.out HSD.out (by omega) n1 HN1.out).mono ?_); rintro e w3 ⟨A1, c1, rfl, q1, q2, q3, q4⟩; have HC1 := Lib.hid q1; have HF1 := Lib.hid q2; have HQ2 := Lib.hid q3; have HM2 := Lib.hid q4; have HFL := Lib.hid (Kd.F_step h5.out.2.2 (fun k hk hlt => q4.block k hlt ((HOW.out k hk.1).2.1) (by rw [HAA.out]; exact hk.2))); clear q1 q2 q3 q4))
              | (go_at_call 22; ((with_reducible refine (queue_len HQ2.out).mono ?_); rintro e w4 ⟨rfl, rfl⟩))
              | (go_at_call 9; ((with_reducible refine (less_call' y last A1 n1 c1 Al nl cl false 9 rfl false _ HLE.out HN1.out h5.out.1 HNL.out (Kd.F_now HF1.out) HC1.out (Kd.F_now HFL.out) h5.out.2.1).mono ?_); rintro e w5 ⟨rfl, hd⟩; have HD := Lib.hid hd; clear hd)))
              go_roundg g'
              case measure => omega
              case rel =>
                refine ⟨m', j + 1, A1, n1, c1, y, by omega, by omega, by go_num, rfl, ⟨(h3.out.trans HM2.out.below).trans ((Moved.of_below (v := .slice none 0 0) (p := p) HD.out.below HQ2.out.own.2.2.1).below)⟩, ⟨HQ2.out.below HD.out.below⟩, ⟨HN1.out, HC1.out, by have := HF1.out; rw [HA2.out] at this; exact Kd.F_step this (fun k _ hlt => HD.out.below.block k hlt)⟩, ⟨fun _ => by rw [Nat.add_sub_cancel]; exact HYE.out⟩⟩
            · go_wp2_with (first
              | (go_at_call 19; ((with_reducible refine (queue_pop h4.out HSD.out (by omega) n1 HN1.out).mono ?_); rintro e w3 ⟨A1, c1, rfl, q1, q2, q3, q4⟩; have HC1 := Lib.hid q1; have HF1 := Lib.hid q2; have HQ2 := Lib.hid q3; have HM2 := Lib.hid q4; have HFL := Lib.hid (Kd.F_step h5.out.2.2 (fun k hk hlt => q4.block k hlt ((HOW.out k hk.1).2.1) (by rw [HAA.out]; exact hk.2))); clear q1 q2 q3 q4))
              | (go_at_call 22; ((with_reducible refine (queue_len HQ2.out).mono ?_); rintro e w4 ⟨rfl, rfl⟩))
              | (go_at_call 11; ((with_reducible refine (less_call' y last A1 n1 c1 Al nl cl true 11 rfl false _ HLE.out HN1.out h5.out.1 HNL.out (Kd.F_now HF1.out) HC1.out (Kd.F_now HFL.out) h5.out.2.1).mono ?_); rintro e w5 ⟨rfl, hd⟩; have HD := Lib.hid hd; clear hd)))
              go_roundg g'
              case measure => omega
              case rel =>
                refine ⟨m', j + 1, A1, n1, c1, y, by omega, by omega, by go_num, rfl, ⟨(h3.out.trans HM2.out.below).trans ((Moved.of_below (v := .slice none 0 0) (p := p) HD.out.below HQ2.out.own.2.2.1).below)⟩, ⟨HQ2.out.below HD.out.below⟩, ⟨HN1.out, HC1.out, by have := HF1.out; rw [HA2.out] at this; exact Kd.F_step this (fun k _ hlt => HD.out.below.block k hlt)⟩, ⟨fun _ => by rw [Nat.add_sub_cancel]; exact HYE.out⟩⟩
def gessolaw15_WalkFirst.f (deep : Bool) (l : List (List ByteArray)) : Option Bool := some true
theorem gessolaw15_WalkFirst.calls (deep : Bool) (A0 : Option Addr) (c0 : Nat) (l0 : List (List ByteArray)) (r : Bool) (w : World) (hr0 : Kd.C (Kd.slice 9 Kd.string) w A0 l0.length l0) (hc0 : l0.length ≤ c0) (h : gessolaw15_WalkFirst.f deep l0 = some r) :
    Calls Try.prog 7 #[.bool deep, .slice A0 l0.length c0] w fun e w' => e = .returned (.bool r) ∧ Below w.heap.size w w' := by
  obtain rfl := Option.some.inj h
  cases hL : lightB l0
  · exact first_far deep l0 A0 l0.length c0 w rfl hr0 hc0 (.inl hL)
  · rcases Nat.lt_or_ge 100 l0.length with h1 | h1
    · exact first_far deep l0 A0 l0.length c0 w rfl hr0 hc0 (.inr h1)
    · exact first_any deep l0 A0 l0.length c0 w rfl hr0 hc0 hL h1
end Go.Proofs.Ytomhpfgibekmfaa.P
