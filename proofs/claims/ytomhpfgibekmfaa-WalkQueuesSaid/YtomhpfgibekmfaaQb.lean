/- The heap of paths: up, down, Push, Pop. No condition. -/
import Derived.Test.YtomhpfgibekmfaaQa
import Derived.Deep.LoopGhost
namespace Go.Proofs.Ytomhpfgibekmfaa.P
open Go.RowKit Go.Lib Go.Proofs.YtomhpfgibekmfaaW.PrintWords Go.Proofs.YtomhpfgibekmfaaW.PrintLast Go.Proofs.YtomhpfgibekmfaaW.PrintMore Go.Proofs.Ytomhpfgibekmfaa.Pure
set_option linter.unusedVariables false
set_option linter.unusedSimpArgs false
theorem qlessZ {base : Nat} {ok : Nat → Prop} {w : World} {p : Nat} {deep : Bool} {A : Option Addr} {n c : Nat} {H : List Pth} (h : QAt base ok w p deep A n c H) (i j : Nat) {a b : Int} (ha : a = (i : Int)) (hb : b = (j : Int)) (hi : i < n) (hj : j < n) :
    Calls Try.prog 61 #[.pointer (some ⟨p, 0, none⟩), .int .i64 a, .int .i64 b] w fun e w' => e = .returned (.bool (bf deep (ga H i) (ga H j))) ∧ QAt base ok w' p deep A n c H ∧ Drawn0 w w' := by
  subst ha
  subst hb
  exact qless h i j hi hj
theorem qswapZ {base : Nat} {ok : Nat → Prop} {w : World} {p : Nat} {deep : Bool} {A : Option Addr} {n c : Nat} {H : List Pth} (h : QAt base ok w p deep A n c H) (i j : Nat) {a b : Int} (ha : a = (i : Int)) (hb : b = (j : Int)) (hi : i < n) (hj : j < n) :
    Calls Try.prog 64 #[.pointer (some ⟨p, 0, none⟩), .int .i64 a, .int .i64 b] w fun e w' => e = .returned (.tuple #[]) ∧ QAt base ok w' p deep A n c (sw H i j) ∧ Moved base w w' p (.slice A n c) (.slice A n c) := by
  subst ha
  subst hb
  exact qswap h i j hi hj
theorem ga_swap_ge {H : List Pth} {i j m : Nat} (hm : m ≤ H.length) (hi : i < m) (hj : j < m) (k : Nat) (hk : m ≤ k) : ga (sw H i j) k = ga H k := by
  rw [ga_sw (by omega) (by omega), if_neg (by omega), if_neg (by omega)]
/-- The round of 'down' behind the choice of the child. -/
theorem QAt.base_le {base : Nat} {ok : Nat → Prop} {w : World} {p : Nat} {deep : Bool} {A : Option Addr} {n c : Nat} {H : List Pth} (h : QAt base ok w p deep A n c H) : base ≤ w.heap.size := Nat.le_of_lt (Nat.lt_of_le_of_lt h.hp h.lt)
theorem m_Less (p : Nat) (w : World) : (method 193 53 (.pointer (some ⟨p, 0, none⟩)) "Less").run Try.prog w = .ok (61, .pointer (some ⟨p, 0, none⟩)) w := by kernel_rfl
theorem m_Swap (p : Nat) (w : World) : (method 193 53 (.pointer (some ⟨p, 0, none⟩)) "Swap").run Try.prog w = .ok (64, .pointer (some ⟨p, 0, none⟩)) w := by kernel_rfl
theorem m_Push (p : Nat) (w : World) : (method 193 53 (.pointer (some ⟨p, 0, none⟩)) "Push").run Try.prog w = .ok (63, .pointer (some ⟨p, 0, none⟩)) w := by kernel_rfl
theorem m_Pop (p : Nat) (w : World) : (method 193 53 (.pointer (some ⟨p, 0, none⟩)) "Pop").run Try.prog w = .ok (62, .pointer (some ⟨p, 0, none⟩)) w := by kernel_rfl
theorem m_Len (p : Nat) (w : World) : (method 193 53 (.pointer (some ⟨p, 0, none⟩)) "Len").run Try.prog w = .ok (33, .pointer (some ⟨p, 0, none⟩)) w := by kernel_rfl
set_option maxHeartbeats 1000000 in
set_option maxRecDepth 100000 in
theorem up_any {base : Nat} {ok : Nat → Prop} {w : World} {p : Nat} {deep : Bool} {A : Option Addr} {n c : Nat} {H : List Pth} (hQ : QAt base ok w p deep A n c H) (j : Nat) (hj : j < n) (hn : n ≤ 1099511627776) (hI : upI deep H n j) :
    Calls Try.prog 38 #[.iface 53 (.pointer (some ⟨p, 0, none⟩)), .int .i64 j] w fun e w' => e = .returned (.tuple #[]) ∧ ∃ H', H'.Perm H ∧ heapN deep H' n ∧ QAt base ok w' p deep A n c H' ∧ Moved base w w' p (.slice A n c) (.slice A n c) := by
  have HI := Lib.hid hI
  have HQ := Lib.hid hQ
  have hbp : base ≤ w.heap.size := Nat.le_of_lt (Nat.lt_of_le_of_lt hQ.hp hQ.lt)
  have HM := Lib.hid (Moved.of_below (v := .slice A n c) (p := p) (Below.refl w.heap.size w) hbp)
  have HL := Lib.hid hQ.len
  have hm1 := m_Less p
  have hm2 := m_Swap p
  clear hI hQ
  go_enter Try.func38, Try.ntmps38
  go_wp2
  go_loopg [1] (n + 1) (fun gk v1 wx => ∃ (jj : Nat) (H' : List Pth), jj < gk ∧ jj < n ∧ v1 = .int .i64 (jj : Int) ∧ Aside0 (H'.Perm H) ∧ Aside0 (upI deep H' n jj) ∧ Aside0 (QAt base ok wx p deep A n c H') ∧ Aside0 (Moved base w wx p (.slice A n c) (.slice A n c)))
  case atStart => exact ⟨j, H, by omega, hj, rfl, ⟨List.Perm.refl _⟩, ⟨HI.out⟩, ⟨HQ.out⟩, ⟨HM.out⟩⟩
  case round =>
    obtain ⟨jj, H', h1, h2, rfl, h3, h4, h5, h6⟩ := hrel
    obtain ⟨g', rfl⟩ : ∃ g', gk = g' + 1 := ⟨gk - 1, by omega⟩
    clear HI HQ HM
    rcases Nat.eq_zero_or_pos jj with h0 | h0
    · subst h0
      go_wp2
      exact bodyPost_end (v := .tuple #[]) (by simp [results, Try.results38, go_sem]) rfl ⟨rfl, H', h3.out, up_zero h4.out, h5.out, h6.out⟩
    · obtain ⟨i, hi⟩ : ∃ i, (jj - 1) / 2 = i := ⟨_, rfl⟩
      have hq : ((jj : Int) - 1).tdiv 2 = (i : Int) := by rw [Int.tdiv_eq_ediv_of_nonneg (by omega)]; omega
      have hne : ((i : Int) = (jj : Int)) = False := eq_false (by omega)
      have hq9 : (jj : Int) ≤ 1099511627776 := by omega
      have hjz : (0 : Int) < (jj : Int) := by omega
      cases hb : bf deep (ga H' jj) (ga H' i)
      · go_wp2_with (first | (go_at_call 61; ((with_reducible refine (qless h5.out jj i h2 (by omega)).mono ?_); rintro e w1 ⟨rfl, hq1, hd1⟩; have HQ1 := Lib.hid hq1; have HD1 := Lib.hid hd1; clear hq1 hd1)))
        exact bodyPost_end (v := .tuple #[]) (by simp [results, Try.results38, go_sem]) rfl ⟨rfl, H', h3.out, up_stop h4.out (by rw [hi]; exact hb), HQ1.out, h6.out.trans (Moved.of_below HD1.out.below h5.out.base_le)⟩
      · go_wp2_with (first | (go_at_call 61; ((with_reducible refine (qless h5.out jj i h2 (by omega)).mono ?_); rintro e w1 ⟨rfl, hq1, hd1⟩; have HQ1 := Lib.hid hq1; have HD1 := Lib.hid hd1; clear hq1 hd1)) | (go_at_call 64; ((with_reducible refine (qswap HQ1.out i jj (by omega) h2).mono ?_); rintro e w2 ⟨rfl, hq2, hd2⟩; have HQ2 := Lib.hid hq2; have HD2 := Lib.hid hd2; clear hq2 hd2)))
        have hl := h5.out.len
        go_roundg g'
        case measure => omega
        case rel =>
          refine ⟨i, sw H' i jj, by omega, by omega, rfl, ⟨(sw_perm (by omega) (by omega)).trans h3.out⟩, ⟨?_⟩, ⟨HQ2.out⟩, ⟨(h6.out.trans (Moved.of_below HD1.out.below h5.out.base_le)).trans HD2.out⟩⟩
          have := up_step (by omega) h2 h0 h4.out (by rw [hi]; exact hb)
          rw [hi] at this
          exact this
set_option maxHeartbeats 2000000 in
set_option maxRecDepth 100000 in
theorem down_any {base : Nat} {ok : Nat → Prop} {w : World} {p : Nat} {deep : Bool} {A : Option Addr} {n c : Nat} {H : List Pth} (hQ : QAt base ok w p deep A n c H) (i0 m : Nat) (hm : m ≤ n) (hi : i0 ≤ m) (hn : n ≤ 1099511627776) (hI : dnI deep H m i0) :
    Calls Try.prog 39 #[.iface 53 (.pointer (some ⟨p, 0, none⟩)), .int .i64 i0, .int .i64 m] w fun e w' => (∃ b, e = .returned (.bool b)) ∧ ∃ H', H'.Perm H ∧ heapN deep H' m ∧ (∀ k, m ≤ k → ga H' k = ga H k) ∧ QAt base ok w' p deep A n c H' ∧ Moved base w w' p (.slice A n c) (.slice A n c) := by
  have HI := Lib.hid hI
  have HQ := Lib.hid hQ
  have HM := Lib.hid (Moved.of_below (v := .slice A n c) (p := p) (Below.refl w.heap.size w) hQ.base_le)
  have hm1 := m_Less p
  have hm2 := m_Swap p
  clear hI hQ
  go_enter Try.func39, Try.ntmps39
  go_wp2
  go_loopg [7] (m + 1) (fun gk v7 wx => ∃ (i : Nat) (H' : List Pth), m < i + gk ∧ i ≤ m ∧ v7 = .int .i64 (i : Int) ∧ Aside0 (H'.Perm H) ∧ Aside0 (dnI deep H' m i) ∧ Aside0 (∀ k, m ≤ k → ga H' k = ga H k) ∧ Aside0 (QAt base ok wx p deep A n c H') ∧ Aside0 (Moved base w wx p (.slice A n c) (.slice A n c)))
  case atStart => exact ⟨i0, H, by omega, hi, rfl, ⟨List.Perm.refl _⟩, ⟨HI.out⟩, ⟨fun _ _ => rfl⟩, ⟨HQ.out⟩, ⟨HM.out⟩⟩
  case round =>
    obtain ⟨i, H', h1, h2, rfl, h3, h4, h7, h5, h6⟩ := hrel
    obtain ⟨g', rfl⟩ : ∃ g', gk = g' + 1 := ⟨gk - 1, by omega⟩
    clear HI HQ HM
    obtain ⟨j1, hj1⟩ : ∃ j, j = 2 * i + 1 := ⟨_, rfl⟩
    have e1 : 2 * (i : Int) + 1 = (j1 : Int) := by omega
    have E1 := Lib.hid e1
    have hgez : (2 * (i : Int) + 1 ≥ (m : Int)) ↔ m ≤ j1 := by omega
    clear e1
    have hi9 : (i : Int) ≤ 1099511627776 := by omega
    have hj9 : (j1 : Int) ≤ 2199023255553 := by omega
    have hj8 : (0 : Int) ≤ (j1 : Int) := by omega
    have hj0 : ((j1 : Int) < 0) = False := eq_false (by omega)
    by_cases hge : m ≤ j1
    · have hgex : ((m : Int) ≤ 2 * (i : Int) + 1) := by omega
      clear hgez
      go_wp2
      exact bodyPost_ret (v := .bool (decide (i0 < i))) (by simp [results, Try.results39, go_sem]) rfl ⟨⟨_, rfl⟩, H', h3.out, dn_end h4.out (by omega), h7.out, h5.out, h6.out⟩
    · have hltz : ¬ ((m : Int) ≤ 2 * (i : Int) + 1) := by omega
      have hpos : ¬ (2 * (i : Int) + 1 < 0) := by omega
      clear hgez hj0
      have hl := h5.out.len
      by_cases h22 : 2 * i + 2 < m
      · have h22z : 2 * (i : Int) + 1 + 1 < (m : Int) := by omega
        cases hb2 : bf deep (ga H' (2 * i + 2)) (ga H' (2 * i + 1))
        · have hc : ∀ k, 0 < k → k < m → (k - 1) / 2 = i → le deep (ga H' (2 * i + 1)) (ga H' k) := by
            intro k k0 k1 k2
            obtain rfl | rfl : k = 2 * i + 1 ∨ k = 2 * i + 2 := by omega
            · exact le_refl _ _
            · exact hb2
          cases hb3 : bf deep (ga H' (2 * i + 1)) (ga H' i)
          · go_wp2_with (first | (go_at_call 61; ((with_reducible refine (qlessZ h5.out (2 * i + 2) (2 * i + 1) (by omega) (by omega) (by omega) (by omega)).mono ?_); rintro e w1 ⟨rfl, hq, hd⟩; have HQ1 := Lib.hid hq; have HD1 := Lib.hid hd; clear hq hd)) | (go_at_call 61; ((with_reducible refine (qlessZ HQ1.out (2 * i + 1) (i) (by omega) (by omega) (by omega) (by omega)).mono ?_); rintro e w2 ⟨rfl, hq, hd⟩; have HQ2 := Lib.hid hq; have HD2 := Lib.hid hd; clear hq hd)))
            exact bodyPost_ret (v := .bool (decide (i0 < i))) (by simp [results, Try.results39, go_sem]) rfl ⟨⟨_, rfl⟩, H', h3.out, dn_stop h4.out hc hb3, h7.out, HQ2.out, (h6.out.trans (Moved.of_below HD1.out.below h5.out.base_le)).trans (Moved.of_below HD2.out.below HQ1.out.base_le)⟩
          · go_wp2_with (first | (go_at_call 61; ((with_reducible refine (qlessZ h5.out (2 * i + 2) (2 * i + 1) (by omega) (by omega) (by omega) (by omega)).mono ?_); rintro e w1 ⟨rfl, hq, hd⟩; have HQ1 := Lib.hid hq; have HD1 := Lib.hid hd; clear hq hd)) | (go_at_call 61; ((with_reducible refine (qlessZ HQ1.out (2 * i + 1) (i) (by omega) (by omega) (by omega) (by omega)).mono ?_); rintro e w2 ⟨rfl, hq, hd⟩; have HQ2 := Lib.hid hq; have HD2 := Lib.hid hd; clear hq hd)) | (go_at_call 64; ((with_reducible refine (qswapZ HQ2.out (i) (2 * i + 1) (by omega) (by omega) (by omega) (by omega)).mono ?_); rintro e w3 ⟨rfl, hq, hd⟩; have HQ3 := Lib.hid hq; have HD3 := Lib.hid hd; clear hq hd)))
            go_roundg g'
            case measure => omega
            case rel =>
              refine ⟨2 * i + 1, sw H' i (2 * i + 1), by omega, by omega, by go_num, ⟨(sw_perm (by omega) (by omega)).trans h3.out⟩, ⟨dn_step (by omega) (by omega) (by omega) (by omega) h4.out hc hb3⟩, ⟨fun k hk => (ga_swap_ge (m := m) (by omega) (by omega) (by omega) k hk).trans (h7.out k hk)⟩, ⟨HQ3.out⟩, ⟨((h6.out.trans (Moved.of_below HD1.out.below h5.out.base_le)).trans (Moved.of_below HD2.out.below HQ1.out.base_le)).trans HD3.out⟩⟩
        · have hc : ∀ k, 0 < k → k < m → (k - 1) / 2 = i → le deep (ga H' (2 * i + 2)) (ga H' k) := by
            intro k k0 k1 k2
            obtain rfl | rfl : k = 2 * i + 1 ∨ k = 2 * i + 2 := by omega
            · exact le_of hb2
            · exact le_refl _ _
          cases hb3 : bf deep (ga H' (2 * i + 2)) (ga H' i)
          · go_wp2_with (first | (go_at_call 61; ((with_reducible refine (qlessZ h5.out (2 * i + 2) (2 * i + 1) (by omega) (by omega) (by omega) (by omega)).mono ?_); rintro e w1 ⟨rfl, hq, hd⟩; have HQ1 := Lib.hid hq; have HD1 := Lib.hid hd; clear hq hd)) | (go_at_call 61; ((with_reducible refine (qlessZ HQ1.out (2 * i + 2) (i) (by omega) (by omega) (by omega) (by omega)).mono ?_); rintro e w2 ⟨rfl, hq, hd⟩; have HQ2 := Lib.hid hq; have HD2 := Lib.hid hd; clear hq hd)))
            exact bodyPost_ret (v := .bool (decide (i0 < i))) (by simp [results, Try.results39, go_sem]) rfl ⟨⟨_, rfl⟩, H', h3.out, dn_stop h4.out hc hb3, h7.out, HQ2.out, (h6.out.trans (Moved.of_below HD1.out.below h5.out.base_le)).trans (Moved.of_below HD2.out.below HQ1.out.base_le)⟩
          · go_wp2_with (first | (go_at_call 61; ((with_reducible refine (qlessZ h5.out (2 * i + 2) (2 * i + 1) (by omega) (by omega) (by omega) (by omega)).mono ?_); rintro e w1 ⟨rfl, hq, hd⟩; have HQ1 := Lib.hid hq; have HD1 := Lib.hid hd; clear hq hd)) | (go_at_call 61; ((with_reducible refine (qlessZ HQ1.out (2 * i + 2) (i) (by omega) (by omega) (by omega) (by omega)).mono ?_); rintro e w2 ⟨rfl, hq, hd⟩; have HQ2 := Lib.hid hq; have HD2 := Lib.hid hd; clear hq hd)) | (go_at_call 64; ((with_reducible refine (qswapZ HQ2.out (i) (2 * i + 2) (by omega) (by omega) (by omega) (by omega)).mono ?_); rintro e w3 ⟨rfl, hq, hd⟩; have HQ3 := Lib.hid hq; have HD3 := Lib.hid hd; clear hq hd)))
            go_roundg g'
            case measure => omega
            case rel =>
              refine ⟨2 * i + 2, sw H' i (2 * i + 2), by omega, by omega, by go_num, ⟨(sw_perm (by omega) (by omega)).trans h3.out⟩, ⟨dn_step (by omega) (by omega) (by omega) (by omega) h4.out hc hb3⟩, ⟨fun k hk => (ga_swap_ge (m := m) (by omega) (by omega) (by omega) k hk).trans (h7.out k hk)⟩, ⟨HQ3.out⟩, ⟨((h6.out.trans (Moved.of_below HD1.out.below h5.out.base_le)).trans (Moved.of_below HD2.out.below HQ1.out.base_le)).trans HD3.out⟩⟩
      · have h22z : ¬ (2 * (i : Int) + 1 + 1 < (m : Int)) := by omega
        have hc : ∀ k, 0 < k → k < m → (k - 1) / 2 = i → le deep (ga H' (2 * i + 1)) (ga H' k) := by
          intro k k0 k1 k2
          obtain rfl | rfl : k = 2 * i + 1 ∨ k = 2 * i + 2 := by omega
          · exact le_refl _ _
          · omega
        cases hb3 : bf deep (ga H' (2 * i + 1)) (ga H' i)
        · go_wp2_with (first | (go_at_call 61; ((with_reducible refine (qlessZ h5.out (2 * i + 1) (i) (by omega) (by omega) (by omega) (by omega)).mono ?_); rintro e w2 ⟨rfl, hq, hd⟩; have HQ2 := Lib.hid hq; have HD2 := Lib.hid hd; clear hq hd)))
          exact bodyPost_ret (v := .bool (decide (i0 < i))) (by simp [results, Try.results39, go_sem]) rfl ⟨⟨_, rfl⟩, H', h3.out, dn_stop h4.out hc hb3, h7.out, HQ2.out, (h6.out).trans (Moved.of_below HD2.out.below h5.out.base_le)⟩
        · go_wp2_with (first | (go_at_call 61; ((with_reducible refine (qlessZ h5.out (2 * i + 1) (i) (by omega) (by omega) (by omega) (by omega)).mono ?_); rintro e w2 ⟨rfl, hq, hd⟩; have HQ2 := Lib.hid hq; have HD2 := Lib.hid hd; clear hq hd)) | (go_at_call 64; ((with_reducible refine (qswapZ HQ2.out (i) (2 * i + 1) (by omega) (by omega) (by omega) (by omega)).mono ?_); rintro e w3 ⟨rfl, hq, hd⟩; have HQ3 := Lib.hid hq; have HD3 := Lib.hid hd; clear hq hd)))
          go_roundg g'
          case measure => omega
          case rel =>
            refine ⟨2 * i + 1, sw H' i (2 * i + 1), by omega, by omega, by go_num, ⟨(sw_perm (by omega) (by omega)).trans h3.out⟩, ⟨dn_step (by omega) (by omega) (by omega) (by omega) h4.out hc hb3⟩, ⟨fun k hk => (ga_swap_ge (m := m) (by omega) (by omega) (by omega) k hk).trans (h7.out k hk)⟩, ⟨HQ3.out⟩, ⟨((h6.out).trans (Moved.of_below HD2.out.below h5.out.base_le)).trans HD3.out⟩⟩
end Go.Proofs.Ytomhpfgibekmfaa.P
