/- The law ScanBytes: its call comes to true. No condition. -/
import Derived.Test.YtjlhehaagaaihaaDoorGf
namespace Go.Proofs.YtjlhehaagaaihaaDoor.P
open Go.RowKit Go.Lib Go.Proofs.YtjlhehaagaaihaaDoorW.PrintWords Go.Proofs.YtjlhehaagaaihaaDoorW.PrintLast Go.Proofs.YtjlhehaagaaihaaDoorW.PrintMore Go.Proofs.YtjlhehaagaaihaaDoor.Pure
attribute [local go_sem] max2_int min2_int max_two min_two max_three min_three max_four min_four run_fld0 run_fld1 run_fld2
set_option linter.unusedVariables false
set_option linter.unusedSimpArgs false

theorem F_one {W : World} {ok : Nat → Prop} {A : Option Addr} {n c : Nat} {l : List Int} (h : Kd.F (Kd.int .u8) W ok A n l) (hn : l.length = n) (hc : n ≤ c) (i : Nat) (hi : i < n) :
    ∃ A' c', (∀ W' : World, (Instr.slice 23 (.slice A n c) (some (.int .i64 (i : Int))) (some (.int .i64 ((i : Int) + 1))) none).run Tryd.prog W' = .ok (.slice A' 1 c') W') ∧ Kd.F (Kd.int .u8) W ok A' 1 [l.getD i 0] ∧ 1 ≤ c' := by
  subst hn
  obtain ⟨i013, hi013, _, hsz13, _⟩ := info_parts info5
  have hu : Tryd.prog.underlying 23 = some (.slice (Tryd.prog.elem 23)) := by kernel_rfl
  have hel : Tryd.prog.elem 23 = 5 := by kernel_rfl
  have hr13 := Kd.F_mid (lo := i) (hi := i + 1) (c := c) h (by omega) (by omega) hc
  rw [show (Kd.int .u8).sz = 1 from rfl] at hr13
  have e : (l.take (i + 1)).drop i = [l.getD i 0] := by
    rw [List.drop_take, show i + 1 - i = 1 by omega]
    have := List.drop_eq_getElem_cons hi
    rw [this, List.take_succ_cons, List.take_zero]
    simp [List.getD, List.getElem?_eq_getElem hi]
  rw [e] at hr13
  refine ⟨(if c = i then A else A.map (·.add (i * 1))), c - i, fun W' => ?_, hr13, by omega⟩
  rw [run_slice_lh W' 23 A l.length c hu .i64 .i64 (i : Int) ((i : Int) + 1) (by omega) (by omega) (by omega), hel]
  have e1 : ((i : Int) + 1).toNat = i + 1 := by omega
  simp [sizeOf, typeInfo, hi013, hsz13, sliced, Result.andThen, e1]
theorem take_next (l : List Int) (i : Nat) (h : i < l.length) : l.take i ++ [l.getD i 0] = l.take (i + 1) := by
  rw [List.take_add_one, List.getD]
  simp [List.getElem?_eq_getElem h]

theorem below_alloc2 (w : World) (o1 o2 : Obj) : Below w.heap.size w ((w.alloc o1).alloc o2) := ((Below.refl _ _).alloc (Nat.le_refl _) _).alloc (by simp) _
theorem new_at (W0 w : World) (hB : Below W0.heap.size W0 w) : Calls Tryd.prog 34 #[] w fun e w' => ∃ p : Nat, e = .returned (.pointer (some ⟨p, 0, none⟩)) ∧ w.heap.size ≤ p ∧ Below W0.heap.size W0 w' ∧ Below w.heap.size w w' ∧ OfAt w' p [] (fun _ => False) :=
  (new_of w).mono fun e w' ⟨p, he, hp, hb, hs⟩ => ⟨p, he, hp, below_step hB hb, hb, hs⟩
theorem OfAt.lt {w : World} {p : Nat} {a : List Int} {ok : Nat → Prop} (h : OfAt w p a ok) : p < w.heap.size := ScanAt.lt h
theorem OfAt.other {w w1 : World} {p q : Nat} {a a' : List Int} {ok ok' : Nat → Prop} (h : OfAt w p a ok) (h' : OfAt w q a' ok') (hne : p ≠ q) (hg : w.grownBy w1 (some q)) : OfAt w1 p a ok := ScanAt.other h h' hne hg
set_option maxHeartbeats 400000 in
set_option maxRecDepth 100000 in
theorem bytes_long (A0 : Option Addr) (n0 c0 : Nat) (W0 : World) (hT : Tabs W0) (hl : 2000 < n0) (hl' : n0 ≤ 9223372036854775807) :
    Calls Tryd.prog 13 #[.slice A0 n0 c0] W0 fun e w' => e = .returned (.bool true) ∧ Below W0.heap.size W0 w' := by
  have hlz : (2000 : Int) < (n0 : Int) := by omega
  go_enter Tryd.func13, Tryd.ntmps13
  go_wp2_with (go_at_call 33; ((with_reducible refine (scan_awake_any _ hT).mono ?_); rintro e w9 ⟨rfl, hb9⟩))
  go_ret
  exact ⟨rfl, hb9⟩

set_option maxHeartbeats 2000000 in
set_option maxRecDepth 100000 in
theorem bytes_any (A0 : Option Addr) (n0 c0 : Nat) (l0 : List Int) (W0 : World) (hT : Tabs W0) (hn0 : l0.length = n0) (hr0 : Kd.C (Kd.int .u8) W0 A0 n0 l0) (hc0 : n0 ≤ c0) (hb0 : Bytes l0) (hl : n0 ≤ 2000) :
    Calls Tryd.prog 13 #[.slice A0 n0 c0] W0 fun e w' => e = .returned (.bool true) ∧ Below W0.heap.size W0 w' := by
  have hu59 := Tryd.underlying59
  have hu78 := Tryd.underlying78
  have HF0 := Lib.hid (Kd.C_F (Kd.heap_int .u8) hr0)
  have HX0 := Lib.hid hb0
  have HN0 := Lib.hid hn0
  have hlz : ¬ ((2000 : Int) < (n0 : Int)) := by omega
  obtain ⟨k, hk⟩ := (fault_ev l0 hb0 (by omega)).rounds
  obtain ⟨f, hf⟩ : ∃ f, faultN l0 = f := ⟨_, rfl⟩
  rw [hf] at hk
  have HFL := Lib.hid hf
  have hff2 : (f == f) = true := by simp
  have hcf : ∀ W : World, Below W0.heap.size W0 W → Calls Tryd.prog 20 #[.slice A0 n0 c0] W fun e w' => e = .returned (.int .i64 f) ∧ Below W0.heap.size W0 w' := fun W hB => by
    have h_ := HN0.out
    subst h_
    exact (code_Fault.calls k A0 c0 l0 f W ⟨hT.below hB⟩ (Kd.F_now (Kd.F_below HF0.out hB)) hc0 hk).mono fun e w' ⟨he, hb⟩ => ⟨he, below_step hB hb⟩
  have HCF := Lib.hid hcf
  clear hr0 hb0 hn0 hf hk hcf
  have TF0 := True.intro
  go_enter Tryd.func13, Tryd.ntmps13
  go_wp2_with (first
    | (go_at_call 34; (have _t := TF0); ((with_reducible refine (new_of _).mono ?_); rintro e w1 ⟨p, rfl, hp1, hb1, hs1⟩; have HP := Lib.hid hp1; have HB1 := Lib.hid hb1; have HS1 := Lib.hid hs1; clear hp1 hb1 hs1 TF0 _t))
    | (go_at_call 34; ((with_reducible refine (new_at W0 _ HB1.out).mono ?_); rintro e w2 ⟨q, rfl, hq, hb2, hb3, hs2⟩; have HPQ := Lib.hid (show p ≠ q from fun e => by have := HS1.out.lt; omega); have HQ := Lib.hid (Nat.le_trans HB1.out.size hq); have HS1b := Lib.hid (HS1.out.below hb3); have HB2 := Lib.hid hb2; have HS2 := Lib.hid hs2; clear hq hb2 hb3 hs2 HB1 HS1)))
  obtain ⟨wl, rfl⟩ : ∃ wl : World, wl = w2 := ⟨_, rfl⟩
  go_loopg [5] (n0 + 1) (fun gk s5 wx => ∃ i : Nat, i + gk = n0 + 1 ∧ i ≤ n0 ∧ s5 = .int .i64 (i : Int) ∧ Aside0 (Below W0.heap.size W0 wx) ∧ Aside0 (OfAt wx p (l0.take i) (fun k => True)) ∧ Aside0 (OfAt wx q [] (fun _ => False)))
  case atStart => exact ⟨0, by omega, by omega, rfl, ⟨HB2.out⟩, ⟨HS1b.out.mono (fun _ _ => trivial)⟩, ⟨HS2.out⟩⟩
  case round =>
    obtain ⟨i, hik, hin, rfl, HB, HS, HT⟩ := hrel
    clear HB2 HS1b HS2
    by_cases hlt : i < n0
    · have hltz : (i : Int) < (n0 : Int) := by omega
      obtain ⟨g', rfl⟩ : ∃ g', gk = g' + 1 := ⟨gk - 1, by omega⟩
      obtain ⟨A1, c1, hcut, hF1, hc1⟩ := F_one (Kd.F_below HF0.out HB.out) HN0.out hc0 i hlt
      have HF1 := Lib.hid hF1
      have hti := take_next l0 i (by rw [HN0.out]; exact hlt)
      have hbi := bad_le (l0.take (i + 1)) (HX0.out.take _)
      obtain ⟨L, hL⟩ : ∃ L, (ofPend (l0.take (i + 1))).length = L := ⟨_, rfl⟩
      obtain ⟨B, hB⟩ : ∃ B, ofBad (l0.take (i + 1)) = B := ⟨_, rfl⟩
      have hL3 : ¬ ((3 : Int) < (L : Int)) := by omega
      have HLL := Lib.hid hL
      have HBB := Lib.hid hB
      have HTI := Lib.hid hti
      have hlen : ((l0.take (i + 1)).length : Int) = (i : Int) + 1 := by rw [List.length_take, HN0.out]; omega
      have HLEN := Lib.hid hlen
      have hii : (((i : Int) + 1) != ((i : Int) + 1)) = false := by simp
      have hone : Bytes [l0.getD i 0] := fun z hz => by
        have := HX0.out.at i
        rw [List.mem_singleton.1 hz]
        exact this
      have HONE := Lib.hid hone
      have TG0 := True.intro
      clear hF1 hti hbi hL hB hlen hone
      go_wp2_with (first
        | (go_at_call 36; (have _t := TG0); ((with_reducible refine (feed_of (l0.take i) [l0.getD i 0] p _ _ A1 c1 1 W0 _ rfl hT HB.out HP.out HS.out HF1.out (fun k hk => by have := HP.out; omega) hc1 (HX0.out.take i) HONE.out (by rw [List.length_take, List.length_singleton]; omega)).mono ?_); rintro e w3 ⟨rfl, hg3, hb3, hs3⟩; have HT3 := Lib.hid (HT.out.other HS.out (fun e => HPQ.out e.symm) hg3); rw [HTI.out] at hs3; have HB3 := Lib.hid hb3; have HS3 := Lib.hid hs3; clear hg3 hb3 hs3 TG0 _t HB HS HT; have TG1 := True.intro))
        | (go_at_call 40; (have _t := TG1); ((with_reducible refine (state_of p _ _ B L (HX0.out.take _) HLEN.out HBB.out HLL.out _ _ HS3.out).mono ?_); rintro e w4 ⟨A4, c4, rfl, hf4⟩; have HB4 := Lib.hid (below_step HB3.out hf4.2); have HS4 := Lib.hid (HS3.out.below hf4.2); have HT4 := Lib.hid (HT3.out.below hf4.2); clear hf4 TG1 _t HB3 HS3 HT3; have TG2 := True.intro))
        | (go_at_call 40; (have _t := TG2); ((with_reducible refine (state_of p _ _ B L (HX0.out.take _) HLEN.out HBB.out HLL.out _ _ HS4.out).mono ?_); rintro e w5 ⟨A5, c5, rfl, hf5⟩; have HB5 := Lib.hid (below_step HB4.out hf5.2); have HS5 := Lib.hid (HS4.out.below hf5.2); have HT5 := Lib.hid (HT4.out.below hf5.2); clear hf5 TG2 _t HB4 HS4 HT4)))
      go_roundg g'
      case measure => omega
      case rel => exact ⟨i + 1, by omega, by omega, by go_num, ⟨HB5.out⟩, ⟨HS5.out.mono (fun _ _ => trivial)⟩, ⟨HT5.out⟩⟩
    · have hltz : ¬ ((i : Int) < (n0 : Int)) := by omega
      obtain rfl : i = n0 := by omega
      have hS := HS.out
      rw [List.take_of_length_le (by rw [HN0.out]; exact Nat.le_refl _)] at hS
      have HS0 := Lib.hid hS
      have hbi := bad_le l0 HX0.out
      obtain ⟨L, hL⟩ : ∃ L, (ofPend l0).length = L := ⟨_, rfl⟩
      obtain ⟨B, hB⟩ : ∃ B, ofBad l0 = B := ⟨_, rfl⟩
      have HLL := Lib.hid hL
      have HBB := Lib.hid hB
      have HLEN := Lib.hid (show (l0.length : Int) = (i : Int) by rw [HN0.out])
      have hBB2 : (B == B) = true := by simp
      obtain ⟨PS, hPS⟩ : ∃ PS, strOfNums (ofPend l0) = PS := ⟨_, rfl⟩
      have HPS := Lib.hid hPS
      have hPS2 : (PS.toList == PS.toList) = true := by simp
      have TG0 := True.intro
      clear hS hbi hL hB hPS HS hlt hik
      go_wp2_with (first
        | (go_at_call 36; (have _t := TG0); ((with_reducible refine (feed_of [] l0 q _ _ A0 c0 i W0 _ HN0.out hT HB.out HQ.out HT.out (Kd.F_below HF0.out HB.out) (fun k hk => by have := HQ.out; omega) hc0 bytes_nil HX0.out (by have := HN0.out; rw [List.length_nil]; omega)).mono ?_); rintro e w3 ⟨rfl, hg3, hb3, hs3⟩; have HS3 := Lib.hid (HS0.out.other HT.out HPQ.out hg3); rw [List.nil_append] at hs3; have HB3 := Lib.hid hb3; have HT3 := Lib.hid hs3; clear hg3 hb3 hs3 TG0 _t HB HS0 HT; have TG1 := True.intro))
        | (go_at_call 40; (have _t := TG1); ((with_reducible refine (state_of p _ _ B L HX0.out HLEN.out HBB.out HLL.out _ _ HS3.out).mono ?_); rintro e w4 ⟨A4, c4, rfl, hf4⟩; have HB4 := Lib.hid (below_step HB3.out hf4.2); have HS4 := Lib.hid (HS3.out.below hf4.2); have HT4 := Lib.hid (HT3.out.below hf4.2); have HR4 := Lib.hid hf4.1; clear hf4 TG1 _t HB3 HS3 HT3; have TG2 := True.intro))
        | (go_at_call 40; (have _t := TG2); ((with_reducible refine (state_of q _ _ B L HX0.out HLEN.out HBB.out HLL.out _ _ HT4.out).mono ?_); rintro e w5 ⟨A5, c5, rfl, hf5⟩; have HB5 := Lib.hid (below_step HB4.out hf5.2); have HS5 := Lib.hid (HS4.out.below hf5.2); have hcv1 : ∀ o1 o2 : Obj, Sem.run Tryd.prog (convert 23 9 (.slice A4 L c4)) ((w5.alloc o1).alloc o2) = Result.ok (Value.string PS) ((w5.alloc o1).alloc o2) := (fun o1 o2 => HPS.out ▸ own_string (P := Tryd.prog) Tryd.underlying23 Tryd.underlying5 Tryd.underlying9 (Kd.own_of_R (Kd.R_alloc (Kd.R_alloc (Kd.R_below HR4.out hf5.2) o1) o2))); have hcv2 : ∀ o1 o2 : Obj, Sem.run Tryd.prog (convert 23 9 (.slice A5 L c5)) ((w5.alloc o1).alloc o2) = Result.ok (Value.string PS) ((w5.alloc o1).alloc o2) := (fun o1 o2 => HPS.out ▸ own_string (P := Tryd.prog) Tryd.underlying23 Tryd.underlying5 Tryd.underlying9 (Kd.own_of_R (Kd.R_alloc (Kd.R_alloc hf5.1 o1) o2))); clear hf5 TG2 _t HB4 HS4 HT4; have TG3 := True.intro))
        | (go_at_call 39; (have _t := TG3); ((with_reducible refine (end_of_ p l0 f HX0.out (by have := HN0.out; omega) HFL.out _ _ (HS5.out.below (below_alloc2 _ _ _))).mono ?_); rintro e w6 ⟨rfl, n6, rfl⟩))
        | (go_at_call 20; (have _t := TG3); ((with_reducible refine (HCF.out _ (pw_below_drewN (below_step HB5.out (below_alloc2 _ _ _)) _)).mono ?_); rintro e w7 ⟨rfl, hb7⟩; have HB7 := Lib.hid hb7; clear hb7))
        | (go_at_call 33; ((with_reducible refine (scan_awake_any _ (hT.below HB7.out)).mono ?_); rintro e w9 ⟨rfl, hb9⟩; have HB9 := Lib.hid (below_step HB7.out hb9); clear hb9)))
      go_ret
      exact ⟨rfl, HB9.out⟩
def gessolaw02_ScanBytes.f (l0 : List Int) : Option Bool := if allb l0 = true then some true else none
theorem gessolaw02_ScanBytes.calls (A0 : Option Addr) (c0 : Nat) (l0 : List Int) (r : Bool) (w : World) (HTb_ : Aside0 (Tabs w)) (hr0 : Kd.C (Kd.int .u8) w A0 l0.length l0) (hc0 : l0.length ≤ c0) (h : gessolaw02_ScanBytes.f l0 = some r) :
    Calls Tryd.prog 13 #[.slice A0 l0.length c0] w fun e w' => e = .returned (.bool r) ∧ Below w.heap.size w w' := by
  unfold gessolaw02_ScanBytes.f at h
  split at h
  · rename_i hh
    obtain rfl := Option.some.inj h
    by_cases hl : l0.length ≤ 2000
    · exact bytes_any A0 l0.length c0 l0 w HTb_.out rfl hr0 hc0 (bytes_allb hh) hl
    · exact bytes_long A0 l0.length c0 w HTb_.out (by omega) (Kd.reads_of_C (d := (0 : Int)) hr0).2.1
  · cases h
end Go.Proofs.YtjlhehaagaaihaaDoor.P
