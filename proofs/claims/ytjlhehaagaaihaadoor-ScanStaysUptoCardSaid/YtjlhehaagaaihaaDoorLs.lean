/- The law ScanStays: its call comes to true. No condition. -/
import Derived.Test.YtjlhehaagaaihaaDoorGf
namespace Go.Proofs.YtjlhehaagaaihaaDoor.P
open Go.RowKit Go.Lib Go.Proofs.YtjlhehaagaaihaaDoorW.PrintWords Go.Proofs.YtjlhehaagaaihaaDoorW.PrintLast Go.Proofs.YtjlhehaagaaihaaDoorW.PrintMore Go.Proofs.YtjlhehaagaaihaaDoor.Pure
attribute [local go_sem] max2_int min2_int max_two min_two max_three min_three max_four min_four run_fld0 run_fld1 run_fld2
set_option linter.unusedVariables false
set_option linter.unusedSimpArgs false

set_option maxHeartbeats 2000000 in
set_option maxRecDepth 100000 in
theorem stays_any (A0 A1 : Option Addr) (c0 c1 : Nat) (l0 l1 : List Int) (W0 : World) (hT : Tabs W0) (hr0 : Kd.C (Kd.int .u8) W0 A0 l0.length l0) (hc0 : l0.length ≤ c0) (hr1 : Kd.C (Kd.int .u8) W0 A1 l1.length l1) (hc1 : l1.length ≤ c1) (hb0 : Bytes l0) (hb1 : Bytes l1) (hl : l0.length + l1.length ≤ 1048576) :
    Calls Tryd.prog 12 #[.slice A0 l0.length c0, .slice A1 l1.length c1] W0 fun e w' => e = .returned (.bool true) ∧ Below W0.heap.size W0 w' := by
  have hu59 := Tryd.underlying59
  have hu78 := Tryd.underlying78
  have HF0 := Lib.hid (Kd.C_F (Kd.heap_int .u8) hr0)
  have HF1 := Lib.hid (Kd.C_F (Kd.heap_int .u8) hr1)
  have HC0 := Lib.hid hr0
  have HX0 := Lib.hid hb0
  have HX1 := Lib.hid hb1
  obtain ⟨n0, hn0⟩ : ∃ n0, l0.length = n0 := ⟨_, rfl⟩
  obtain ⟨n1, hn1⟩ : ∃ n1, l1.length = n1 := ⟨_, rfl⟩
  have HN0 := Lib.hid hn0
  have HN1 := Lib.hid hn1
  rw [hn0] at hl hc0 HF0 HC0
  rw [hn1] at hl hc1 HF1
  rw [hn0, hn1]
  clear hr0 hr1 hb0 hb1 hn0 hn1
  obtain ⟨f, hf⟩ : ∃ f, ofBad l0 = f := ⟨_, rfl⟩
  have HFB := Lib.hid hf
  clear hf
  by_cases hneg : f < 0
  · have hneg' : ¬ (0 ≤ f) := by omega
    have hneg2 : (f < (0 : Int)) := hneg
    go_enter Tryd.func12, Tryd.ntmps12
    go_wp2_with (first
      | (go_at_call 34; ((with_reducible refine (new_of _).mono ?_); rintro e w1 ⟨p, rfl, hp1, hb1, hs1⟩; have HP := Lib.hid hp1; have HB1 := Lib.hid hb1; have HS1 := Lib.hid hs1; clear hp1 hb1 hs1; have TF1 := True.intro))
      | (go_at_call 36; (have _t := TF1); ((with_reducible refine (feed_of [] l0 p _ _ A0 c0 n0 W0 _ HN0.out hT HB1.out HP.out HS1.out (Kd.F_below HF0.out HB1.out) (fun k hk => by have := HP.out; omega) hc0 bytes_nil HX0.out (by have := HN0.out; rw [List.length_nil]; omega)).mono ?_); rintro e w2 ⟨rfl, hg2, hb2, hs2⟩; rw [List.nil_append] at hs2; have HB2 := Lib.hid hb2; have HS2 := Lib.hid hs2; clear hg2 hb2 hs2 TF1; have TF2 := True.intro))
      | (go_at_call 38; (have _t := TF2); ((with_reducible refine (fault_of _ _ f HFB.out _ _ HS2.out).mono ?_); rintro e w3 ⟨rfl, rfl⟩))
      | (go_at_call 36; (have _t := TF2); ((with_reducible refine (feed_of l0 l1 p _ _ A1 c1 n1 W0 _ HN1.out hT HB2.out HP.out HS2.out (Kd.F_below HF1.out HB2.out) (fun k hk => by have := HP.out; omega) hc1 HX0.out HX1.out (by have := HN0.out; have := HN1.out; omega)).mono ?_); rintro e w4 ⟨rfl, hg4, hb4, hs4⟩; have HB4 := Lib.hid hb4; have HS4 := Lib.hid hs4; clear hg4 hb4 hs4 TF2; have TF3 := True.intro))
      | (go_at_call 40; (have _t := TF3); ((with_reducible refine (state_nil _).mono ?_); rintro e w5 ⟨rfl, hb5⟩; have HB5 := Lib.hid (below_step HB4.out hb5); clear hb5))
      | (go_at_call 36; (have _t := TF3); ((with_reducible refine (feed_nil _ _).mono ?_); rintro e w6 ⟨rfl, rfl⟩))
      | (go_at_call 38; (have _t := TF3); ((with_reducible refine (fault_nil _).mono ?_); rintro e w7 ⟨rfl, rfl⟩))
      | (go_at_call 39; (have _t := TF3); ((with_reducible refine (end_nil _).mono ?_); rintro e w8 ⟨rfl, n8, rfl⟩))
      | (go_at_call 33; ((with_reducible refine (scan_awake_any _ (hT.below (pw_below_drewN (HB5.out.alloc HB5.out.size _) _))).mono ?_); rintro e w9 ⟨rfl, hb9⟩; have HB9 := Lib.hid (below_step (pw_below_drewN (HB5.out.alloc HB5.out.size _) _) hb9); clear hb9)))
    go_ret
    exact ⟨rfl, HB9.out⟩
  · have hpos : 0 ≤ f := by omega
    have hneg2 : ¬ (f < (0 : Int)) := hneg
    have hff : (f != f) = false := by simp
    have hff2 : (f == f) = true := by simp
    have hB0 := bad_le l0 HX0.out
    rw [HFB.out] at hB0
    obtain ⟨q1, q2, q3⟩ := hB0.2.2.1 hpos
    have hN := next_bad l0 l1 HX0.out HX1.out (by rw [HFB.out]; exact hpos)
    have hE := end_of (l0 ++ l1) (HX0.out.append HX1.out)
    have hfl : faultN (l0 ++ l1) = f := by
      rw [← hE, hN.1, hN.2.2, HFB.out]
      unfold endOf
      rw [if_pos hpos]
    have HX := Lib.hid (HX0.out.append HX1.out)
    have HFL := Lib.hid hfl
    have HFB2 := Lib.hid (hN.1.trans HFB.out)
    have HPN := Lib.hid (show (ofPend (l0 ++ l1)).length = 0 by rw [hN.2.2]; rfl)
    have HLN := Lib.hid (show (l0 ++ l1).length ≤ 1048576 by have q1 := HN0.out; have q2 := HN1.out; rw [List.length_append]; omega)
    obtain ⟨sn, hsn⟩ : ∃ sn : Int, ((l0 ++ l1).length : Int) = sn := ⟨_, rfl⟩
    have HSN := Lib.hid hsn
    clear hsn
    obtain ⟨k, hk⟩ := (fault_ev l0 HX0.out (by have := HN0.out; omega)).rounds
    rw [← q3] at hk
    have hcf : ∀ W : World, Below W0.heap.size W0 W → Calls Tryd.prog 20 #[.slice A0 n0 c0] W fun e w' => e = .returned (.int .i64 f) ∧ Below W0.heap.size W0 w' := fun W hB => by
      have h_ := HN0.out
      subst h_
      exact (code_Fault.calls k A0 c0 l0 f W ⟨hT.below hB⟩ (Kd.F_now (Kd.F_below HF0.out hB)) hc0 hk).mono fun e w' ⟨he, hb⟩ => ⟨he, below_step hB hb⟩
    have HCF := Lib.hid hcf
    clear hcf hB0 q1 q2 q3 hN hE hfl hk
    go_enter Tryd.func12, Tryd.ntmps12
    go_wp2_with (first
      | (go_at_call 34; ((with_reducible refine (new_of _).mono ?_); rintro e w1 ⟨p, rfl, hp1, hb1, hs1⟩; have HP := Lib.hid hp1; have HB1 := Lib.hid hb1; have HS1 := Lib.hid hs1; clear hp1 hb1 hs1; have TF1 := True.intro))
      | (go_at_call 36; (have _t := TF1); ((with_reducible refine (feed_of [] l0 p _ _ A0 c0 n0 W0 _ HN0.out hT HB1.out HP.out HS1.out (Kd.F_below HF0.out HB1.out) (fun k hk => by have := HP.out; omega) hc0 bytes_nil HX0.out (by have := HN0.out; rw [List.length_nil]; omega)).mono ?_); rintro e w2 ⟨rfl, hg2, hb2, hs2⟩; rw [List.nil_append] at hs2; have HB2 := Lib.hid hb2; have HS2 := Lib.hid hs2; clear hg2 hb2 hs2 TF1; have TF2 := True.intro))
      | (go_at_call 38; (have _t := TF2); ((with_reducible refine (fault_of _ _ f HFB.out _ _ HS2.out).mono ?_); rintro e w3 ⟨rfl, rfl⟩))
      | (go_at_call 36; (have _t := TF2); ((with_reducible refine (feed_of l0 l1 p _ _ A1 c1 n1 W0 _ HN1.out hT HB2.out HP.out HS2.out (Kd.F_below HF1.out HB2.out) (fun k hk => by have := HP.out; omega) hc1 HX0.out HX1.out (by have := HN0.out; have := HN1.out; omega)).mono ?_); rintro e w4 ⟨rfl, hg4, hb4, hs4⟩; have HB4 := Lib.hid hb4; have HS4 := Lib.hid hs4; clear hg4 hb4 hs4 TF2; have TF3 := True.intro))
      | (go_at_call 38; (have _t := TF3); ((with_reducible refine (fault_of _ _ f HFB2.out _ _ HS4.out).mono ?_); rintro e w3b ⟨rfl, rfl⟩))
      | (go_at_call 39; (have _t := TF3); ((with_reducible refine (end_of_ _ _ f HX.out (by have := HLN.out; omega) HFL.out _ _ HS4.out).mono ?_); rintro e w3c ⟨rfl, n3, rfl⟩; have HB4a := Lib.hid (pw_below_drewN HB4.out n3); have HS4a := Lib.hid (HS4.out.below (pw_below_drewN (Below.refl _ _) n3)); clear HB4 HS4 TF3; have TF4 := True.intro))
      | (go_at_call 40; (have _t := TF4); ((with_reducible refine (state_of _ _ _ f 0 HX.out HSN.out HFB2.out HPN.out _ _ HS4a.out).mono ?_); rintro e w4a ⟨A4, c4, rfl, hf4⟩; have HB4b := Lib.hid (below_step HB4a.out hf4.2); clear hf4 TF4; have TF5 := True.intro))
      | (go_at_call 40; (have _t := TF5); ((with_reducible refine (state_nil _).mono ?_); rintro e w5 ⟨rfl, hb5⟩; have HB5 := Lib.hid (below_step HB4b.out hb5); clear hb5))
      | (go_at_call 36; (have _t := TF5); ((with_reducible refine (feed_nil _ _).mono ?_); rintro e w6 ⟨rfl, rfl⟩))
      | (go_at_call 38; (have _t := TF5); ((with_reducible refine (fault_nil _).mono ?_); rintro e w7 ⟨rfl, rfl⟩))
      | (go_at_call 39; (have _t := TF5); ((with_reducible refine (end_nil _).mono ?_); rintro e w8 ⟨rfl, n8, rfl⟩))
      | (go_at_call 20; ((with_reducible refine (HCF.out _ (pw_below_drewN (HB5.out.alloc HB5.out.size _) _)).mono ?_); rintro e w8b ⟨rfl, hb8⟩; have HB8 := Lib.hid hb8; clear hb8))
      | (go_at_call 33; ((with_reducible refine (scan_awake_any _ (hT.below HB8.out)).mono ?_); rintro e w9 ⟨rfl, hb9⟩; have HB9 := Lib.hid (below_step HB8.out hb9); clear hb9)))
    go_ret
    exact ⟨rfl, HB9.out⟩
def gessolaw02_ScanStays.f (l0 l1 : List Int) : Option Bool := if allb l0 = true ∧ allb l1 = true ∧ l0.length + l1.length ≤ 1048576 then some true else none
theorem gessolaw02_ScanStays.calls (A0 : Option Addr) (c0 : Nat) (l0 : List Int) (A1 : Option Addr) (c1 : Nat) (l1 : List Int) (r : Bool) (w : World) (HTb_ : Aside0 (Tabs w)) (hr0 : Kd.C (Kd.int .u8) w A0 l0.length l0) (hc0 : l0.length ≤ c0) (hr1 : Kd.C (Kd.int .u8) w A1 l1.length l1) (hc1 : l1.length ≤ c1) (h : gessolaw02_ScanStays.f l0 l1 = some r) :
    Calls Tryd.prog 12 #[.slice A0 l0.length c0, .slice A1 l1.length c1] w fun e w' => e = .returned (.bool r) ∧ Below w.heap.size w w' := by
  unfold gessolaw02_ScanStays.f at h
  split at h
  · rename_i hh
    obtain rfl := Option.some.inj h
    exact stays_any A0 A1 c0 c1 l0 l1 w HTb_.out hr0 hc0 hr1 hc1 (bytes_allb hh.1) (bytes_allb hh.2.1) hh.2.2
  · cases h
end Go.Proofs.YtjlhehaagaaihaaDoor.P
