/- The law ScanCuts: its call comes to true. No condition. -/
import Derived.Test.YtjlhehaagaaihaaDoorLb
import Derived.Test.YtjlhehaagaaihaaDoorGg
namespace Go.Proofs.YtjlhehaagaaihaaDoor.P
open Go.RowKit Go.Lib Go.Proofs.YtjlhehaagaaihaaDoorW.PrintWords Go.Proofs.YtjlhehaagaaihaaDoorW.PrintLast Go.Proofs.YtjlhehaagaaihaaDoorW.PrintMore Go.Proofs.YtjlhehaagaaihaaDoor.Pure
attribute [local go_sem] max2_int min2_int max_two min_two max_three min_three max_four min_four run_fld0 run_fld1 run_fld2
set_option linter.unusedVariables false
set_option linter.unusedSimpArgs false

theorem below_alloc3 (w : World) (o1 o2 o3 : Obj) : Below w.heap.size w (((w.alloc o1).alloc o2).alloc o3) := (((Below.refl _ _).alloc (Nat.le_refl _) _).alloc (by simp) _).alloc (by simp; omega) _
theorem F_to {W : World} {ok : Nat → Prop} {A : Option Addr} {n c : Nat} {l : List Int} (h : Kd.F (Kd.int .u8) W ok A n l) (hn : l.length = n) (hc : n ≤ c) (k : Nat) (hk : k ≤ n) :
    (∀ W' : World, (Instr.slice 23 (.slice A n c) none (some (.int .i64 (k : Int))) none).run Tryd.prog W' = .ok (.slice A k c) W') ∧ Kd.F (Kd.int .u8) W ok A k (l.take k) := by
  subst hn
  obtain ⟨i013, hi013, _, hsz13, _⟩ := info_parts info5
  refine ⟨fun W' => by have := cut_to (P := Tryd.prog) 23 5 .i64 Tryd.underlying23 hi013 A l.length c (k : Int) (by omega) (by omega) hc W'; simpa using this, ?_⟩
  refine Kd.F_imp h (fun W' hC => ?_)
  exact Kd.C_of_reads (d := (0 : Int)) (h1 := fun _ => rfl) ((Kd.reads_of_C (d := (0 : Int)) hC).take_ k hk)
theorem from_of (a : List Int) (s b : Int) (L : Nat) (A : Option Addr) (c : Nat) (w : World) (hT : Tabs w) (ha : Bytes a) (hla : a.length ≤ 1099511627776) (hs : (a.length : Int) = s) (hb : ofBad a = b) (hL : (ofPend a).length = L) (hC : Kd.C (Kd.int .u8) w A L (ofPend a)) (hc : L ≤ c) :
    Calls Tryd.prog 42 #[.agg #[.int .i64 s, .int .i64 b, .slice A L c]] w fun e w' => ∃ g : Nat, e = .returned (.tuple #[.pointer (some ⟨g, 0, none⟩), .int .i64 0]) ∧ w.heap.size ≤ g ∧ Below w.heap.size w w' ∧ OfAt w' g a (fun k => w.heap.size ≤ k) := by
  subst hs
  subst hb
  have h := bad_le a ha
  refine from_ok (a.length : Int) (ofBad a) (ofPend a) L A c w hT hL hC hc (by omega) (by omega) (by omega) h.1 (fun h0 => ?_) (fun h0 => ?_)
  · obtain ⟨q1, q2, q3⟩ := h.2.2.1 h0
    exact ⟨q1, by rw [← hL, q2]; rfl⟩
  · have hne : ofPend a ≠ [] := fun e => by rw [e] at hL; simp at hL; omega
    obtain ⟨q1, q2⟩ := h.2.2.2.1 hne
    exact ⟨by rw [open_f h.2.2.2.2.2.2, q1], by omega, q2⟩

theorem read_of {w w' : World} {A : Option Addr} {L c : Nat} {l : List Int} (hL : l.length = L) (h : Kd.R (Kd.int .u8) 5 w' w.heap.size (fun _ => True) (.slice A L c) l) : Kd.C (Kd.int .u8) w' A L l := by
  subst hL
  exact (Kd.R_reads' h).2.2
theorem room_of {w w' : World} {A : Option Addr} {L c : Nat} {l : List Int} (hL : l.length = L) (h : Kd.R (Kd.int .u8) 5 w' w.heap.size (fun _ => True) (.slice A L c) l) : L ≤ c := (Kd.R_reads' h).2.1
set_option maxHeartbeats 4000000 in
set_option maxRecDepth 100000 in
theorem cuts_any (A0 : Option Addr) (n0 c0 : Nat) (l0 : List Int) (m : Nat) (W0 : World) (hT : Tabs W0) (hn0 : l0.length = n0) (hr0 : Kd.C (Kd.int .u8) W0 A0 n0 l0) (hc0 : n0 ≤ c0) (hb0 : Bytes l0) (hl : n0 ≤ 1048576) (hm : m < 65536) :
    Calls Tryd.prog 16 #[.slice A0 n0 c0, .int .u16 (m : Int)] W0 fun e w' => e = .returned (.bool true) ∧ Below W0.heap.size W0 w' := by
  have hu59 := Tryd.underlying59
  have hu78 := Tryd.underlying78
  obtain ⟨k, hk⟩ : ∃ k : Nat, (m : Int) % ((n0 : Int) + 1) = (k : Int) := ⟨m % (n0 + 1), by rw [Int.natCast_emod, Int.natCast_add]; rfl⟩
  have hkn : k ≤ n0 := by have := Int.emod_lt_of_pos (m : Int) (show (0 : Int) < (n0 : Int) + 1 by omega); omega
  have hF0 := Kd.C_F (Kd.heap_int .u8) hr0
  obtain ⟨hcutA, hFA⟩ := F_to hF0 hn0 hc0 k hkn
  obtain ⟨AB, nB, cB, hcutB, hFB, hnB, hcB⟩ := F_cut (hn0 ▸ hF0) (by rw [hn0]; exact hc0) k (by rw [hn0]; exact hkn)
  rw [hn0] at hcutB
  have HF0 := Lib.hid hF0
  have HFA := Lib.hid hFA
  have HFB := Lib.hid hFB
  have HX0 := Lib.hid hb0
  have HN0 := Lib.hid hn0
  have HNB := Lib.hid hnB
  have HLA := Lib.hid (show (l0.take k).length = k by rw [List.length_take, hn0]; omega)
  have HLB := Lib.hid (show (l0.drop k).length ≤ 1048576 by rw [List.length_drop, hn0]; omega)
  obtain ⟨kf, hkf⟩ := (fault_ev l0 hb0 (by omega)).rounds
  obtain ⟨f, hf⟩ : ∃ f, faultN l0 = f := ⟨_, rfl⟩
  rw [hf] at hkf
  have HFL := Lib.hid hf
  have hff2 : (f == f) = true := by simp
  have hcf : ∀ W : World, Below W0.heap.size W0 W → Calls Tryd.prog 20 #[.slice A0 n0 c0] W fun e w' => e = .returned (.int .i64 f) ∧ Below W0.heap.size W0 w' := fun W hB => by
    have h_ := HN0.out
    subst h_
    exact (code_Fault.calls kf A0 c0 l0 f W ⟨hT.below hB⟩ (Kd.F_now (Kd.F_below HF0.out hB)) hc0 hkf).mono fun e w' ⟨he, hb⟩ => ⟨he, below_step hB hb⟩
  have HCF := Lib.hid hcf
  obtain ⟨L1, hL1⟩ : ∃ L, (ofPend (l0.take k)).length = L := ⟨_, rfl⟩
  obtain ⟨B1, hB1⟩ : ∃ B, ofBad (l0.take k) = B := ⟨_, rfl⟩
  obtain ⟨S1, hS1⟩ : ∃ S : Int, ((l0.take k).length : Int) = S := ⟨_, rfl⟩
  have HL1 := Lib.hid hL1
  have HB1_ := Lib.hid hB1
  have HS1_ := Lib.hid hS1
  obtain ⟨L, hL⟩ : ∃ L, (ofPend l0).length = L := ⟨_, rfl⟩
  obtain ⟨B, hB⟩ : ∃ B, ofBad l0 = B := ⟨_, rfl⟩
  have HLL := Lib.hid hL
  have HBB := Lib.hid hB
  have HLEN := Lib.hid (show (l0.length : Int) = (n0 : Int) by rw [hn0])
  have hBB2 : (B == B) = true := by simp
  have hnn2 : ((n0 : Int) == (n0 : Int)) = true := by simp
  obtain ⟨PS, hPS⟩ : ∃ PS, strOfNums (ofPend l0) = PS := ⟨_, rfl⟩
  have HPS := Lib.hid hPS
  have hPS2 : (PS.toList == PS.toList) = true := by simp
  have HTD := Lib.hid (show l0.take k ++ l0.drop k = l0 from List.take_append_drop k l0)
  have HK := Lib.hid hkn
  clear hr0 hb0 hn0 hkf hcf hF0 hFA hFB hnB hf hL1 hB1 hS1 hL hB hPS
  have TF0 := True.intro
  go_enter Tryd.func16, Tryd.ntmps16
  go_wp2_with (first
    | (go_at_call 34; (have _t := TF0); ((with_reducible refine (new_of _).mono ?_); rintro e w1 ⟨p, rfl, hp1, hb1, hs1⟩; have HP := Lib.hid hp1; have HB1 := Lib.hid hb1; have HS1 := Lib.hid hs1; clear hp1 hb1 hs1 TF0 _t))
    | (go_at_call 34; ((with_reducible refine (new_at W0 _ HB1.out).mono ?_); rintro e w2 ⟨q, rfl, hq, hb2, hb3, hs2⟩; have HPQ := Lib.hid (show p ≠ q from fun e => by have := HS1.out.lt; omega); have HQ := Lib.hid (Nat.le_trans HB1.out.size hq); have HS2 := Lib.hid (HS1.out.below hb3); have HB2 := Lib.hid hb2; have HT2 := Lib.hid hs2; clear hq hb2 hb3 hs2 HB1 HS1; have TF1 := True.intro))
    | (go_at_call 36; (have _t := TF1); ((with_reducible refine (feed_of [] l0 p _ _ A0 c0 n0 W0 _ HN0.out hT HB2.out HP.out HS2.out (Kd.F_below HF0.out HB2.out) (fun k hk => by have := HP.out; omega) hc0 bytes_nil HX0.out (by have := HN0.out; rw [List.length_nil]; omega)).mono ?_); rintro e w3 ⟨rfl, hg3, hb3, hs3⟩; have HT3 := Lib.hid (HT2.out.other HS2.out (fun e => HPQ.out e.symm) hg3); rw [List.nil_append] at hs3; have HB3 := Lib.hid hb3; have HS3 := Lib.hid hs3; clear hg3 hb3 hs3 TF1 _t HB2 HS2 HT2; have TF2 := True.intro))
    | (go_at_call 36; (have _t := TF2); ((with_reducible refine (feed_of [] (l0.take k) q _ _ A0 c0 k W0 _ HLA.out hT HB3.out HQ.out HT3.out (Kd.F_below HFA.out HB3.out) (fun k hk => by have := HQ.out; omega) (by have := HK.out; omega) bytes_nil (HX0.out.take k) (by have := HLA.out; have := HK.out; rw [List.length_nil]; omega)).mono ?_); rintro e w4 ⟨rfl, hg4, hb4, hs4⟩; have HS4 := Lib.hid (HS3.out.other HT3.out HPQ.out hg4); rw [List.nil_append] at hs4; have HB4 := Lib.hid hb4; have HT4 := Lib.hid hs4; clear hg4 hb4 hs4 TF2 _t HB3 HS3 HT3; have TF3 := True.intro))
    | (go_at_call 40; (have _t := TF3); ((with_reducible refine (state_of q _ S1 B1 L1 (HX0.out.take k) HS1_.out HB1_.out HL1.out _ _ HT4.out).mono ?_); rintro e w5 ⟨A5, c5, rfl, hf⟩; have HB5 := Lib.hid (below_step HB4.out hf.2); have HS5 := Lib.hid (HS4.out.below hf.2); have HT5 := Lib.hid (HT4.out.below hf.2); have HR5 := Lib.hid hf.1; clear hf TF3 _t HB4 HS4 HT4; have TF4 := True.intro))
    | (go_at_call 42; (have _t := TF4); ((with_reducible refine (from_of (l0.take k) S1 B1 L1 A5 c5 _ (hT.below HB5.out) (HX0.out.take k) (by have := HLA.out; have := HK.out; omega) HS1_.out HB1_.out HL1.out (read_of HL1.out HR5.out) (room_of HL1.out HR5.out)).mono ?_); rintro e w6 ⟨g, rfl, hg, hb, hs⟩; have HPG := Lib.hid (show p ≠ g from fun e => by have := HS5.out.lt; omega); have HQG := Lib.hid (show q ≠ g from fun e => by have := HT5.out.lt; omega); have HG := Lib.hid (Nat.le_trans HB5.out.size hg); have HS6 := Lib.hid (HS5.out.below hb); have HT6 := Lib.hid (HT5.out.below hb); have HB6 := Lib.hid (below_step HB5.out hb); have HU6 := Lib.hid hs; clear hg hb hs TF4 _t HB5 HS5 HT5 HR5; have TF5 := True.intro))
    | (go_at_call 36; (have _t := TF5); ((with_reducible refine (feed_of (l0.take k) (l0.drop k) g _ _ AB cB nB W0 _ HNB.out.symm hT HB6.out HG.out HU6.out (Kd.F_below HFB.out HB6.out) (fun k hk => by have := HG.out; omega) hcB (HX0.out.take k) (HX0.out.drop k) (by have q1 := HLA.out; have q2 := HLB.out; have q3 := HK.out; omega)).mono ?_); rintro e w7 ⟨rfl, hg, hb, hs⟩; have HS7 := Lib.hid (HS6.out.other HU6.out HPG.out hg); have HT7 := Lib.hid (HT6.out.other HU6.out HQG.out hg); rw [HTD.out] at hs; have HB7 := Lib.hid hb; have HU7 := Lib.hid hs; clear hg hb hs TF5 _t HB6 HU6 HS6 HT6; have TF6 := True.intro))
    | (go_at_call 36; (have _t := TF6); ((with_reducible refine (feed_of (l0.take k) (l0.drop k) q _ _ AB cB nB W0 _ HNB.out.symm hT HB7.out HQ.out HT7.out (Kd.F_below HFB.out HB7.out) (fun k hk => by have := HQ.out; omega) hcB (HX0.out.take k) (HX0.out.drop k) (by have q1 := HLA.out; have q2 := HLB.out; have q3 := HK.out; omega)).mono ?_); rintro e w8 ⟨rfl, hg, hb, hs⟩; have HS8 := Lib.hid (HS7.out.other HT7.out HPQ.out hg); have HU8 := Lib.hid (HU7.out.other HT7.out (fun e => HQG.out e.symm) hg); rw [HTD.out] at hs; have HB8 := Lib.hid hb; have HT8 := Lib.hid hs; clear hg hb hs TF6 _t HB7 HT7 HS7 HU7; have TF7 := True.intro))
    | (go_at_call 40; (have _t := TF7); ((with_reducible refine (state_of p _ _ B L HX0.out HLEN.out HBB.out HLL.out _ _ HS8.out).mono ?_); rintro e w9 ⟨A9, c9, rfl, hf⟩; have HB9 := Lib.hid (below_step HB8.out hf.2); have HS9 := Lib.hid (HS8.out.below hf.2); have HT9 := Lib.hid (HT8.out.below hf.2); have HU9 := Lib.hid (HU8.out.below hf.2); have HR9 := Lib.hid hf.1; clear hf TF7 _t HB8 HS8 HT8 HU8; have TF8 := True.intro))
    | (go_at_call 40; (have _t := TF8); ((with_reducible refine (state_of q _ _ B L HX0.out HLEN.out HBB.out HLL.out _ _ HT9.out).mono ?_); rintro e w10 ⟨A10, c10, rfl, hf⟩; have HB10 := Lib.hid (below_step HB9.out hf.2); have HS10 := Lib.hid (HS9.out.below hf.2); have HU10 := Lib.hid (HU9.out.below hf.2); have HR10 := Lib.hid hf.1; have HR9b := Lib.hid (Kd.R_below HR9.out hf.2); clear hf TF8 _t HB9 HS9 HU9; have TF9 := True.intro))
    | (go_at_call 40; (have _t := TF9); ((with_reducible refine (state_of g _ _ B L HX0.out HLEN.out HBB.out HLL.out _ _ HU10.out).mono ?_); rintro e w11 ⟨A11, c11, rfl, hf⟩; have HB11 := Lib.hid (below_step HB10.out hf.2); have HS11 := Lib.hid (HS10.out.below hf.2); have hcv1 : ∀ o1 o2 o3 : Obj, Sem.run Tryd.prog (convert 23 9 (.slice A9 L c9)) (((w11.alloc o1).alloc o2).alloc o3) = Result.ok (Value.string PS) (((w11.alloc o1).alloc o2).alloc o3) := (fun o1 o2 o3 => HPS.out ▸ own_string (P := Tryd.prog) Tryd.underlying23 Tryd.underlying5 Tryd.underlying9 (Kd.own_of_R (Kd.R_alloc (Kd.R_alloc (Kd.R_alloc (Kd.R_below HR9b.out hf.2) o1) o2) o3))); have hcv2 : ∀ o1 o2 o3 : Obj, Sem.run Tryd.prog (convert 23 9 (.slice A10 L c10)) (((w11.alloc o1).alloc o2).alloc o3) = Result.ok (Value.string PS) (((w11.alloc o1).alloc o2).alloc o3) := (fun o1 o2 o3 => HPS.out ▸ own_string (P := Tryd.prog) Tryd.underlying23 Tryd.underlying5 Tryd.underlying9 (Kd.own_of_R (Kd.R_alloc (Kd.R_alloc (Kd.R_alloc (Kd.R_below HR10.out hf.2) o1) o2) o3))); have hcv3 : ∀ o1 o2 o3 : Obj, Sem.run Tryd.prog (convert 23 9 (.slice A11 L c11)) (((w11.alloc o1).alloc o2).alloc o3) = Result.ok (Value.string PS) (((w11.alloc o1).alloc o2).alloc o3) := (fun o1 o2 o3 => HPS.out ▸ own_string (P := Tryd.prog) Tryd.underlying23 Tryd.underlying5 Tryd.underlying9 (Kd.own_of_R (Kd.R_alloc (Kd.R_alloc (Kd.R_alloc hf.1 o1) o2) o3))); clear hf TF9 _t HB10 HS10; have TFA := True.intro))
    | (go_at_call 39; (have _t := TFA); ((with_reducible refine (end_of_ p l0 f HX0.out (by have := HN0.out; omega) HFL.out _ _ (HS11.out.below (below_alloc3 _ _ _ _))).mono ?_); rintro e w12 ⟨rfl, n12, rfl⟩))
    | (go_at_call 20; (have _t := TFA); ((with_reducible refine (HCF.out _ (pw_below_drewN (below_step HB11.out (below_alloc3 _ _ _ _)) _)).mono ?_); rintro e w13 ⟨rfl, hb7⟩; have HB13 := Lib.hid hb7; clear hb7))
    | (go_at_call 33; ((with_reducible refine (scan_awake_any _ (hT.below HB13.out)).mono ?_); rintro e w14 ⟨rfl, hb9⟩; have HB14 := Lib.hid (below_step HB13.out hb9); clear hb9)))
  go_ret
  exact ⟨rfl, HB14.out⟩
def gessolaw02_ScanCuts.f (l0 : List Int) (a : Int) : Option Bool := if allb l0 = true ∧ l0.length ≤ 1048576 ∧ 0 ≤ a ∧ a < 65536 then some true else none
theorem gessolaw02_ScanCuts.calls (A0 : Option Addr) (c0 : Nat) (l0 : List Int) (a : Int) (r : Bool) (w : World) (HTb_ : Aside0 (Tabs w)) (hr0 : Kd.C (Kd.int .u8) w A0 l0.length l0) (hc0 : l0.length ≤ c0) (h : gessolaw02_ScanCuts.f l0 a = some r) :
    Calls Tryd.prog 16 #[.slice A0 l0.length c0, .int .u16 a] w fun e w' => e = .returned (.bool r) ∧ Below w.heap.size w w' := by
  unfold gessolaw02_ScanCuts.f at h
  split at h
  · rename_i hh
    obtain rfl := Option.some.inj h
    obtain ⟨m, rfl⟩ : ∃ m : Nat, a = (m : Int) := ⟨a.toNat, by have := hh.2.2.1; omega⟩
    exact cuts_any A0 l0.length c0 l0 m w HTb_.out rfl hr0 hc0 (bytes_allb hh.1) hh.2.1 (by have := hh.2.2.2; omega)
  · cases h
end Go.Proofs.YtjlhehaagaaihaaDoor.P
