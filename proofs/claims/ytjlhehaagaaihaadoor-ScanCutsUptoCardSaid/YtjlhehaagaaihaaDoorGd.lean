/- The calls of a scan's Feed. No condition. -/
import Derived.Test.YtjlhehaagaaihaaDoorGc
namespace Go.Proofs.YtjlhehaagaaihaaDoor.P
open Go.RowKit Go.Lib Go.Proofs.YtjlhehaagaaihaaDoorW.PrintWords Go.Proofs.YtjlhehaagaaihaaDoorW.PrintLast Go.Proofs.YtjlhehaagaaihaaDoorW.PrintMore
attribute [local go_sem] max2_int min2_int max_two min_two max_three min_three max_four min_four
set_option linter.unusedVariables false
set_option linter.unusedSimpArgs false

theorem grown_trans2 {a w w1 : World} {g : Nat} (h : a.grownBy w (some g)) (k : w.grownBy w1 (some g)) : a.grownBy w1 (some g) :=
  ⟨k.os.trans h.os, k.tape.trans h.tape, k.output.trans h.output, Nat.le_trans h.size k.size, fun i hi hne => (k.block i (Nat.lt_of_lt_of_le hi h.size) hne).trans (h.block i hi hne)⟩
/-- What is known behind the joined pieces. -/
theorem feed_mid {w W1 w3 : World} {p : Nat} {s b s0 : Int} {m c2 : Nat} {A2 : Option Addr} {o : Obj} {v3 : Value} {l : List Int} (hbl : w.heap[p]? = some (.cells #[.int .i64 s0, .int .i64 b, .slice A2 m c2] 78 (0, 0))) (hg : w.grownBy W1 (some p))
    (hb : W1.heap[p]? = some (.cells #[.int .i64 s, .int .i64 b, .slice A2 m c2] 78 (0, 0))) (hf : Fresh (W1.alloc o) w3 v3 l) :
    (∃ A c, v3 = .slice A l.length c) ∧ w.grownBy w3 (some p) ∧ w3.heap[p]? = some (.cells #[.int .i64 s, .int .i64 b, .slice A2 m c2] 78 (0, 0)) ∧ ∀ A c, v3 = .slice A l.length c → Kd.F (Kd.int .u8) w3 (fun k => w.heap.size ≤ k ∧ U8 w3 k) A l.length l ∧ l.length ≤ c := by
  have hB : Below W1.heap.size W1 w3 := below_step ((Below.refl _ _).alloc (Nat.le_refl _) o) hf.2
  refine ⟨Kd.R_slice hf.1, grown_below hg hB, blk_below hb hB, fun A c e => ?_⟩
  subst e
  have hsz : w.heap.size ≤ (W1.alloc o).heap.size := Nat.le_trans hg.size (by simp)
  refine ⟨Kd.F_mono (Kd.R_F (Kd.R_bound hf.1)) (fun k hk => ⟨Nat.le_trans hsz hk.2.1, ?_⟩), (Kd.R_reads' hf.1).2.1⟩
  obtain ⟨_, _, _, q, hq, cells, hc⟩ := hk
  have : q = 5 := by simpa [Kd.int, Kd.scalar] using hq
  subst this
  exact ⟨cells, _, hc⟩
set_option maxRecDepth 100000 in
theorem feed_nil (v : Value) (w : World) : Calls Tryd.prog 36 #[.pointer none, v] w fun e w' => e = .returned (.int .i64 1) ∧ w' = w := by
  go_enter Tryd.func36, Tryd.ntmps36
  go_wp2
  go_ret
  exact ⟨rfl, rfl⟩
set_option maxHeartbeats 400000 in
set_option maxRecDepth 100000 in
theorem feed_range (p : Nat) (s b : Int) (v : Value) (A : Option Addr) (n c : Nat) (w : World) (h : w.heap[p]? = some (.cells #[.int .i64 s, .int .i64 b, v] 78 (0, 0))) (hs : 0 ≤ s) (hs' : s ≤ 1099511627776) (hn : (n : Int) > 1099511627776 - s) (hn' : n ≤ 9223372036854775807) :
    Calls Tryd.prog 36 #[.pointer (some ⟨p, 0, none⟩), .slice A n c] w fun e w' => e = .returned (.int .i64 13) ∧ w' = w := by
  have hu78 := Tryd.underlying78
  have h0 : w.cell? ⟨p, 0, none⟩ = some (.int .i64 s) := (blk_cell h 0).trans rfl
  have hg : (1099511627776 - s < (n : Int)) := hn
  clear h
  go_enter Tryd.func36, Tryd.ntmps36
  go_wp2
  go_ret
  exact ⟨rfl, rfl⟩
set_option maxHeartbeats 400000 in
set_option maxRecDepth 100000 in
theorem feed_bad (p : Nat) (s b : Int) (pend : List Int) (ok : Nat → Prop) (A : Option Addr) (n c : Nat) (w : World) (h : ScanAt w p s b pend ok) (hpl : pend.length ≤ 1099511627776) (hs : 0 ≤ s) (hs' : s ≤ 1099511627776) (hn : (n : Int) ≤ 1099511627776 - s) (hb : 0 ≤ b) :
    Calls Tryd.prog 36 #[.pointer (some ⟨p, 0, none⟩), .slice A n c] w fun e w' => e = .returned (.int .i64 0) ∧ w.grownBy w' (some p) ∧ ScanAt w' p (s + n) b pend ok := by
  obtain ⟨A2, c2, hblk, hc2, hF⟩ := h
  have hu78 := Tryd.underlying78
  have h0 : w.cell? ⟨p, 0, none⟩ = some (.int .i64 s) := (blk_cell hblk 0).trans rfl
  have h1 : w.cell? ⟨p, 1, none⟩ = some (.int .i64 b) := (blk_cell hblk 1).trans rfl
  have h2 : w.cell? ⟨p, 2, none⟩ = some (.slice A2 pend.length c2) := (blk_cell hblk 2).trans rfl
  have hz := blk_frozen hblk 0
  have hg : ¬ (1099511627776 - s < (n : Int)) := by omega
  have HBL := Lib.hid hblk
  have HF := Lib.hid hF
  clear hblk hF
  go_enter Tryd.func36, Tryd.ntmps36
  go_wp2
  go_quiet (fail)
  go_wp2
  go_ret
  have hg3 := grown_set (grown_self w p) 0 (.int .i64 (s + n))
  have hb3 := blk_set HBL.out 0 (.int .i64 (s + n))
  have hF3 := F_other HBL.out hg3 HF.out
  refine ⟨rfl, ?_, A2, c2, ?_, hc2, ?_⟩
  · exact grown_set (grown_below (grown_self w p) (pw_below_drewN (Below.refl _ _) _)) 0 _
  · simpa using blk_set (blk_drewN HBL.out _) 0 (.int .i64 (s + n))
  · exact hF3

set_option maxHeartbeats 1000000 in
set_option maxRecDepth 100000 in
theorem feed_good (k : Nat) (p : Nat) (s b f : Int) (o : Bool) (pend x : List Int) (ok okx : Nat → Prop) (A : Option Addr) (c : Nat) (W0 w : World) (hT : Tabs W0) (hB : Below W0.heap.size W0 w) (hp : W0.heap.size ≤ p)
    (h : ScanAt w p s b pend ok) (hF : Kd.F (Kd.int .u8) w okx A x.length x) (hox : ∀ k, okx k → k ≠ p) (hc : x.length ≤ c) (hpl : pend.length ≤ 3) (hps : (pend.length : Int) ≤ s) (hs : 0 ≤ s) (hs' : s ≤ 1099511627776) (hn : (x.length : Int) ≤ 1099511627776 - s) (hb : b < 0)
    (hf : code_Fault.f k (pend ++ x) = some f) (ho : 0 ≤ f → scan_Open.f ((pend ++ x).drop f.toNat) = some o) (hfl : f ≤ (pend ++ x).length) :
    Calls Tryd.prog 36 #[.pointer (some ⟨p, 0, none⟩), .slice A x.length c] w fun e w' => e = .returned (.int .i64 0) ∧ w.grownBy w' (some p) ∧ ScanAt w' p (s + x.length) (lookBad (s - pend.length) b f o) (lookPend (pend ++ x) f o) (fun k => w.heap.size ≤ k) := by
  obtain ⟨A2, c2, hblk, hc2, hF2⟩ := h
  have hu78 := Tryd.underlying78
  have hu48 := Tryd.underlying48
  have h0 : w.cell? ⟨p, 0, none⟩ = some (.int .i64 s) := (blk_cell hblk 0).trans rfl
  have h1 : w.cell? ⟨p, 1, none⟩ = some (.int .i64 b) := (blk_cell hblk 1).trans rfl
  have h2 : w.cell? ⟨p, 2, none⟩ = some (.slice A2 pend.length c2) := (blk_cell hblk 2).trans rfl
  have hz := blk_frozen hblk 0
  have hlt := blk_lt hblk
  have hg : ¬ (1099511627776 - s < (x.length : Int)) := by omega
  have hb' : ¬ (0 ≤ b) := by omega
  have HBL := Lib.hid hblk
  have HF2 := Lib.hid hF2
  have HF := Lib.hid hF
  have HFF := Lib.hid hf
  have HOO := Lib.hid ho
  have HFL := Lib.hid hfl
  obtain ⟨m, hm⟩ : ∃ m, pend.length = m := ⟨_, rfl⟩
  obtain ⟨n, hn'⟩ : ∃ n, x.length = n := ⟨_, rfl⟩
  rw [hm] at h2 hpl hps hc2 HF2 HBL
  rw [hn'] at hg hn hc HF
  rw [hm, hn']
  have HM := Lib.hid hm
  have HN := Lib.hid hn'
  clear hblk hF2 hF hf ho hfl hm hn'
  obtain ⟨L, hL⟩ : ∃ L, (pend ++ x).length = L := ⟨_, rfl⟩
  have HL := Lib.hid hL
  clear hL
  have hcon : ∀ (W : World) (g : Nat), W.cell? ⟨g, 0, none⟩ = some (.slice A2 m c2) → W.cell? ⟨g, 1, none⟩ = some (.slice A n c) → Kd.C (Kd.int .u8) W A2 m pend → Kd.C (Kd.int .u8) W A n x →
      Calls Tryd.prog 55 #[.slice (some ⟨g, 0, none⟩) 2 2] W fun e w' => ∃ A3 c3, e = .returned (.slice A3 L c3) ∧ Fresh W w' (.slice A3 (pend ++ x).length c3) (pend ++ x) := fun W g q0 q1 q2 q3 => by
    have e1 := HM.out
    have e2 := HN.out
    subst e1
    subst e2
    refine (concat_two g A2 A c2 c pend x W q0 q1 q2 q3 (by omega)).mono fun e w' ⟨v, he, hf⟩ => ?_
    obtain ⟨A3, c3, ev⟩ := Kd.R_slice hf.1
    subst ev
    exact ⟨A3, c3, by rw [he, HL.out], hf⟩
  have hlook : ∀ (w3 : World) (A3 : Option Addr) (c3 : Nat), w.grownBy w3 (some p) → w3.heap[p]? = some (.cells #[.int .i64 (s + n), .int .i64 b, .slice A2 m c2] 78 (0, 0)) → Kd.F (Kd.int .u8) w3 (fun k => w.heap.size ≤ k ∧ U8 w3 k) A3 (pend ++ x).length (pend ++ x) ∧ (pend ++ x).length ≤ c3 →
      Calls Tryd.prog 54 #[.pointer (some ⟨p, 0, none⟩), .int .i64 (s - m), .slice A3 L c3] w3 fun e w' => e = .returned (.tuple #[]) ∧ w3.grownBy w' (some p) ∧ ScanAt w' p (s + n) (lookBad (s - m) b f o) (lookPend (pend ++ x) f o) (fun k => w.heap.size ≤ k) := fun w3 A3 c3 g1 g2 g3 => by
    have := look_any k p (s + n) b (s - m) f o (.slice A2 m c2) A3 c3 (pend ++ x) (fun k => w.heap.size ≤ k) W0 w3 hT (below_grown hB hp g1) hp g2 g3.1 g3.2 HFF.out HOO.out HFL.out (by omega) (by omega) (by have q1 := HM.out; have q2 := HN.out; rw [List.length_append]; omega)
    rw [HL.out] at this
    exact this
  have HLOOK := Lib.hid hlook
  clear hlook
  have HCON := Lib.hid hcon
  clear hcon
  have hstep : ∀ q : Nat, w.grownBy ((w.drewN q).setCell ⟨p, 0, none⟩ (.int .i64 (s + n))) (some p) := fun q => grown_set (grown_below (grown_self w p) (pw_below_drewN (Below.refl _ _) q)) 0 _
  have HST := Lib.hid hstep
  have hk2 : ∀ q : Nat, Kd.C (Kd.int .u8) ((w.drewN q).setCell ⟨p, 0, none⟩ (.int .i64 (s + n))) A2 m pend := fun q => Kd.F_now (F_other HBL.out (HST.out q) HF2.out)
  have hk3 : ∀ q : Nat, Kd.C (Kd.int .u8) ((w.drewN q).setCell ⟨p, 0, none⟩ (.int .i64 (s + n))) A n x := fun q => Kd.F_now (Kd.F_grown HF.out (HST.out q) (fun k hk e => hox k hk (by injection e)))
  have hk4 : ∀ q : Nat, ((w.drewN q).setCell ⟨p, 0, none⟩ (.int .i64 (s + n))).heap[p]? = some (.cells #[.int .i64 (s + n), .int .i64 b, .slice A2 m c2] 78 (0, 0)) := fun q => by simpa using blk_set (blk_drewN HBL.out q) 0 (.int .i64 (s + n))
  have hk5 : ∀ (q : Nat) (ob : Obj), (((w.drewN q).setCell ⟨p, 0, none⟩ (.int .i64 (s + n))).alloc ob).heap[w.heap.size]? = some ob := fun q ob => by
    have h_ := blk_new ((w.drewN q).setCell ⟨p, 0, none⟩ (.int .i64 (s + n))) ob
    rwa [show ((w.drewN q).setCell ⟨p, 0, none⟩ (.int .i64 (s + n))).heap.size = w.heap.size by simp [World.setCell]] at h_
  have HK5 := Lib.hid hk5
  have HK2 := Lib.hid hk2
  have HK3 := Lib.hid hk3
  have HK4 := Lib.hid hk4
  clear hstep hk2 hk3 hk4 hk5
  go_enter Tryd.func36, Tryd.ntmps36
  go_wp2
  go_quiet (fail)
  go_wp2_with (first
    | (go_at_call 55; (refine (HCON.out _ _ ?q0 ?q1 ?q2 ?q3).mono ?_); (case q0 => exact (blk_cell (HK5.out _ _) 0).trans rfl); (case q1 => exact (blk_cell (HK5.out _ _) 1).trans rfl); (case q2 => exact Kd.C_alloc (HK2.out _) _); (case q3 => exact Kd.C_alloc (HK3.out _) _); rintro e w3 ⟨A3, c3, rfl, hf3⟩; have HF3 := Lib.hid (feed_mid HBL.out (HST.out nq) (HK4.out nq) hf3); clear hf3)
    | (go_at_call 54; ((with_reducible refine (HLOOK.out _ _ _ HF3.out.2.1 HF3.out.2.2.1 (HF3.out.2.2.2 _ _ rfl)).mono ?_); rintro e w4 ⟨rfl, hg4, hs4⟩; have HG4 := Lib.hid (grown_trans2 HF3.out.2.1 hg4); have HS4 := Lib.hid hs4; clear hg4 hs4)))
  go_ret
  exact ⟨rfl, HG4.out, HS4.out⟩
end Go.Proofs.YtjlhehaagaaihaaDoor.P
