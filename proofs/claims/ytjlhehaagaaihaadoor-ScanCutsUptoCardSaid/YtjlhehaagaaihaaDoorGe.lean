/- The calls of a scan's awake. No condition. -/
import Derived.Test.YtjlhehaagaaihaaDoorGd
namespace Go.Proofs.YtjlhehaagaaihaaDoor.P
open Go.RowKit Go.Lib Go.Proofs.YtjlhehaagaaihaaDoorW.PrintWords Go.Proofs.YtjlhehaagaaihaaDoorW.PrintLast Go.Proofs.YtjlhehaagaaihaaDoorW.PrintMore
attribute [local go_sem] max2_int min2_int max_two min_two max_three min_three max_four min_four
set_option linter.unusedVariables false
set_option linter.unusedSimpArgs false

/-- A block of bytes reads as them. -/
theorem F_block {w : World} {g : Nat} {l : List Int} {n : Nat} (h : w.heap[g]? = some (.cells (l.map (Value.int .u8)).toArray 5 (0, 0))) (hn : n = l.length) (hl : l.length ≤ 1000) : Kd.F (Kd.int .u8) w (fun k => k = g) (some ⟨g, 0, none⟩) n l := by
  subst hn
  intro W' hW
  have h' := (hW g rfl (blk_lt h)).trans h
  refine Kd.C_of_reads (d := (0 : Int)) (h1 := fun _ => rfl) ⟨rfl, by omega, fun _ => ⟨_, rfl, fun j hj => ?_⟩⟩
  have := blk_cell h' j
  have e : (⟨g, 0, none⟩ : Addr).add j = ⟨g, j, none⟩ := by
    simp only [Addr.add, Nat.zero_add]
    split
    · rename_i h0; rw [h0]
    · rfl
  rw [e, this]
  simp [List.getD, hj]
theorem state_sl (p : Nat) (s b : Int) (pend : List Int) (L : Nat) (hL : pend.length = L) (ok : Nat → Prop) (w : World) (h : ScanAt w p s b pend ok) (hl : L ≤ 140737488351232) :
    Calls Tryd.prog 40 #[.pointer (some ⟨p, 0, none⟩)] w fun e w' => ∃ A c, e = .returned (.agg #[.int .i64 s, .int .i64 b, .slice A L c]) ∧ Fresh w w' (.slice A L c) pend := by
  subst hL
  refine (state_any p s b pend ok w h hl).mono fun e w' ⟨v, he, hf⟩ => ?_
  obtain ⟨A, c, ev⟩ := Kd.R_slice hf.1
  subst ev
  exact ⟨A, c, he, hf⟩
theorem run_fld0 (a b : Int) (A : Option Addr) (L c : Nat) (w : World) : (Instr.field 59 (.agg #[.int .i64 a, .int .i64 b, .slice A L c]) 0).run Tryd.prog w = .ok (.int .i64 a) w := by kernel_rfl
theorem run_fld1 (a b : Int) (A : Option Addr) (L c : Nat) (w : World) : (Instr.field 59 (.agg #[.int .i64 a, .int .i64 b, .slice A L c]) 1).run Tryd.prog w = .ok (.int .i64 b) w := by kernel_rfl
theorem run_fld2 (a b : Int) (A : Option Addr) (L c : Nat) (w : World) : (Instr.field 59 (.agg #[.int .i64 a, .int .i64 b, .slice A L c]) 2).run Tryd.prog w = .ok (.slice A L c) w := by kernel_rfl
attribute [local go_sem] run_fld0 run_fld1 run_fld2
theorem end_is (p : Nat) (s b : Int) (A : Option Addr) (n c : Nat) (r : Int) (hr : endOf s b n = r) (w : World) (h : w.heap[p]? = some (.cells #[.int .i64 s, .int .i64 b, .slice A n c] 78 (0, 0))) (hs : 0 ≤ s) (hs' : s ≤ 1099511627776) (hn : n ≤ 1099511627776) :
    Calls Tryd.prog 39 #[.pointer (some ⟨p, 0, none⟩)] w fun e w' => e = .returned (.int .i64 r) ∧ ∃ n, w' = w.drewN n := hr ▸ end_any p s b A n c w h hs hs' hn
theorem fault_65_195 : code_Fault.f 10 ([] ++ [65, 195]) = some 1 := by decide +kernel
theorem open_195 : scan_Open.f [195] = some true := by decide +kernel
theorem open_224_160 : scan_Open.f [224, 160] = some true := by decide +kernel
theorem open_224_159 : scan_Open.f [224, 159] = some false := by decide +kernel

set_option maxHeartbeats 1000000 in
set_option maxRecDepth 100000 in
theorem scan_awake_any (w : World) (hT : Tabs w) : Calls Tryd.prog 33 #[] w fun e w' => e = .returned (.bool true) ∧ Below w.heap.size w w' := by
  have hu59 := Tryd.underlying59
  have hu78 := Tryd.underlying78
  have hp : Below w.heap.size w (w.alloc (.cells #[.int .i64 0, .int .i64 (-1), .slice none 0 0] 78)) := (Below.refl _ _).alloc (Nat.le_refl _) _
  have hs0 := ScanAt.new w 0 (-1) (fun _ => False)
  have hfeed : ∀ W1 : World, W1 = (w.alloc (.cells #[.int .i64 0, .int .i64 (-1), .slice none 0 0] 78)).alloc (.cells #[.int .u8 65, .int .u8 195] 5) → Calls Tryd.prog 36 #[.pointer (some ⟨w.heap.size, 0, none⟩), .slice (some ⟨w.heap.size + 1, 0, none⟩) 2 2] W1 fun e w' => e = .returned (.int .i64 0) ∧ Below w.heap.size w w' ∧ w.heap.size < w'.heap.size ∧ ScanAt w' w.heap.size 2 (-1) [195] (fun k => True) := fun W1 hW => by
    subst hW
    have hB : Below w.heap.size w ((w.alloc (.cells #[.int .i64 0, .int .i64 (-1), .slice none 0 0] 78)).alloc (.cells #[.int .u8 65, .int .u8 195] 5)) := hp.alloc hp.size _
    have hblk : ((w.alloc (.cells #[.int .i64 0, .int .i64 (-1), .slice none 0 0] 78)).alloc (.cells #[.int .u8 65, .int .u8 195] 5)).heap[w.heap.size + 1]? = some (.cells ([65, 195].map (Value.int .u8)).toArray 5 (0, 0)) := by
      have := blk_new (w.alloc (.cells #[.int .i64 0, .int .i64 (-1), .slice none 0 0] 78)) (.cells #[.int .u8 65, .int .u8 195] 5)
      simpa using this
    have := feed_good 10 w.heap.size 0 (-1) 1 true [] [65, 195] (fun _ => False) (fun k => k = w.heap.size + 1) (some ⟨w.heap.size + 1, 0, none⟩) 2 w _ hT hB (Nat.le_refl _) (hs0.below ((Below.refl _ _).alloc (Nat.le_refl _) _)) (F_block hblk rfl (by decide)) (fun k hk => by omega) (by decide) (by decide) (by decide) (by decide) (by decide) (by decide) (by decide) fault_65_195 (fun _ => open_195) (by decide)
    refine this.mono fun e w' ⟨he, hg, hs⟩ => ⟨he, below_grown hB (Nat.le_refl _) hg, Nat.lt_of_lt_of_le (by simp; omega) hg.size, hs.mono (fun _ _ => trivial)⟩
  have HFEED := Lib.hid hfeed
  clear hfeed hs0 hp
  have hop : ∀ (W : World) (x y : Int) (o : Bool), scan_Open.f [x, y] = some o → Below w.heap.size w W → Calls Tryd.prog 31 #[.slice (some ⟨W.heap.size, 0, none⟩) 2 2] (W.alloc (.cells #[.int .u8 x, .int .u8 y] 5)) fun e w' => e = .returned (.bool o) ∧ Below w.heap.size w w' := fun W x y o ho hB => by
    have hb1 : Below w.heap.size w (W.alloc (.cells #[.int .u8 x, .int .u8 y] 5)) := hB.alloc hB.size _
    have hblk : (W.alloc (.cells #[.int .u8 x, .int .u8 y] 5)).heap[W.heap.size]? = some (.cells ([x, y].map (Value.int .u8)).toArray 5 (0, 0)) := blk_new W _
    exact (scan_Open.calls (some ⟨W.heap.size, 0, none⟩) 2 [x, y] o _ ⟨hT.below hb1⟩ (Kd.F_now (F_block (n := 2) hblk rfl (show [x, y].length ≤ 1000 from (by simp)))) (Nat.le_refl _) ho).mono fun e w' ⟨he, hb⟩ => ⟨he, below_step hb1 hb⟩
  have HOP := Lib.hid hop
  clear hop
  go_enter Tryd.func33, Tryd.ntmps33
  go_wp2_with (first
    | (go_at_call 34; ((with_reducible refine (new_any _).mono ?_); rintro e w1 ⟨rfl, rfl⟩))
    | (go_at_call 36; ((with_reducible refine (HFEED.out _ rfl).mono ?_); rintro e w2 ⟨rfl, hb2, hz2, hs2⟩; have HB2 := Lib.hid hb2; have HS2 := Lib.hid hs2; clear hb2 hs2; (obtain ⟨A2, c2, hk2, hc2, hF2⟩ := HS2.out); have HK2 := Lib.hid hk2; clear hk2 hc2 hF2))
    | (go_at_call 38; ((with_reducible refine (fault_any _ _ _ _ _ HK2.out).mono ?_); rintro e w3 ⟨rfl, rfl⟩))
    | (go_at_call 39; ((with_reducible refine (end_is _ _ _ _ _ _ 1 rfl _ HK2.out (by decide) (by decide) (by decide)).mono ?_); rintro e w3 ⟨rfl, n3, rfl⟩))
    | (go_at_call 40; ((with_reducible refine (state_sl _ _ _ _ 1 rfl _ _ (HS2.out.below (pw_below_drewN (Below.refl _ _) _)) (by decide)).mono ?_); rintro e w4 ⟨A4, c4, rfl, hf4⟩; have HB4 := Lib.hid (below_step (pw_below_drewN HB2.out _) hf4.2); have hcv : Sem.run Tryd.prog (convert 23 9 (.slice A4 1 c4)) w4 = Result.ok (Value.string ⟨#[195]⟩) w4 := own_string (P := Tryd.prog) Tryd.underlying23 Tryd.underlying5 Tryd.underlying9 (Kd.own_of_R hf4.1); clear hf4))
    | (go_at_call 31; ((with_reducible refine (HOP.out _ _ _ _ open_224_160 HB4.out).mono ?_); rintro e w5 ⟨rfl, hb5⟩; have HB5 := Lib.hid hb5; clear hb5))
    | (go_at_call 31; ((with_reducible refine (HOP.out _ _ _ _ open_224_159 HB5.out).mono ?_); rintro e w6 ⟨rfl, hb6⟩; have HB6 := Lib.hid hb6; clear hb6)))
  go_ret
  exact ⟨rfl, HB6.out⟩
end Go.Proofs.YtjlhehaagaaihaaDoor.P
