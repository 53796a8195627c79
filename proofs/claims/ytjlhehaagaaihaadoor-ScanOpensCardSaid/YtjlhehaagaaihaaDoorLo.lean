/- The law ScanOpens: its call comes to true. No condition. -/
import Derived.Test.YtjlhehaagaaihaaDoorMg
import Derived.Test.YtjlhehaagaaihaaDoorGf
namespace Go.Proofs.YtjlhehaagaaihaaDoor.P
open Go.RowKit Go.Lib Go.Proofs.YtjlhehaagaaihaaDoorW.PrintWords Go.Proofs.YtjlhehaagaaihaaDoorW.PrintLast Go.Proofs.YtjlhehaagaaihaaDoorW.PrintMore Go.Proofs.YtjlhehaagaaihaaDoor.Pure
attribute [local go_sem] max2_int min2_int max_two min_two max_three min_three max_four min_four
set_option linter.unusedVariables false
set_option linter.unusedSimpArgs false

set_option maxHeartbeats 1000000 in
set_option maxRecDepth 100000 in
theorem opens_any (A0 : Option Addr) (n0 c0 : Nat) (l0 : List Int) (W0 : World) (hT : Tabs W0) (hn0 : l0.length = n0) (hr0 : Kd.C (Kd.int .u8) W0 A0 n0 l0) (hc0 : n0 ≤ c0) (hb0 : Bytes l0) :
    Calls Tryd.prog 10 #[.slice A0 n0 c0] W0 fun e w' => e = .returned (.bool true) ∧ Below W0.heap.size W0 w' := by
  obtain ⟨k, hk⟩ := (ref_open l0 hb0).rounds
  obtain ⟨o, ho⟩ : ∃ o, openB l0 = o := ⟨_, rfl⟩
  have hso := open_f hb0
  rw [ho] at hk hso
  subst hn0
  have h1 : ∀ W : World, Below W0.heap.size W0 W → Calls Tryd.prog 31 #[.slice A0 l0.length c0] W fun e w' => e = .returned (.bool o) ∧ Below W0.heap.size W0 w' := fun W hB =>
    (scan_Open.calls A0 c0 l0 o W ⟨hT.below hB⟩ (Kd.C_below hr0 hB) hc0 hso).mono fun e w' h => ⟨h.1, below_step hB h.2⟩
  have h2 : ∀ W : World, Below W0.heap.size W0 W → Calls Tryd.prog 32 #[.slice A0 l0.length c0] W fun e w' => e = .returned (.bool o) ∧ Below W0.heap.size W0 w' := fun W hB =>
    (gessoref02_Open.calls k A0 c0 l0 o W (Kd.C_below hr0 hB) hc0 hk).mono fun e w' h => ⟨h.1, below_step hB h.2⟩
  have H1 := Lib.hid h1
  have H2 := Lib.hid h2
  have hoo : (o == o) = true := by simp
  generalize l0.length = n at *
  clear hk hso hr0 hb0 ho h1 h2
  go_enter Tryd.func10, Tryd.ntmps10
  go_wp2_with (first
    | (go_at_call 31; ((with_reducible refine (H1.out _ (Below.refl _ _)).mono ?_); rintro e w1 ⟨rfl, hb1⟩; have HB1 := Lib.hid hb1; clear hb1))
    | (go_at_call 32; ((with_reducible refine (H2.out _ HB1.out).mono ?_); rintro e w2 ⟨rfl, hb2⟩; have HB2 := Lib.hid hb2; clear hb2))
    | (go_at_call 33; ((with_reducible refine (scan_awake_any _ (hT.below HB2.out)).mono ?_); rintro e w3 ⟨rfl, hb3⟩; have HB3 := Lib.hid (below_step HB2.out hb3); clear hb3)))
  go_ret
  exact ⟨rfl, HB3.out⟩
def gessolaw02_ScanOpens.f (l0 : List Int) : Option Bool := if allb l0 = true then some true else none
theorem gessolaw02_ScanOpens.calls (A0 : Option Addr) (c0 : Nat) (l0 : List Int) (r : Bool) (w : World) (HTb_ : Aside0 (Tabs w)) (hr0 : Kd.C (Kd.int .u8) w A0 l0.length l0) (hc0 : l0.length ≤ c0) (h : gessolaw02_ScanOpens.f l0 = some r) :
    Calls Tryd.prog 10 #[.slice A0 l0.length c0] w fun e w' => e = .returned (.bool r) ∧ Below w.heap.size w w' := by
  unfold gessolaw02_ScanOpens.f at h
  split at h
  · rename_i hh
    obtain rfl := Option.some.inj h
    exact opens_any A0 l0.length c0 l0 w HTb_.out rfl hr0 hc0 (bytes_allb hh)
  · cases h
end Go.Proofs.YtjlhehaagaaihaaDoor.P
