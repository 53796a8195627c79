/- The law WalkOrder: its call comes to true. No condition. -/
import Derived.Test.YtomhpfgibekmfaaMw

namespace Go.Proofs.Ytomhpfgibekmfaa.P
open Go.RowKit Go.Lib Go.Proofs.YtomhpfgibekmfaaW.PrintWords Go.Proofs.YtomhpfgibekmfaaW.PrintLast Go.Proofs.YtomhpfgibekmfaaW.PrintMore Go.Proofs.Ytomhpfgibekmfaa.Pure
set_option linter.unusedVariables false
set_option linter.unusedSimpArgs false
theorem less_call (x y : Pth) (A0 : Option Addr) (n0 c0 : Nat) (A1 : Option Addr) (n1 c1 : Nat) (r : Bool) (w : World) (hr : ltP x y = r) (hx : x.length = n0) (hy : y.length = n1) (hl : n0 ≤ 1099511627776) (hr0 : Kd.C Kd.string w A0 n0 x) (hc0 : n0 ≤ c0) (hr1 : Kd.C Kd.string w A1 n1 y) (hc1 : n1 ≤ c1) :
    Calls Try.prog 9 #[.slice A0 n0 c0, .slice A1 n1 c1] w fun e w' => e = .returned (.bool r) ∧ Drawn0 w w' := by
  subst hx
  subst hy
  subst hr
  exact by_any false x y A0 c0 A1 c1 w hl hr0 hc0 hr1 hc1
theorem deeper_call (x y : Pth) (A0 : Option Addr) (n0 c0 : Nat) (A1 : Option Addr) (n1 c1 : Nat) (r : Bool) (w : World) (hr : dpP x y = r) (hx : x.length = n0) (hy : y.length = n1) (hl : n0 ≤ 1099511627776) (hr0 : Kd.C Kd.string w A0 n0 x) (hc0 : n0 ≤ c0) (hr1 : Kd.C Kd.string w A1 n1 y) (hc1 : n1 ≤ c1) :
    Calls Try.prog 11 #[.slice A0 n0 c0, .slice A1 n1 c1] w fun e w' => e = .returned (.bool r) ∧ Drawn0 w w' := by
  subst hx
  subst hy
  subst hr
  exact by_any true x y A0 c0 A1 c1 w hl hr0 hc0 hr1 hc1
theorem awake_call (w : World) : Calls Try.prog 8 #[] w fun e w' => e = .returned (.bool true) ∧ Below w.heap.size w w' := by
  obtain ⟨k, h⟩ := awake_ev.rounds
  exact gessolaw15_awake.calls k true w h
theorem sames_call (x y : List Pth) (A0 : Option Addr) (n0 c0 : Nat) (A1 : Option Addr) (n1 c1 : Nat) (r : Bool) (w : World) (hr : decide (x = y) = r) (hx : x.length = n0) (hy : y.length = n1) (hl : n0 ≤ 1099511627776) (hl2 : ∀ p ∈ x, p.length ≤ 1099511627776) (hr0 : Kd.C KP w A0 n0 x) (hc0 : n0 ≤ c0) (hr1 : Kd.C KP w A1 n1 y) (hc1 : n1 ≤ c1) :
    Calls Try.prog 25 #[.slice A0 n0 c0, .slice A1 n1 c1] w fun e w' => e = .returned (.bool r) ∧ Drawn0 w w' := by
  subst hx
  subst hy
  subst hr
  obtain ⟨k, h⟩ := (sames_ev x y hl hl2).rounds
  exact gessoref15_Same.calls k A0 c0 x A1 c1 y _ w hr0 hc0 hr1 hc1 h
theorem ltP_snoc (a : Pth) (x : ByteArray) : ltP a (a ++ [x]) = true := by
  induction a with
  | nil => rfl
  | cons y a ih => rw [List.cons_append, ltP, if_pos rfl]; exact ih
theorem dpP_snoc (a : Pth) (x : ByteArray) : dpP (a ++ [x]) a = true := by
  unfold dpP
  rw [if_neg (by simp), decide_eq_true (by simp)]
/-- One row that is read. -/
theorem C_single {w : World} {g : Nat} {A : Option Addr} {x : Pth} {n c : Nat} (hb : w.heap[g]? = some (.cells #[.slice A n c] 22 (0, 0))) (hx : x.length = n) (hC : Kd.C Kd.string w A n x) (hc : n ≤ c) : Kd.C KP w (some ⟨g, 0, none⟩) 1 [x] := by
  subst hx
  refine ⟨rfl, by decide, fun _ => ⟨⟨g, 0, none⟩, rfl, fun j y hj => ?_⟩⟩
  rcases j with _ | j
  · obtain rfl : x = y := by simpa using hj
    refine ⟨[.slice A x.length c], rfl, ⟨A, c, rfl, hc, hC⟩, fun i u hu => ?_⟩
    rcases i with _ | i
    · obtain rfl : Value.slice A x.length c = u := by simpa using hu
      exact (blk_cell hb 0).trans rfl
    · simp at hu
  · simp at hj
theorem order_far (w : World) (A0 A1 A2 : Option Addr) (n0 c0 n1 c1 n2 c2 : Nat) (h : 300 < n0 ∨ 300 < n1 ∨ 300 < n2) :
    Calls Try.prog 6 #[.slice A0 n0 c0, .slice A1 n1 c1, .slice A2 n2 c2] w fun e w' => e = .returned (.bool true) ∧ Below w.heap.size w w' := by
  go_enter Try.func6, Try.ntmps6
  by_cases h0 : 300 < n0
  · have h0z : (300 : Int) < (n0 : Int) := by omega
    go_wp2_with (first | (go_at_call 8; ((with_reducible refine (awake_call _).mono ?_); rintro e w1 ⟨rfl, hb⟩; have HB := Lib.hid hb; clear hb)))
    go_ret
    exact ⟨rfl, HB.out⟩
  · have h0z : ¬ ((300 : Int) < (n0 : Int)) := by omega
    by_cases h1 : 300 < n1
    · have h1z : (300 : Int) < (n1 : Int) := by omega
      go_wp2_with (first | (go_at_call 8; ((with_reducible refine (awake_call _).mono ?_); rintro e w1 ⟨rfl, hb⟩; have HB := Lib.hid hb; clear hb)))
      go_ret
      exact ⟨rfl, HB.out⟩
    · have h1z : ¬ ((300 : Int) < (n1 : Int)) := by omega
      have h2z : (300 : Int) < (n2 : Int) := by omega
      go_wp2_with (first | (go_at_call 8; ((with_reducible refine (awake_call _).mono ?_); rintro e w1 ⟨rfl, hb⟩; have HB := Lib.hid hb; clear hb)))
      go_ret
      exact ⟨rfl, HB.out⟩
theorem dpP_trans {x y z : Pth} (h1 : dpP x y = true) (h2 : dpP y z = true) : dpP x z = true := bf_trans (d := true) h1 h2
theorem dpP_tri {x y : Pth} (h1 : dpP x y = false) (h2 : dpP y x = false) : x = y := bf_tri (d := true) h1 h2
theorem one_way {f : Pth → Pth → Bool} (hi : ∀ x, f x x = false) (ht : ∀ {x y z}, f x y = true → f y z = true → f x z = true) (hr : ∀ {x y}, f x y = false → f y x = false → x = y) (a b : Pth) (hne : a ≠ b) : (f a b = true ∧ f b a = false) ∨ (f a b = false ∧ f b a = true) := by
  cases h1 : f a b <;> cases h2 : f b a
  · exact absurd (hr h1 h2) hne
  · exact .inr ⟨rfl, rfl⟩
  · exact .inl ⟨rfl, rfl⟩
  · have := ht h1 h2
    rw [hi] at this
    cases this
theorem order_cases (a b : Pth) (S X Y U V Z Wd : Bool) (hS : decide ([a] = [b]) = S) (hX : ltP a b = X) (hY : ltP b a = Y) (hU : dpP a b = U) (hV : dpP b a = V) :
    (S = true ∧ X = false ∧ Y = false ∧ U = false ∧ V = false) ∨ (S = false ∧ ((X = true ∧ Y = false ∧ Z = true) ∨ (X = true ∧ Y = false ∧ Z = false) ∨ (X = false ∧ Y = true)) ∧ ((U = true ∧ V = false ∧ Wd = true) ∨ (U = true ∧ V = false ∧ Wd = false) ∨ (U = false ∧ V = true))) := by
  subst hS hX hY hU hV
  by_cases h : a = b
  · subst h
    exact .inl ⟨by simp, ltP_irrefl a, ltP_irrefl a, bf_irrefl true a, bf_irrefl true a⟩
  · refine .inr ⟨by simp [h], ?_, ?_⟩
    · rcases one_way ltP_irrefl ltP_trans ltP_tri a b h with q | q
      · cases Z
        · exact .inr (.inl ⟨q.1, q.2, rfl⟩)
        · exact .inl ⟨q.1, q.2, rfl⟩
      · exact .inr (.inr q)
    · rcases one_way (bf_irrefl true) dpP_trans dpP_tri a b h with q | q
      · cases Wd
        · exact .inr (.inl ⟨q.1, q.2, rfl⟩)
        · exact .inl ⟨q.1, q.2, rfl⟩
      · exact .inr (.inr q)
set_option maxHeartbeats 40000000 in
set_option maxRecDepth 100000 in
theorem order_any (w : World) (A0 A1 A2 : Option Addr) (n0 c0 n1 c1 n2 c2 : Nat) (a b c : Pth) (h0 : n0 ≤ 300) (h1 : n1 ≤ 300) (h2 : n2 ≤ 300) (hla : a.length = n0) (hlb : b.length = n1) (hlc : c.length = n2) (hra : Kd.C Kd.string w A0 n0 a) (hrb : Kd.C Kd.string w A1 n1 b) (hrc : Kd.C Kd.string w A2 n2 c) (hc0 : n0 ≤ c0) (hc1 : n1 ≤ c1) (hc2 : n2 ≤ c2) :
    Calls Try.prog 6 #[.slice A0 n0 c0, .slice A1 n1 c1, .slice A2 n2 c2] w fun e w' => e = .returned (.bool true) ∧ Below w.heap.size w w' := by
  have HLA := Lib.hid hla
  have HLB := Lib.hid hlb
  have HLC := Lib.hid hlc
  have HA := Lib.hid (fun W (hW : Below w.heap.size w W) => Kd.C_below hra hW)
  have HBB := Lib.hid (fun W (hW : Below w.heap.size w W) => Kd.C_below hrb hW)
  have HC := Lib.hid (fun W (hW : Below w.heap.size w W) => Kd.C_below hrc hW)
  have HLX := Lib.hid (show ∀ p ∈ [a], p.length ≤ 1099511627776 from fun p hp => by rw [List.mem_singleton.1 hp, hla]; omega)
  obtain ⟨S, hS⟩ : ∃ S, decide ([a] = [b]) = S := ⟨_, rfl⟩
  obtain ⟨X, hX⟩ : ∃ X, ltP a b = X := ⟨_, rfl⟩
  obtain ⟨Y, hY⟩ : ∃ Y, ltP b a = Y := ⟨_, rfl⟩
  obtain ⟨Z, hZ⟩ : ∃ Z, ltP b c = Z := ⟨_, rfl⟩
  obtain ⟨U, hU⟩ : ∃ U, dpP a b = U := ⟨_, rfl⟩
  obtain ⟨V, hV⟩ : ∃ V, dpP b a = V := ⟨_, rfl⟩
  obtain ⟨Wd, hW⟩ : ∃ Wd, dpP b c = Wd := ⟨_, rfl⟩
  have HS := Lib.hid hS
  have HX := Lib.hid hX
  have HY := Lib.hid hY
  have HZ := Lib.hid hZ
  have HU := Lib.hid hU
  have HV := Lib.hid hV
  have HW := Lib.hid hW
  have HB := Lib.hid (Below.refl w.heap.size w)
  have h0z : ¬ ((300 : Int) < (n0 : Int)) := by omega
  have h1z : ¬ ((300 : Int) < (n1 : Int)) := by omega
  have h2z : ¬ ((300 : Int) < (n2 : Int)) := by omega
  have HB2 : Below w.heap.size w ((w.alloc (.cells #[.slice A0 n0 c0] 22)).alloc (.cells #[.slice A1 n1 c1] 22)) := below_alloc (below_alloc (Below.refl _ _) _) _
  have HK1 := Lib.hid (C_single (x := a) (blk_alloc (blk_new w (.cells #[.slice A0 n0 c0] 22)) (.cells #[.slice A1 n1 c1] 22)) hla (Kd.C_below hra HB2) hc0)
  have HK2 := Lib.hid (C_single (x := b) (g := w.heap.size + 1) (w := (w.alloc (.cells #[.slice A0 n0 c0] 22)).alloc (.cells #[.slice A1 n1 c1] 22)) (by have := blk_new (w.alloc (.cells #[.slice A0 n0 c0] 22)) (.cells #[.slice A1 n1 c1] 22); simpa using this) hlb (Kd.C_below hrb HB2) hc1)
  clear HB2 hla hlb hlc hra hrb hrc hS hX hY hZ hU hV hW
  go_enter Try.func6, Try.ntmps6
  go_wp2_with (first
    | (go_at_call 25; ((with_reducible refine (sames_call [a] [b] (some ⟨w.heap.size, 0, none⟩) 1 1 (some ⟨w.heap.size + 1, 0, none⟩) 1 1 S _ HS.out rfl rfl (by omega) HLX.out HK1.out (by omega) HK2.out (by omega)).mono ?_); rintro e wk ⟨rfl, hd⟩; have hb_ := below_step (by repeat (first | exact HB.out | apply below_alloc)) hd.below; clear HB; have HB := Lib.hid hb_; clear hb_ hd))
    | (go_at_call 9; ((with_reducible refine (less_call a b A0 n0 c0 A1 n1 c1 X _ HX.out HLA.out HLB.out (by omega) (HA.out _ (by repeat (first | exact HB.out | apply below_alloc))) hc0 (HBB.out _ (by repeat (first | exact HB.out | apply below_alloc))) hc1).mono ?_); rintro e wk ⟨rfl, hd⟩; have hb_ := below_step (by repeat (first | exact HB.out | apply below_alloc)) hd.below; clear HB; have HB := Lib.hid hb_; clear hb_ hd))
    | (go_at_call 9; ((with_reducible refine (less_call b a A1 n1 c1 A0 n0 c0 Y _ HY.out HLB.out HLA.out (by omega) (HBB.out _ (by repeat (first | exact HB.out | apply below_alloc))) hc1 (HA.out _ (by repeat (first | exact HB.out | apply below_alloc))) hc0).mono ?_); rintro e wk ⟨rfl, hd⟩; have hb_ := below_step (by repeat (first | exact HB.out | apply below_alloc)) hd.below; clear HB; have HB := Lib.hid hb_; clear hb_ hd))
    | (go_at_call 9; ((with_reducible refine (less_call b c A1 n1 c1 A2 n2 c2 Z _ HZ.out HLB.out HLC.out (by omega) (HBB.out _ (by repeat (first | exact HB.out | apply below_alloc))) hc1 (HC.out _ (by repeat (first | exact HB.out | apply below_alloc))) hc2).mono ?_); rintro e wk ⟨rfl, hd⟩; have hb_ := below_step (by repeat (first | exact HB.out | apply below_alloc)) hd.below; clear HB; have HB := Lib.hid hb_; clear hb_ hd))
    | (go_at_call 11; ((with_reducible refine (deeper_call a b A0 n0 c0 A1 n1 c1 U _ HU.out HLA.out HLB.out (by omega) (HA.out _ (by repeat (first | exact HB.out | apply below_alloc))) hc0 (HBB.out _ (by repeat (first | exact HB.out | apply below_alloc))) hc1).mono ?_); rintro e wk ⟨rfl, hd⟩; have hb_ := below_step (by repeat (first | exact HB.out | apply below_alloc)) hd.below; clear HB; have HB := Lib.hid hb_; clear hb_ hd))
    | (go_at_call 11; ((with_reducible refine (deeper_call b a A1 n1 c1 A0 n0 c0 V _ HV.out HLB.out HLA.out (by omega) (HBB.out _ (by repeat (first | exact HB.out | apply below_alloc))) hc1 (HA.out _ (by repeat (first | exact HB.out | apply below_alloc))) hc0).mono ?_); rintro e wk ⟨rfl, hd⟩; have hb_ := below_step (by repeat (first | exact HB.out | apply below_alloc)) hd.below; clear HB; have HB := Lib.hid hb_; clear hb_ hd))
    | (go_at_call 11; ((with_reducible refine (deeper_call b c A1 n1 c1 A2 n2 c2 Wd _ HW.out HLB.out HLC.out (by omega) (HBB.out _ (by repeat (first | exact HB.out | apply below_alloc))) hc1 (HC.out _ (by repeat (first | exact HB.out | apply below_alloc))) hc2).mono ?_); rintro e wk ⟨rfl, hd⟩; have hb_ := below_step (by repeat (first | exact HB.out | apply below_alloc)) hd.below; clear HB; have HB := Lib.hid hb_; clear hb_ hd))
    | ((with_reducible refine gate_dst (N := 52) rfl ?_); refine Kd.R_lit Kd.string (w0 := w) w.heap.size 9 ?hg (N := 52) ?hd (xs := ([] : List ByteArray)) (inner := []) (ok := fun _ => True) (okp := fun _ => True) ?hr ?hp (fun _ hk => hk) trivial (by repeat (first | exact HB.out | apply below_alloc)) (below_size (by repeat (first | exact HB.out | apply below_alloc))) (by simp) ?_; (case hd => rfl); (case hg => rfl); (case hr => first | (go_simp; done) | (go_simp; rfl)); (case hp => exact (Reps.none _ _)); intro v52 wl ho_ hb_ hg_ hn_; have HO := Lib.hid ho_; clear HB; have HB := Lib.hid hb_; clear ho_ hb_ hg_ hn_)
    | ((with_reducible refine gate_builtin (b := .append) (xs := #[.tmp 52, .tmp 53]) rfl ?_); at_builtin; refine Kd.R_append_rows Kd.string (w0 := w) w.heap.size rfl (.tmp 52) (.tmp 53) 22 9 (.string ⟨#[]⟩) 16 rfl Try.underlying22 info9 rfl (by decide) (by omega) v52 [] a _ _ _ (fun _ => True) (fun _ => False) rfl rfl HO.out (HA.out _ HB.out) (fun _ _ h => h) (fun _ h => h.elim) (fun _ _ => trivial) HB.out HB.out.size (by simp; omega) ?_; intro v54 wl ho_ hb_ hg_ hn_; clear HO HB; have HO2 := Lib.hid ho_; have HB := Lib.hid hb_; clear ho_ hb_ hg_ hn_)
    | ((with_reducible refine gate_builtin (b := .append) (xs := #[.tmp 54, .tmp 55]) rfl ?_); at_builtin; refine Kd.R_append Kd.string (w0 := w) w.heap.size rfl (.tmp 54) (.tmp 55) 22 9 (.string ⟨#[]⟩) 16 rfl Try.underlying22 info9 rfl (by decide) (by omega) v54 a ⟨#[120]⟩ [.string ⟨#[120]⟩] (fun _ => True) (fun _ => False) rfl rfl rfl (fun _ hk => hk.elim) (fun _ _ => trivial) HO2.out HB.out HB.out.size (by rw [HLA.out]; omega) ?_; intro v56 wl ho_ hb_ hg_ hn_; clear HO2 HB; (obtain ⟨A5, c5, e_⟩ := Kd.R_slice ho_); subst e_; (have hin_ : (a ++ [(⟨#[120]⟩ : ByteArray)]).length = n0 + 1 := by rw [List.length_append, HLA.out]; rfl); rw [hin_] at ho_ ⊢; have HLI := Lib.hid hin_; have hr5_ := Kd.R_reads' ho_; have HIC := Lib.hid hr5_.2.1; have HB0 := Lib.hid hb_; have HI := Lib.hid (show ∀ W : World, Below wl.heap.size wl W → Kd.C Kd.string W A5 (n0 + 1) (a ++ [⟨#[120]⟩]) from fun W hW => by have := Kd.C_below hr5_.2.2 hW; rw [hin_] at this; exact this); have HA_ := Lib.hid (fun W (hW : Below wl.heap.size wl W) => HA.out W (below_step hb_ hW)); have HC_ := Lib.hid (fun W (hW : Below wl.heap.size wl W) => HC.out W (below_step hb_ hW)); clear HA HC HBB; have HA := HA_; have HC := HC_; clear HA_ HC_; have HB := Lib.hid (Below.refl wl.heap.size wl); clear ho_ hb_ hg_ hn_ hin_ hr5_; (have hcs := order_cases a b S X Y U V Z Wd HS.out HX.out HY.out HU.out HV.out); have HAC := Lib.hid (show X = true → Z = true → ltP a c = true from fun e1 e2 => ltP_trans (HX.out.trans e1) (HZ.out.trans e2)); have HAD := Lib.hid (show U = true → Wd = true → dpP a c = true from fun e1 e2 => dpP_trans (HU.out.trans e1) (HW.out.trans e2)); clear HS HX HY HZ HU HV HW HLX HK1 HK2; (rcases hcs with ⟨rfl, rfl, rfl, rfl, rfl⟩ | ⟨rfl, ⟨rfl, rfl, rfl⟩ | ⟨rfl, rfl, rfl⟩ | ⟨rfl, rfl⟩, ⟨rfl, rfl, rfl⟩ | ⟨rfl, rfl, rfl⟩ | ⟨rfl, rfl⟩⟩))
    | (go_at_call 9; ((with_reducible refine (less_call a c A0 n0 c0 A2 n2 c2 true _ (by have q_ := HAC.out; simpa using q_) HLA.out HLC.out (by omega) (HA.out _ (by repeat (first | exact HB.out | apply below_alloc))) hc0 (HC.out _ (by repeat (first | exact HB.out | apply below_alloc))) hc2).mono ?_); rintro e wk ⟨rfl, hd⟩; have hb_ := below_step (by repeat (first | exact HB.out | apply below_alloc)) hd.below; clear HB; have HB := Lib.hid hb_; clear hb_ hd))
    | (go_at_call 11; ((with_reducible refine (deeper_call a c A0 n0 c0 A2 n2 c2 true _ (by have q_ := HAD.out; simpa using q_) HLA.out HLC.out (by omega) (HA.out _ (by repeat (first | exact HB.out | apply below_alloc))) hc0 (HC.out _ (by repeat (first | exact HB.out | apply below_alloc))) hc2).mono ?_); rintro e wk ⟨rfl, hd⟩; have hb_ := below_step (by repeat (first | exact HB.out | apply below_alloc)) hd.below; clear HB; have HB := Lib.hid hb_; clear hb_ hd))
    | (go_at_call 9; ((with_reducible refine (less_call a (a ++ [⟨#[120]⟩]) A0 n0 c0 A5 (n0 + 1) c5 true _ (ltP_snoc _ _) HLA.out HLI.out (by omega) (HA.out _ (by repeat (first | exact HB.out | apply below_alloc))) hc0 (HI.out _ (by repeat (first | exact HB.out | apply below_alloc))) HIC.out).mono ?_); rintro e wk ⟨rfl, hd⟩; have hb_ := below_step (by repeat (first | exact HB.out | apply below_alloc)) hd.below; clear HB; have HB := Lib.hid hb_; clear hb_ hd))
    | (go_at_call 11; ((with_reducible refine (deeper_call (a ++ [⟨#[120]⟩]) a A5 (n0 + 1) c5 A0 n0 c0 true _ (dpP_snoc _ _) HLI.out HLA.out (by omega) (HI.out _ (by repeat (first | exact HB.out | apply below_alloc))) HIC.out (HA.out _ (by repeat (first | exact HB.out | apply below_alloc))) hc0).mono ?_); rintro e wk ⟨rfl, hd⟩; have hb_ := below_step (by repeat (first | exact HB.out | apply below_alloc)) hd.below; clear HB; have HB := Lib.hid hb_; clear hb_ hd))
    | (go_at_call 8; ((with_reducible refine (awake_call _).mono ?_); rintro e wk ⟨rfl, hd⟩; have hb_ := below_step (by repeat (first | exact HB.out | apply below_alloc)) hd; clear HB; have HB := Lib.hid hb_; clear hb_ hd)))
  all_goals go_ret
  all_goals exact ⟨rfl, below_step HB0.out HB.out⟩
def gessolaw15_WalkOrder.f (a b c : List ByteArray) : Option Bool := some true
theorem gessolaw15_WalkOrder.calls (A0 : Option Addr) (c0 : Nat) (l0 : List ByteArray) (A1 : Option Addr) (c1 : Nat) (l1 : List ByteArray) (A2 : Option Addr) (c2 : Nat) (l2 : List ByteArray) (r : Bool) (w : World) (hr0 : Kd.C Kd.string w A0 l0.length l0) (hc0 : l0.length ≤ c0) (hr1 : Kd.C Kd.string w A1 l1.length l1) (hc1 : l1.length ≤ c1) (hr2 : Kd.C Kd.string w A2 l2.length l2) (hc2 : l2.length ≤ c2) (h : gessolaw15_WalkOrder.f l0 l1 l2 = some r) :
    Calls Try.prog 6 #[.slice A0 l0.length c0, .slice A1 l1.length c1, .slice A2 l2.length c2] w fun e w' => e = .returned (.bool r) ∧ Below w.heap.size w w' := by
  obtain rfl := Option.some.inj h
  by_cases hh : 300 < l0.length ∨ 300 < l1.length ∨ 300 < l2.length
  · exact order_far w A0 A1 A2 l0.length c0 l1.length c1 l2.length c2 hh
  · exact order_any w A0 A1 A2 l0.length c0 l1.length c1 l2.length c2 l0 l1 l2 (by omega) (by omega) (by omega) rfl rfl rfl hr0 hr1 hr2 hc0 hc1 hc2
end Go.Proofs.Ytomhpfgibekmfaa.P
