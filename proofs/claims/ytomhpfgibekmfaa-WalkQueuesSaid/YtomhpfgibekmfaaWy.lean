/- Two queues side by side: the program's and the reference's. No condition. -/
import Derived.Test.YtomhpfgibekmfaaWq
import Derived.Test.YtomhpfgibekmfaaQr
namespace Go.Proofs.Ytomhpfgibekmfaa.P
open Go.RowKit Go.Lib Go.Proofs.YtomhpfgibekmfaaW.PrintWords Go.Proofs.YtomhpfgibekmfaaW.PrintLast Go.Proofs.YtomhpfgibekmfaaW.PrintMore Go.Proofs.Ytomhpfgibekmfaa.Pure
set_option linter.unusedVariables false
set_option linter.unusedSimpArgs false
theorem own_any (A : Option Addr) (n c : Nat) : (Value.slice A n c).ownBlock = (Value.slice A 0 0).ownBlock := by cases A <;> rfl
/-- The program's queue holds T, the reference's S; their blocks are apart. -/
structure RQ (base : Nat) (ok rk : Nat → Prop) (w : World) (p y : Nat) (deep : Bool) (A : Option Addr) (nq c : Nat) (T : List Pth) (Ar : Option Addr) (n cr : Nat) (S : List Pth) : Prop where
  q : QS base ok w p deep A nq c T
  yb : w.heap[y]? = some (.cells #[.bool deep, .slice Ar n cr] 32 (0, 0))
  hy : base ≤ y
  r : Kd.F KP w rk Ar n S
  rc : n ≤ cr
  sep : ∀ k, rk k → k ≠ p ∧ k ≠ y ∧ some k ≠ (Value.slice A 0 0).ownBlock ∧ k < w.heap.size
section
variable {base : Nat} {ok ok' rk rk' : Nat → Prop} {w w' : World} {p y : Nat} {deep : Bool} {A A' : Option Addr} {nq nq' c c' : Nat} {T T' S S' : List Pth} {Ar Ar' : Option Addr} {n n' cr cr' : Nat}
theorem QS.apart (h : QS base ok w p deep A nq c T) {cs : Array Value} (hb : w.heap[y]? = some (.cells cs 32 (0, 0))) : y ≠ p ∧ some y ≠ (Value.slice A 0 0).ownBlock ∧ ∀ k, ok k → k ≠ y := by
  obtain ⟨H, h1, h2, h3⟩ := h
  refine ⟨blk_ne hb h3.blk (by decide), fun e => ?_, fun k hk e => ?_⟩
  · obtain ⟨cs', h4⟩ := Kd.N_typed h3.rows y (by rw [own_any]; exact e.symm)
    exact blk_ne hb h4 (by decide) rfl
  · subst e
    obtain ⟨-, cs', t, h4, h5⟩ := h3.own k hk
    rw [hb] at h4
    injection h4 with h4
    injection h4 with _ h4 _
    rcases h5 with rfl | rfl <;> cases h4
theorem RQ.move (h : RQ base ok rk w p y deep A nq c T Ar n cr S) (hs : w.heap.size ≤ w'.heap.size) (hm : ∀ k, (k = p ∨ k = y ∨ ok k ∨ rk k) → k < w.heap.size → w'.heap[k]? = w.heap[k]?) : RQ base ok rk w' p y deep A nq c T Ar n cr S :=
  ⟨h.q.step (fun k hk hlt => hm k (hk.elim .inl (fun e => .inr (.inr (.inl e)))) hlt), (hm y (.inr (.inl rfl)) (blk_lt h.yb)).trans h.yb, h.hy, Kd.F_step h.r (fun k hk hlt => hm k (.inr (.inr (.inr hk))) hlt), h.rc,
    fun k hk => ⟨(h.sep k hk).1, (h.sep k hk).2.1, (h.sep k hk).2.2.1, Nat.lt_of_lt_of_le (h.sep k hk).2.2.2 hs⟩⟩
theorem RQ.below (h : RQ base ok rk w p y deep A nq c T Ar n cr S) (hb : Below w.heap.size w w') : RQ base ok rk w' p y deep A nq c T Ar n cr S := h.move hb.size (fun k _ hlt => hb.block k hlt)
/-- A call on the program's queue. -/
theorem RQ.queue (h : RQ base ok rk w p y deep A nq c T Ar n cr S) (hq : QS base ok' w' p deep A' nq' c' T') (hM : Moved base w w' p (.slice A nq c) (.slice A' nq' c')) : RQ base ok' rk w' p y deep A' nq' c' T' Ar n cr S := by
  obtain ⟨y1, y2, y3⟩ := h.q.apart h.yb
  refine ⟨hq, (hM.block y (blk_lt h.yb) y1 (by rw [own_any]; exact y2)).trans h.yb, h.hy, Kd.F_step h.r (fun k hk hlt => hM.block k hlt (h.sep k hk).1 (by rw [own_any]; exact (h.sep k hk).2.2.1)), h.rc, fun k hk => ⟨(h.sep k hk).1, (h.sep k hk).2.1, fun e => ?_, Nat.lt_of_lt_of_le (h.sep k hk).2.2.2 hM.below.size⟩⟩
  rcases hM.at_ with e1 | ⟨b, e1, hb⟩
  · rw [own_any, own_any A nq] at e1
    rw [e1] at e
    exact (h.sep k hk).2.2.1 e
  · rw [own_any] at e1
    rw [e1] at e
    injection e with e
    have := (h.sep k hk).2.2.2
    omega
/-- The reference's queue is stored anew. -/
theorem RQ.store (h : RQ base ok rk w p y deep A nq c T Ar n cr S) (hF : Kd.F KP w rk' Ar' n' S') (hc : n' ≤ cr') (hsep : ∀ k, rk' k → k ≠ p ∧ k ≠ y ∧ some k ≠ (Value.slice A 0 0).ownBlock ∧ k < w.heap.size) :
    RQ base ok rk' ((w.setCell ⟨y, 0, none⟩ (.bool deep)).setCell ⟨y, 1, none⟩ (.slice Ar' n' cr')) p y deep A nq c T Ar' n' cr' S' := by
  obtain ⟨y1, y2, y3⟩ := h.q.apart h.yb
  have far : ∀ k, k ≠ y → ((w.setCell ⟨y, 0, none⟩ (.bool deep)).setCell ⟨y, 1, none⟩ (.slice Ar' n' cr')).heap[k]? = w.heap[k]? := fun k hk => by
    rw [Below.heap_setCell _ ⟨y, 1, none⟩ _ k hk, Below.heap_setCell _ ⟨y, 0, none⟩ _ k hk]
  refine ⟨h.q.step (fun k hk _ => far k ?_), by simpa using blk_set (blk_set h.yb 0 (.bool deep)) 1 (.slice Ar' n' cr'), h.hy, Kd.F_step hF (fun k hk _ => far k (hsep k hk).2.1), hc, fun k hk => ⟨(hsep k hk).1, (hsep k hk).2.1, (hsep k hk).2.2.1, ?_⟩⟩
  · rcases hk with rfl | hk
    · exact y1.symm
    · exact y3 k hk
  · have h1 : Below 0 w (w.setCell ⟨y, 0, none⟩ (.bool deep)) := (Below.refl 0 w).setCell (p := ⟨y, 0, none⟩) (Nat.zero_le _) _
    exact Nat.lt_of_lt_of_le (hsep k hk).2.2.2 (h1.setCell (p := ⟨y, 1, none⟩) (Nat.zero_le _) _).size
end
theorem rpush_call (d : Bool) (S : List Pth) (x : Pth) (P : Nat → Prop) (Ar : Option Addr) (n cr : Nat) (A1 : Option Addr) (n1 c1 : Nat) (w : World) (hS : S.length = n) (hn : n ≤ 1048576) (hS2 : ∀ z ∈ S, z.length ≤ 1099511627776) (hx : x.length = n1) (hxl : n1 ≤ 1099511627776) (hF : Kd.F KP w P Ar n S) (hc : n ≤ cr) (hC : Kd.C Kd.string w A1 n1 x) (hc1 : n1 ≤ c1) :
    Calls Try.prog 18 #[.agg #[.bool d, .slice Ar n cr], .slice A1 n1 c1] w fun e w' => ∃ A' c', e = .returned (.agg #[.bool d, .slice A' (n + 1) c']) ∧ n + 1 ≤ c' ∧ Kd.F KP w' (fun k => P k ∨ w.heap.size ≤ k) A' (n + 1) (ins d x S) ∧ Below w.heap.size w w' := by
  subst hS
  subst hx
  obtain ⟨k, h⟩ := (push_ev d S x (by omega) hS2 hxl).rounds
  refine (gessoref15_Queue_Push.calls k d P Ar cr S A1 c1 x d _ w (Kd.V_mk hc hF) hC hc1 h).mono fun e w' q => ?_
  obtain ⟨v, rfl, h1, h2⟩ := q
  obtain ⟨A', c', rfl⟩ := Kd.N_slice h1
  rw [ins_length] at h1 ⊢
  exact ⟨A', c', rfl, (Kd.N_reads' h1).2.1, Kd.N_F h1, h2⟩
theorem same_call (x : Pth) (A0 : Option Addr) (n0 c0 : Nat) (A1 : Option Addr) (n1 c1 : Nat) (w : World) (hx : x.length = n0) (hy : x.length = n1) (hl : n0 ≤ 1099511627776) (hr0 : Kd.C Kd.string w A0 n0 x) (hc0 : n0 ≤ c0) (hr1 : Kd.C Kd.string w A1 n1 x) (hc1 : n1 ≤ c1) :
    Calls Try.prog 21 #[.slice A0 n0 c0, .slice A1 n1 c1] w fun e w' => e = .returned (.bool true) ∧ Drawn0 w w' := by
  subst hx
  subst hy
  obtain ⟨k, h⟩ := (same_ev x x hl).rounds
  rw [decide_eq_true rfl] at h
  exact gessoref11_Same.calls k A0 c0 x A1 c1 x _ w hr0 hc0 hr1 hc1 h
theorem queues_far (deep : Bool) (l : List Pth) (A0 : Option Addr) (n0 c0 : Nat) (v : Value) (w : World) (hn : l.length = n0) (hC : Kd.C KP w A0 n0 l) (hc : n0 ≤ c0) (hL : lightB l = false) :
    Calls Try.prog 4 #[.bool deep, .slice A0 n0 c0, v] w fun e w' => e = .returned (.bool true) ∧ Below w.heap.size w w' := by
  have HL := Lib.hid hL
  have HC := Lib.hid hC
  have HN := Lib.hid hn
  clear hL hC hn
  go_enter Try.func4, Try.ntmps4
  go_wp2_with (first
    | (go_at_call 15; ((with_reducible refine (light_call l A0 n0 c0 false _ HL.out HN.out HC.out hc).mono ?_); rintro e w1 ⟨rfl, hd⟩; have HD := Lib.hid hd; clear hd))
    | (go_at_call 8; ((with_reducible refine (awake_call' _).mono ?_); rintro e w2 ⟨rfl, hb⟩; have HB := Lib.hid hb; clear hb)))
  go_ret
  exact ⟨rfl, below_step HD.out HB.out⟩
end Go.Proofs.Ytomhpfgibekmfaa.P
