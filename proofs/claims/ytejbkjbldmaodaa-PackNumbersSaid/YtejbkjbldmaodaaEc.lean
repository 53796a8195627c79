/- The conversion of a string to bytes, told as a call: a new row that reads as the string's bytes. Condition: the string's size fits an int. -/
import Derived.Test.YtejbkjbldmaodaaPx0
import Derived.Lib.SlBytesConst
namespace Go.Proofs.Ytejbkjbldmaodaa.P
open Go.RowKit Go.Proofs.YtejbkjbldmaodaaW.PrintWords Go.Proofs.YtejbkjbldmaodaaW.PrintLast Go.Proofs.YtejbkjbldmaodaaW.PrintMore
set_option linter.unusedVariables false
set_option linter.unusedSimpArgs false

/-- A conversion, as a call is told. -/
def ConvC (P : Program) (src dst : TypeId) (v : Value) (w : World) (Q : Ending → World → Prop) : Prop := ∃ u w', (convert src dst v).run P w = .ok u w' ∧ Q (.returned u) w'

theorem ConvC.mono {P : Program} {src dst : TypeId} {v : Value} {w : World} {Q Q' : Ending → World → Prop} (h : ConvC P src dst v w Q) (hq : ∀ e w', Q e w' → Q' e w') : ConvC P src dst v w Q' := by
  obtain ⟨u, w', h1, h2⟩ := h
  exact ⟨u, w', h1, hq _ _ h2⟩

section
variable {P : Program} {ops : Array Oper} {rest : List Oper} {o : Oper} {a : Act} {Q : Exit → Act → World → Prop} {W : World}
theorem gate_conv {s_ d_ : TypeId} {x : Operand} (_ho : o.op = .convert s_ d_ x) (h : wpList P ops Q (o :: rest) a W) : wpList P ops Q (o :: rest) a W := h
theorem goesC_ (N : Option Tmp) (hd : o.dst = N) (hg : o.guard = none) (src dst : TypeId) (v : Value) {x : Operand} (hop : o.op = .convert src dst x) (hx : a.eval x = v)
    (h : ConvC P src dst v W fun e w' => ∃ u, e = .returned u ∧ wpList P ops Q rest (a.put N u) w') : wpList P ops Q (o :: rest) a W := by
  obtain ⟨u, w', hrun, u', he, hq⟩ := h
  cases he
  refine Kd.event_run hg (w1 := w') (v := u) ?_ (by rw [hd]; exact hq)
  unfold execOp
  rw [hop]
  simp only [hx, Sem.run_map, hrun]
  simp [hrun]
end

def conv_bytes.f (a0 : ByteArray) : Option (List Int) := if a0.size ≤ 9223372036854775807 then some (bytesOf a0) else none

theorem cell_of_block {w w1 : World} {g : Nat} (h : w1.heap[g]? = w.heap[g]?) (j : Nat) : w1.cell? ⟨g, j, none⟩ = w.cell? ⟨g, j, none⟩ := by
  simp [World.cell?, h]

theorem conv_bytes.calls (a0 : ByteArray) (r : List Int) (w : World) (h : conv_bytes.f a0 = some r) :
    ConvC Try.prog 9 23 (.string a0) w fun e w' => ∃ v0_ : Value, e = .returned (v0_) ∧ Kd.V (Kd.int .u8) 5 w' w.heap.size (fun k_ => (w.heap.size ≤ k_)) v0_ r ∧ Below w.heap.size w w' := by
  unfold conv_bytes.f at h
  by_cases hs : a0.size ≤ 9223372036854775807
  · rw [if_pos hs] at h
    obtain rfl := Option.some.inj h
    refine ⟨_, _, print_bytes 9 23 5 Try.underlying9 Try.underlying23 Try.underlying5 a0 w, _, rfl, ?_, bytes_below (Below.refl _ _) (Nat.le_refl _) _ _⟩
    have hR := bytes_reads w 5 a0 hs
    rw [show a0.size = (bytesOf a0).length from (bytesOf_length a0).symm]
    refine Kd.V_mk (by rw [bytesOf_length]; exact grownCap_ge _ _ _ _) (fun W' hW => ?_)
    refine Kd.C_of_reads (d := (0 : Int)) (h1 := fun _ => rfl) (readsInt_of.1 ?_)
    rw [bytesOf_length]
    obtain ⟨h1, h2, h3⟩ := hR
    refine ⟨h1, h2, fun hn => ?_⟩
    obtain ⟨ad, e, hc⟩ := h3 hn
    cases e
    refine ⟨_, rfl, fun j hj => ?_⟩
    rw [← hc j hj, add_plain]
    refine cell_of_block (hW _ (Nat.le_refl _) ?_) j
    rw [Lib.bytesWorld_size]
    omega
  · rw [if_neg hs] at h
    cases h

/-- A literal's bytes: the row built and marked. -/
def conv_lit_97_98.f : Option (List Int) := some [97, 98]

theorem cell_mark (w : World) (C : Array Value) (e : TypeId) (f : Nat × Nat) (j : Nat) : (w.alloc (.cells C e f)).cell? ⟨w.heap.size, j, none⟩ = C[j]? := by
  have h : (w.alloc (.cells C e f)).heap[w.heap.size]? = some (.cells C e f) := blk_new w _
  unfold World.cell?; rw [h]; simp

theorem conv_lit_97_98.calls (r : List Int) (w : World) (h : conv_lit_97_98.f = some r) :
    ConvC Try.prog 23 23 (.slice (some ⟨w.heap.size, 0, none⟩) 2 2) (w.alloc (.cells #[.int .u8 97, .int .u8 98] 5)) fun e w' => ∃ v0_ : Value, e = .returned (v0_) ∧ Kd.V (Kd.int .u8) 5 w' w.heap.size (fun k_ => (w.heap.size ≤ k_)) v0_ r ∧ Below w.heap.size w w' := by
  obtain rfl := Option.some.inj h
  refine ⟨_, _, Lib.run_convert_bytes_const (P := Try.prog) w 23 5 _ 2 2 Try.underlying23 Try.underlying5, _, rfl, ?_, (Below.refl _ _).alloc (Nat.le_refl _) _⟩
  refine Kd.V_mk (xs := [97, 98]) (by decide) (fun W' hW => ?_)
  refine Kd.C_of_reads (d := (0 : Int)) (h1 := fun _ => rfl) ⟨rfl, by decide, fun _ => ⟨_, rfl, fun j hj => ?_⟩⟩
  rw [add_plain, cell_of_block (hW _ (Nat.le_refl _) (by simp)) j, cell_mark]
  match j, hj with
  | 0, _ => rfl
  | 1, _ => rfl

/-! Texts above one another -/
theorem u8_lt_irrefl (x : UInt8) : ¬ x < x := by simp
theorem less_swap : ∀ a b : List UInt8, (!(Op.bytesLess a b || a == b)) = Op.bytesLess b a := by
  intro a
  induction a with
  | nil => intro b; cases b <;> simp [Op.bytesLess]
  | cons x a ih =>
    intro b
    cases b with
    | nil => simp [Op.bytesLess]
    | cons y b =>
      have h := ih b
      simp only [Op.bytesLess, List.cons_beq_cons]
      by_cases e : x = y
      · subst e
        simp only [beq_self_eq_true, Bool.true_and, decide_eq_false (u8_lt_irrefl x), Bool.false_or]
        exact h
      · have h1 : (x == y) = false := beq_eq_false_iff_ne.mpr e
        have h2 : (y == x) = false := beq_eq_false_iff_ne.mpr (fun h => e h.symm)
        simp only [h1, h2, Bool.false_and, Bool.or_false]
        have h3 : x.toNat ≠ y.toNat := fun h => e (UInt8.toNat_inj.1 h)
        by_cases l : x < y
        · have : ¬ y < x := by simp only [UInt8.lt_iff_toNat_lt] at *; omega
          simp [l, this]
        · have : y < x := by simp only [UInt8.lt_iff_toNat_lt] at *; omega
          simp [l, this]
theorem str_gtr.calls (t : TypeId) (a b : ByteArray) : binOp .gtr t (.string a) (.string b) = pure (.bool (Op.bytesLess b.toList a.toList)) := by
  rw [← less_swap]; simp [binOp, Op.stringOp]

end Go.Proofs.Ytejbkjbldmaodaa.P
