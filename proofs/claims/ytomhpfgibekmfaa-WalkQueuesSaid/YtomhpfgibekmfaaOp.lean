/- What an argument reads as, whatever its type is made of: numbers, texts, bools, slices of these: its list, that it is as Go holds it, and its bulk. No condition. -/
import Derived.Test.YtomhpfgibekmfaaRows
import Derived.Test.YtomhpfgibekmfaaPx0
import Derived.Deep.Slices
import Derived.ProofKit
import Derived.OpenShut
namespace Go.Proofs.Ytomhpfgibekmfaa.Op
open Go.ChangeShapes Go.WideShapes Go.ChangeAt Go.RowKit Go.Deep Go.Proofs.YtomhpfgibekmfaaW.PrintWords

/-- A type 't' that reads as a kind 'd'. -/
structure Reads {α : Type} (P : Program) (d : Kd α) (t : TypeId) (wf : α → Prop) (bk : α → Nat) : Prop where
  sz : P.cellsOf t = d.sz
  get : ∀ {H : Type} {enc : TypeId × Value → H} {W : World} {fuel : Nat} {cs : List Value} {x : DataW H × List MemPlace},
    DataW.trod enc P W 0 (fun _ => true) true fuel t cs = some x → ∃ y, d.K W y cs ∧ wf y ∧ bk y ≤ Rows.uptoBulk x.1

theorem reads_int {P : Program} {t : TypeId} {k : IntKind} (hu : P.underlying t = some (.int k)) (hc : P.cellsOf t = 1) : Reads P (Kd.int k) t (fun n => (Lit.int k n).wf = true) (fun _ => 1) :=
  ⟨hc, fun h => by
    obtain ⟨n, rfl, rfl, hw⟩ := DataW.trod_int hu h
    exact ⟨n, rfl, hw, by simp [Rows.uptoBulk]⟩⟩

theorem reads_bool {P : Program} {t : TypeId} (hu : P.underlying t = some .bool) (hc : P.cellsOf t = 1) : Reads P Kd.bool t (fun _ => True) (fun _ => 1) :=
  ⟨hc, fun h => by
    obtain ⟨n, rfl, rfl⟩ := DataW.trod_bool hu h
    exact ⟨n, rfl, trivial, by simp [Rows.uptoBulk]⟩⟩

theorem reads_string {P : Program} {t : TypeId} (hu : P.underlying t = some .string) (hc : P.cellsOf t = 1) : Reads P Kd.string t (fun s => s.size ≤ maxLen) (fun s => s.size + 1) :=
  ⟨hc, fun h => by
    obtain ⟨s, rfl, rfl, hw⟩ := DataW.trod_string hu h
    exact ⟨s, rfl, hw, by simp [Rows.uptoBulk]⟩⟩

theorem bulk_range {H : Type} (n : Nat) (D : Nat → DataW H) (bk : Nat → Nat) (h : ∀ i, i < n → bk i ≤ Rows.uptoBulk (D i)) : ((List.range n).map bk).sum ≤ Rows.uptoBulkAll ((List.range n).map D) := by
  have all : ∀ l : List Nat, (∀ i ∈ l, i < n) → (l.map bk).sum ≤ Rows.uptoBulkAll (l.map D) := by
    intro l
    induction l with
    | nil => intro _; simp [Rows.uptoBulkAll]
    | cons i l ih =>
      intro hl
      have h1 := h i (hl i (by simp))
      have h2 := ih (fun j hj => hl j (by simp [hj]))
      simp only [List.map_cons, List.sum_cons, Rows.uptoBulkAll]
      omega
  exact all _ (fun i hi => List.mem_range.1 hi)

theorem reads_slice {α : Type} [Inhabited α] {P : Program} {d : Kd α} {t e : TypeId} {wf : α → Prop} {bk : α → Nat} (h : Reads P d e wf bk) (hu : P.underlying t = some (.slice e)) (hc : P.cellsOf t = 1) :
    Reads P (Kd.slice e d) t (fun l => ∀ x ∈ l, wf x) (fun l => (l.map bk).sum + 1) :=
  ⟨hc, fun {H enc W fuel cs x} ht => by
    rcases open_slice hu ht with ⟨rfl, rfl⟩ | ⟨a, len, cap, m, n, D, Pl, rfl, hb, hl, hm, hmm, rfl, hx⟩
    · exact ⟨[], ⟨none, 0, rfl, Nat.le_refl _, Kd.C_nil _ _⟩, by simp, by simp [Rows.uptoBulk]⟩
    · rw [if_pos rfl] at hmm
      subst hmm
      obtain ⟨Y, hY⟩ := choose_lt (α := α) (n := len) (p := fun i y => wf y ∧ bk y ≤ Rows.uptoBulk (D i) ∧ ∃ c : List Value, c.length = d.sz ∧ d.K W y c ∧ ∀ j u, c[j]? = some u → W.cell? (a.add (i * d.sz + j)) = some u) (fun i hi => by
        obtain ⟨cs', h1, h2⟩ := hx i (by omega)
        obtain ⟨y, hk, hw, hbk⟩ := h.get h2
        obtain ⟨_, hlen, hcell⟩ := World.cells?_some h1
        refine ⟨y, hw, hbk, cs', d.K_len hk, hk, fun j u hj => ?_⟩
        have hjl : j < cs'.length := (List.getElem?_eq_some_iff.1 hj).1
        rw [← hj, ← hcell j (by omega), Go.Deep.add_add, h.sz])
      refine ⟨(List.range len).map Y, ⟨some a, m, by simp, by simpa using hl, ⟨rfl, by simp only [List.length_map, List.length_range]; unfold maxLen at hm; omega, fun _ => ⟨a, rfl, fun j p hj => ?_⟩⟩⟩, ?_, ?_⟩
      · have hjl : j < len := by have := (List.getElem?_eq_some_iff.1 hj).1; simpa using this
        obtain rfl : p = Y j := by simpa [hjl] using hj.symm
        exact (hY j hjl).2.2
      · intro x hx'
        simp only [List.mem_map, List.mem_range] at hx'
        obtain ⟨i, hi, rfl⟩ := hx'
        exact (hY i hi).1
      · have hs := bulk_range len D (fun i => bk (Y i)) (fun i hi => (hY i hi).2.1)
        simp only [Rows.uptoBulk, List.map_map]
        have e : (List.range len).map (bk ∘ Y) = (List.range len).map (fun i => bk (Y i)) := rfl
        rw [e]
        omega⟩

/-- A slice that came in. -/
theorem open_row {α : Type} {P : Program} {d : Kd α} {t e : TypeId} {wf : List α → Prop} {bk : List α → Nat} (h : Reads P (Kd.slice e d) t wf bk) (hu : P.underlying t = some (.slice e))
    {H : Type} {enc : TypeId × Value → H} {W : World} {base : Nat} {v : Value} {x : DataW H} {p : List MemPlace} (hv : Value.okWide P W .any base t v) (hr : DataW.Trod enc P W 0 (fun _ => true) true t v x p) :
    ∃ (A : Option Addr) (l : List α) (c : Nat), v = .slice A l.length c ∧ l.length ≤ c ∧ d.C W A l.length l ∧ wf l ∧ bk l ≤ Rows.uptoBulk x := by
  obtain ⟨a, len, cap, rfl⟩ := okWide_slice hu hv
  obtain ⟨fuel, hf⟩ := hr
  obtain ⟨l, ⟨A, c, hcs, hl, hC⟩, hw, hb⟩ := h.get hf
  simp [Value.cells] at hcs
  obtain ⟨rfl, rfl, rfl⟩ := hcs
  exact ⟨_, l, _, rfl, hl, hC, hw, hb⟩

theorem bulk_two {H : Type} (d0 : DataW H) (r : List (DataW H)) : Rows.uptoBulkAll (d0 :: r) = Rows.uptoBulk d0 + Rows.uptoBulkAll r := by simp [Rows.uptoBulkAll]
theorem bulk_small {H : Type} {l : List (DataW H)} (hk : Rows.uptoSmall H l = true) : Rows.uptoBulkAll l ≤ 1048576 := of_decide_eq_true hk

end Go.Proofs.Ytomhpfgibekmfaa.Op
