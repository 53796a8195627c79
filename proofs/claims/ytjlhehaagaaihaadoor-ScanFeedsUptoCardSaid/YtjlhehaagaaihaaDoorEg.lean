/- Three rows grown beside each other, in any order: a region that draws its order. Plain theorems. -/
import Derived.Test.YtjlhehaagaaihaaDoorPx18
import Derived.Test.YtjlhehaagaaihaaDoorWMore
import Derived.Test.YtjlhehaagaaihaaDoorWNEv
import Derived.Test.YtjlhehaagaaihaaDoorPx0
import Derived.Test.YtjlhehaagaaihaaDoorPx7
import Derived.Test.YtjlhehaagaaihaaDoorPx8
-- Gh
namespace Go.Proofs.YtjlhehaagaaihaaDoor.P
open Go.RowKit Go.Lib Go.Proofs.YtjlhehaagaaihaaDoorW.PrintWords Go.Proofs.YtjlhehaagaaihaaDoorW.PrintLast Go.Proofs.YtjlhehaagaaihaaDoorW.PrintMore
set_option linter.unusedVariables false
set_option linter.unusedSimpArgs false

/-- A row of bytes of the call's own, in blocks of number e. -/
def Slot (own : Nat → Nat) (w : World) (base e : Nat) (v : Value) (l : List Int) : Prop := Kd.R (Kd.int .u8) 5 w base (fun k => own k = e) v l
def ext (own : Nat → Nat) (w : World) (e : Nat) : Nat → Nat := fun k => if k < w.heap.size then own k else e
theorem Slot.keep {own : Nat → Nat} {w w1 : World} {base e s : Nat} {v : Value} {l : List Int} (h : Slot own w base e v l) {row : Option Nat} (hg : w.grownBy w1 row) (hrow : ∀ k, row = some k → own k = s) (hne : e ≠ s) : Slot (ext own w s) w1 base e v l := by
  refine Kd.R_mono (Kd.R_step (Kd.R_mono (Kd.R_bound h) (ok' := fun k => own k = e ∧ k < w.heap.size) (fun k hk => ⟨hk.1, hk.2.2.1⟩)) (fun k ho hk => hg.block k hk (fun he => hne (ho.1.symm.trans (hrow k he.symm))))) (fun k hk => ?_)
  show ext own w s k = e
  unfold ext
  rw [if_pos hk.2]
  exact hk.1
theorem Slot.row {own : Nat → Nat} {w : World} {base e : Nat} {v : Value} {l : List Int} (h : Slot own w base e v l) : ∀ k, v.ownBlock = some k → own k = e := h.1
theorem Slot.same {own : Nat → Nat} {w : World} {base e : Nat} {v : Value} {l : List Int} (h : Slot own w base e v l) : Slot (ext own w e) w base e v l :=
  Kd.R_mono (Kd.R_bound h) (fun k hk => by show ext own w e k = e; unfold ext; rw [if_pos hk.2.2.1]; exact hk.1)
def upd {α : Type} (f : Nat → α) (n : Nat) (v : α) : Nat → α := fun k => if k = n then v else f k
theorem upd_ne {α : Type} (f : Nat → α) {n k : Nat} (v : α) (h : k ≠ n) : upd f n v k = f k := if_neg h
theorem upd_eq {α : Type} (f : Nat → α) (n : Nat) (v : α) : upd f n v n = v := if_pos rfl

section
variable {ops : Array Oper} {Q : Exit → Act → World → Prop} {W0 : World}
def IsLit (ops : Array Oper) (i n : Nat) (l : List Int) : Prop := ∃ o, ops[i]? = some o ∧ o.dst = some n ∧ o.guard = none ∧ o.after = #[] ∧ ∀ (a : Act) (W : World), (execOp a.eval o).run Tryd.prog W = .ok (.value (.slice (some ⟨W.heap.size, 0, none⟩) l.length l.length)) (W.alloc (.cells (l.map (Value.int .u8)).toArray 5))
def IsApp (ops : Array Oper) (i n s x : Nat) (deps : List Nat) : Prop := ∃ o, ops[i]? = some o ∧ o.dst = some n ∧ o.guard = none ∧ o.op = .call { callee := .builtin .append, args := #[.tmp s, .tmp x], argTypes := #[23, 23] } ∧
  (∀ d ∈ deps, ∃ e ∈ o.after, e.on = d ∧ Region.binds .any e = true) ∧ ∀ e ∈ o.after, e.on ∈ deps

theorem ev_ {S : World → Prop} {i fuel : Nat} {l : Array Bool} {oi : Oper} {a : Act} {w : World} (hi : ops[i]? = some oi)
    (h : ∀ K : Act → World → Prop, (∀ a' w', S w' → wpAnyLast Tryd.prog .any ops Q S [26] fuel (l.setIfInBounds i true) a' w' → K a' w') → if Region.wanted oi (yielded ops a.tmps) = true then Oper.wp Tryd.prog oi a w K Q else K (a.put oi.dst undef) w) :
    wpOp Tryd.prog ops Q i (fun a' w' => (i ∉ ([26] : List Nat) → S w → S w') ∧ wpAnyLast Tryd.prog .any ops Q S [26] fuel (l.setIfInBounds i true) a' w') a w :=
  wpOp_step hi (fun K' hK => h K' (fun a' w' hS hW => hK a' w' ⟨fun _ _ => hS, hW⟩))

theorem reps_u8 (W : World) (base : Nat) (okp : Nat → Prop) : ∀ l : List Int, Reps ((Kd.int .u8).M W base okp) (Kd.int .u8).sz l (l.map (Value.int .u8))
  | [] => Reps.none _ _
  | _ :: r => Reps.one rfl (reps_u8 W base okp r)
/-- A row is made. -/
theorem lit_ {i n : Nat} {l : List Int} (h : IsLit ops i n l) {own : Nat → Nat} {a : Act} {w : World} {fuel : Nat} {ls : Array Bool} (e : Nat) (hB : Below W0.heap.size W0 w) (hl : l.length ≤ 1000)
    (hk : ∀ v w1, Below W0.heap.size W0 w1 → w.grownBy w1 none → Slot (ext own w e) w1 W0.heap.size e v l → wpAnyLast Tryd.prog .any ops Q (fun W => Below W0.heap.size W0 W) [26] fuel (ls.setIfInBounds i true) (a.put (some n) v) w1) :
    wpOp Tryd.prog ops Q i (fun a' w' => (i ∉ ([26] : List Nat) → Below W0.heap.size W0 w → Below W0.heap.size W0 w') ∧ wpAnyLast Tryd.prog .any ops Q (fun W => Below W0.heap.size W0 W) [26] fuel (ls.setIfInBounds i true) a' w') a w := by
  obtain ⟨o, ho, hd, hgd, _, hrun⟩ := h
  refine ev_ ho (fun K hK => ?_)
  refine Kd.R_lit_step (Kd.int .u8) (w0 := W0) W0.heap.size 5 (by simp [Region.wanted, hgd]) hd (xs := l) (inner := l.map (Value.int .u8)) (ok := fun k => ext own w e k = e) (okp := fun k => ext own w e k = e) (hrun a w) (reps_u8 _ _ _ l) (fun _ hk => hk) ?_ hB hB.size (by omega) ?_
  · show ext own w e w.heap.size = e
    unfold ext
    rw [if_neg (Nat.lt_irrefl _)]
  · intro v1 w1 h1 h2 h3 _
    rw [hd]
    exact hK _ _ h2 (hk v1 w1 h2 h3 h1)
/-- A row is grown by another. -/
theorem app_ {i n s x : Nat} {deps : List Nat} (h : IsApp ops i n s x deps) {own : Nat → Nat} {a : Act} {w : World} {fuel : Nat} {ls : Array Bool} (e : Nat) (hB : Below W0.heap.size W0 w) {v : Value} {l m : List Int} {A : Option Addr} {q c : Nat}
    (hs : a.eval (.tmp s) = v) (hx : a.eval (.tmp x) = .slice A q c) (hS : Slot own w W0.heap.size e v l) (hC : Kd.C (Kd.int .u8) w A q m) (hl : l.length + m.length ≤ 140737488355328)
    (hk : ∀ v1 w1, Below W0.heap.size W0 w1 → w.grownBy w1 v.ownBlock → Slot (ext own w e) w1 W0.heap.size e v1 (l ++ m) → wpAnyLast Tryd.prog .any ops Q (fun W => Below W0.heap.size W0 W) [26] fuel (ls.setIfInBounds i true) (a.put (some n) v1) w1) :
    wpOp Tryd.prog ops Q i (fun a' w' => (i ∉ ([26] : List Nat) → Below W0.heap.size W0 w → Below W0.heap.size W0 w') ∧ wpAnyLast Tryd.prog .any ops Q (fun W => Below W0.heap.size W0 W) [26] fuel (ls.setIfInBounds i true) a' w') a w := by
  obtain ⟨o, ho, hd, hgd, hop, _, _⟩ := h
  have hm : m.length = q := hC.1
  refine ev_ ho (fun K hK => ?_)
  refine Kd.R_append_rows_step (Kd.int .u8) (w0 := W0) W0.heap.size (by simp [Region.wanted, hgd]) (.tmp s) (.tmp x) 23 5 (.int .u8 0) 1 hop Tryd.underlying23 info5 rfl (by decide) (by omega) v l m A q c (fun k => ext own w e k = e) (fun _ => False) hs hx hS.same hC (fun _ _ h => h) (fun _ h => h.elim) ?_ hB hB.size (by omega) ?_
  · intro k hk
    show ext own w e k = e
    unfold ext
    rw [if_neg (by omega)]
  · intro v1 w1 h1 h2 h3 _
    rw [hd]
    exact hK _ _ h2 (hk v1 w1 h2 h3 h1)

/-- One of the three rows, as far as it has come. -/
structure Ch (own : Nat → Nat) (w : World) (base : Nat) (row : List Int) (x : Int) (e : Nat) (bL bA bX bB : Bool) (vL vA vX vB : Value) : Prop where
  cA : bA = true → bL = true
  cB : bB = true → bA = true ∧ bX = true
  hL : bL = true → bA = false → Slot own w base (2 * e) vL []
  hA : bA = true → bB = false → Slot own w base (2 * e) vA row
  hX : bX = true → bB = false → Slot own w base (2 * e + 1) vX [x]
  hB : bB = true → Slot own w base (2 * e) vB (row ++ [x])
theorem Ch.keep {own : Nat → Nat} {w w1 : World} {base s : Nat} {row : List Int} {x : Int} {e : Nat} {bL bA bX bB : Bool} {vL vA vX vB : Value} (h : Ch own w base row x e bL bA bX bB vL vA vX vB) {r : Option Nat} (hg : w.grownBy w1 r) (hr : ∀ k, r = some k → own k = s)
    (h0 : 2 * e ≠ s) (h1 : 2 * e + 1 ≠ s) : Ch (ext own w s) w1 base row x e bL bA bX bB vL vA vX vB :=
  ⟨h.cA, h.cB, fun a b => (h.hL a b).keep hg hr h0, fun a b => (h.hA a b).keep hg hr h0, fun a b => (h.hX a b).keep hg hr h1, fun a => (h.hB a).keep hg hr h0⟩

/-- What has come up: the moves and the loads, and what b tells of. -/
def mk (b : Nat → Bool) : Array Bool := #[true, b 1, true, true, true, true, b 6, b 7, b 8, b 9, true, true, true, true, b 14, b 15, b 16, b 17, true, true, true, true, b 22, b 23, b 24, false, false, false]
def one (b : Bool) : Nat := if b then 0 else 1
def cnt (b : Nat → Bool) : Nat := one (b 1) + one (b 6) + one (b 7) + one (b 8) + one (b 9) + one (b 14) + one (b 15) + one (b 16) + one (b 17) + one (b 22) + one (b 23) + one (b 24)
structure Ops3 (ops : Array Oper) (x0 x1 x2 : Int) : Prop where
  o1 : IsLit ops 1 39 []
  o6 : IsApp ops 6 44 39 43 [1, 5]
  o7 : IsLit ops 7 45 [x0]
  o8 : IsApp ops 8 46 44 45 [6, 7]
  o9 : IsLit ops 9 47 []
  o14 : IsApp ops 14 52 47 51 [9, 13, 8]
  o15 : IsLit ops 15 53 [x1]
  o16 : IsApp ops 16 54 52 53 [14, 15]
  o17 : IsLit ops 17 55 []
  o22 : IsApp ops 22 60 55 59 [17, 21, 16]
  o23 : IsLit ops 23 61 [x2]
  o24 : IsApp ops 24 62 60 61 [22, 23]
  o25 : ∃ o, ops[25]? = some o ∧ (∃ e ∈ o.after, e.on = 8 ∧ Region.binds .any e = true) ∧ (∃ e ∈ o.after, e.on = 16 ∧ Region.binds .any e = true) ∧ ∃ e ∈ o.after, e.on = 24 ∧ Region.binds .any e = true
  o26 : ∃ o, ops[26]? = some o ∧ ∃ e ∈ o.after, e.on = 25 ∧ Region.binds .any e = true
  o27 : ∃ o, ops[27]? = some o ∧ ∃ e ∈ o.after, e.on = 26 ∧ Region.binds .any e = true
theorem lit_ready {i n : Nat} {l : List Int} (h : IsLit ops i n l) {ls : Array Bool} (hu : ls.getD i true = false) : i ∈ Region.ready .any ops ls := by
  obtain ⟨o, ho, _, _, ha, _⟩ := h
  exact mem_ready.2 ⟨hu, o, ho, fun e he => by rw [ha] at he; simp at he⟩
theorem app_ready {i n s x : Nat} {deps : List Nat} (h : IsApp ops i n s x deps) {ls : Array Bool} (hu : ls.getD i true = false) (hd : ∀ d ∈ deps, ls.getD d false = true) : i ∈ Region.ready .any ops ls := by
  obtain ⟨o, ho, _, _, _, _, ha⟩ := h
  exact mem_ready.2 ⟨hu, o, ho, fun e he _ => hd _ (ha e he)⟩
theorem app_deps {i n s x : Nat} {deps : List Nat} (h : IsApp ops i n s x deps) {ls : Array Bool} (hi : i ∈ Region.ready .any ops ls) : ∀ d ∈ deps, ls.getD d false = true := by
  obtain ⟨o, ho, _, _, _, hd, _⟩ := h
  obtain ⟨_, o', ho', hall⟩ := mem_ready.1 hi
  obtain rfl := Option.some.inj (ho.symm.trans ho')
  intro d hm
  obtain ⟨e, he, rfl, hb⟩ := hd d hm
  exact hall e he hb
theorem edge_dep {i d : Nat} {o : Oper} (ho : ops[i]? = some o) (h : ∃ e ∈ o.after, e.on = d ∧ Region.binds .any e = true) {ls : Array Bool} (hi : i ∈ Region.ready .any ops ls) : ls.getD d false = true := by
  obtain ⟨_, o', ho', hall⟩ := mem_ready.1 hi
  obtain rfl := Option.some.inj (ho.symm.trans ho')
  obtain ⟨e, he, rfl, hb⟩ := h
  exact hall e he hb
theorem slot_read {own : Nat → Nat} {w : World} {base e : Nat} {v : Value} {l : List Int} (h : Slot own w base e v l) : ∃ A c, v = .slice A l.length c ∧ l.length ≤ c ∧ Kd.C (Kd.int .u8) w A l.length l := Kd.R_reads h

def dsts : List Nat := [39, 44, 45, 46, 47, 52, 53, 54, 55, 60, 61, 62]
structure Acts (A : (Nat → Value) → Act) (R : Value) : Prop where
  put : ∀ n ∈ dsts, ∀ f v, (A f).put (some n) v = A (upd f n v)
  ev : ∀ n ∈ dsts, ∀ f, (A f).eval (.tmp n) = f n
  r43 : ∀ f, (A f).eval (.tmp 43) = R
  r51 : ∀ f, (A f).eval (.tmp 51) = R
  r59 : ∀ f, (A f).eval (.tmp 59) = R

structure Inv (W0 : World) (row : List Int) (x0 x1 x2 : Int) (own : Nat → Nat) (b : Nat → Bool) (f : Nat → Value) (w : World) : Prop where
  below : Below W0.heap.size W0 w
  c0 : Ch own w W0.heap.size row x0 0 (b 1) (b 6) (b 7) (b 8) (f 39) (f 44) (f 45) (f 46)
  c1 : Ch own w W0.heap.size row x1 1 (b 9) (b 14) (b 15) (b 16) (f 47) (f 52) (f 53) (f 54)
  c2 : Ch own w W0.heap.size row x2 2 (b 17) (b 22) (b 23) (b 24) (f 55) (f 60) (f 61) (f 62)

theorem all_ready {x0 x1 x2 : Int} (h : Ops3 ops x0 x1 x2) (b : Nat → Bool) (hr : Region.ready .any ops (mk b) = []) : cnt b = 0 := by
  have no : ∀ i, i ∉ Region.ready .any ops (mk b) := by rw [hr]; simp
  have b1 : b 1 = true := eq_true_of_ne_false fun hb => no 1 (lit_ready h.o1 (by exact hb))
  have b7 : b 7 = true := eq_true_of_ne_false fun hb => no 7 (lit_ready h.o7 (by exact hb))
  have b9 : b 9 = true := eq_true_of_ne_false fun hb => no 9 (lit_ready h.o9 (by exact hb))
  have b15 : b 15 = true := eq_true_of_ne_false fun hb => no 15 (lit_ready h.o15 (by exact hb))
  have b17 : b 17 = true := eq_true_of_ne_false fun hb => no 17 (lit_ready h.o17 (by exact hb))
  have b23 : b 23 = true := eq_true_of_ne_false fun hb => no 23 (lit_ready h.o23 (by exact hb))
  have b6 : b 6 = true := eq_true_of_ne_false fun hb => no 6 (app_ready h.o6 (by exact hb) (by simp [mk, b1]))
  have b8 : b 8 = true := eq_true_of_ne_false fun hb => no 8 (app_ready h.o8 (by exact hb) (by simp [mk, b6, b7]))
  have b14 : b 14 = true := eq_true_of_ne_false fun hb => no 14 (app_ready h.o14 (by exact hb) (by simp [mk, b8, b9]))
  have b16 : b 16 = true := eq_true_of_ne_false fun hb => no 16 (app_ready h.o16 (by exact hb) (by simp [mk, b14, b15]))
  have b22 : b 22 = true := eq_true_of_ne_false fun hb => no 22 (app_ready h.o22 (by exact hb) (by simp [mk, b16, b17]))
  have b24 : b 24 = true := eq_true_of_ne_false fun hb => no 24 (app_ready h.o24 (by exact hb) (by simp [mk, b22, b23]))
  simp [cnt, one, b1, b6, b7, b8, b9, b14, b15, b16, b17, b22, b23, b24]
theorem all_bits {W0 : World} {row : List Int} {x0 x1 x2 : Int} {own : Nat → Nat} {b : Nat → Bool} {f : Nat → Value} {w : World} (h : Inv W0 row x0 x1 x2 own b f w) (h8 : b 8 = true) (h16 : b 16 = true) (h24 : b 24 = true) : cnt b = 0 := by
  have q := h.c0.cB h8
  have p := h.c0.cA q.1
  have q1 := h.c1.cB h16
  have p1 := h.c1.cA q1.1
  have q2 := h.c2.cB h24
  have p2 := h.c2.cA q2.1
  simp [cnt, one, p, q.1, q.2, h8, p1, q1.1, q1.2, h16, p2, q2.1, q2.2, h24]
theorem cnt_zero {b : Nat → Bool} (h : cnt b = 0) : b 1 = true ∧ b 6 = true ∧ b 7 = true ∧ b 8 = true ∧ b 9 = true ∧ b 14 = true ∧ b 15 = true ∧ b 16 = true ∧ b 17 = true ∧ b 22 = true ∧ b 23 = true ∧ b 24 = true := by
  have o : ∀ c : Bool, one c = 0 → c = true := by decide
  unfold cnt at h
  exact ⟨o _ (by omega), o _ (by omega), o _ (by omega), o _ (by omega), o _ (by omega), o _ (by omega), o _ (by omega), o _ (by omega), o _ (by omega), o _ (by omega), o _ (by omega), o _ (by omega)⟩

theorem three_ {x0 x1 x2 : Int} (h : Ops3 ops x0 x1 x2) {A : (Nat → Value) → Act} {RA : Option Addr} {rn rc : Nat} {row : List Int} (hA : Acts A (.slice RA rn rc)) (hC : Kd.C (Kd.int .u8) W0 RA rn row) (hl : row.length + 1 ≤ 140737488355328)
    (hend : ∀ f w own, Below W0.heap.size W0 w → Slot own w W0.heap.size 0 (f 46) (row ++ [x0]) → Slot own w W0.heap.size 2 (f 54) (row ++ [x1]) → Slot own w W0.heap.size 4 (f 62) (row ++ [x2]) →
      wpAnyLast Tryd.prog .any ops Q (fun W => Below W0.heap.size W0 W) [26] 3 (mk fun _ => true) (A f) w) :
    ∀ (n : Nat) (b : Nat → Bool) (f : Nat → Value) (w : World) (own : Nat → Nat), n = cnt b → Inv W0 row x0 x1 x2 own b f w → wpAnyLast Tryd.prog .any ops Q (fun W => Below W0.heap.size W0 W) [26] (n + 3) (mk b) (A f) w := by
  intro n
  induction n with
  | zero =>
    intro b f w own hn I
    obtain ⟨q1, q6, q7, q8, q9, q14, q15, q16, q17, q22, q23, q24⟩ := cnt_zero hn.symm
    have hb : mk b = mk fun _ => true := by simp [mk, q1, q6, q7, q8, q9, q14, q15, q16, q17, q22, q23, q24]
    rw [hb]
    exact hend f w own I.below (I.c0.hB q8) (I.c1.hB q16) (I.c2.hB q24)
  | succ n ih =>
    intro b f w own hn I
    have hC' : Kd.C (Kd.int .u8) w RA rn row := Kd.C_below hC I.below
    refine ⟨fun hr => absurd (all_ready h b hr) (by omega), fun i hi => ?_⟩
    obtain ⟨hu, oi, hoi, hall⟩ := mem_ready.1 hi
    have hi28 : i < 28 := by
      rcases Nat.lt_or_ge i 28 with h' | h'
      · exact h'
      · rw [Array.getD_eq_getD_getElem?, Array.getElem?_eq_none (by simpa [mk] using h')] at hu
        cases hu
    have hcase : i = 1 ∨ i = 6 ∨ i = 7 ∨ i = 8 ∨ i = 9 ∨ i = 14 ∨ i = 15 ∨ i = 16 ∨ i = 17 ∨ i = 22 ∨ i = 23 ∨ i = 24 ∨ i = 25 ∨ i = 26 ∨ i = 27 ∨ (mk b).getD i true = true := by
      have : i = 0 ∨ i = 1 ∨ i = 2 ∨ i = 3 ∨ i = 4 ∨ i = 5 ∨ i = 6 ∨ i = 7 ∨ i = 8 ∨ i = 9 ∨ i = 10 ∨ i = 11 ∨ i = 12 ∨ i = 13 ∨ i = 14 ∨ i = 15 ∨ i = 16 ∨ i = 17 ∨ i = 18 ∨ i = 19 ∨ i = 20 ∨ i = 21 ∨ i = 22 ∨ i = 23 ∨ i = 24 ∨ i = 25 ∨ i = 26 ∨ i = 27 := by omega
      rcases this with rfl | rfl | rfl | rfl | rfl | rfl | rfl | rfl | rfl | rfl | rfl | rfl | rfl | rfl | rfl | rfl | rfl | rfl | rfl | rfl | rfl | rfl | rfl | rfl | rfl | rfl | rfl | rfl <;> simp [mk]
    have hone : ∀ c : Bool, c = false → one c = 1 := by decide
    have htwo : one true = 0 := rfl
    rcases hcase with rfl | rfl | rfl | rfl | rfl | rfl | rfl | rfl | rfl | rfl | rfl | rfl | rfl | rfl | rfl | hall
    · have hbi : b 1 = false := hu
      have hset : (mk b).setIfInBounds 1 true = mk (upd b 1 true) := rfl
      have hcn : n = cnt (upd b 1 true) := by
        have e1 := hone _ hbi
        unfold cnt at hn ⊢
        simp only [upd, Nat.reduceEqDiff, if_false, if_true, reduceIte, htwo]
        omega
      refine lit_ h.o1 (own := own) 0 I.below (by simp) (fun v w1 hb1 hg1 hs1 => ?_)
      rw [hset, hA.put 39 (by decide)]
      refine ih _ _ w1 _ hcn ⟨hb1, ⟨fun _ => rfl, I.c0.cB, fun _ _ => hs1, fun q _ => absurd (I.c0.cA q) (by simp [hbi]), fun q1 q2 => (I.c0.hX q1 q2).keep hg1 (fun k hk => by cases hk) (by decide), fun q => absurd (I.c0.cA (I.c0.cB q).1) (by simp [hbi])⟩, I.c1.keep hg1 (fun k hk => by cases hk) (by decide) (by decide), I.c2.keep hg1 (fun k hk => by cases hk) (by decide) (by decide)⟩
    · have hbi : b 6 = false := hu
      have hset : (mk b).setIfInBounds 6 true = mk (upd b 6 true) := rfl
      have hcn : n = cnt (upd b 6 true) := by
        have e1 := hone _ hbi
        unfold cnt at hn ⊢
        simp only [upd, Nat.reduceEqDiff, if_false, if_true, reduceIte, htwo]
        omega
      have hd : b 1 = true := app_deps h.o6 hi 1 (by decide)
      have hs := I.c0.hL hd hbi
      refine app_ h.o6 (own := own) 0 I.below (hA.ev 39 (by decide) f) (hA.r43 f) hs hC' (by simp; omega) (fun v w1 hb1 hg1 hs1 => ?_)
      rw [hset, hA.put 44 (by decide)]
      refine ih _ _ w1 _ hcn ⟨hb1, ⟨fun _ => hd, fun q => absurd (I.c0.cB q).1 (by simp [hbi]), fun _ q => absurd q (by simp [upd]), fun _ _ => hs1, fun q1 q2 => (I.c0.hX q1 q2).keep hg1 hs.row (by decide), fun q => absurd (I.c0.cB q).1 (by simp [hbi])⟩, I.c1.keep hg1 hs.row (by decide) (by decide), I.c2.keep hg1 hs.row (by decide) (by decide)⟩
    · have hbi : b 7 = false := hu
      have hset : (mk b).setIfInBounds 7 true = mk (upd b 7 true) := rfl
      have hcn : n = cnt (upd b 7 true) := by
        have e1 := hone _ hbi
        unfold cnt at hn ⊢
        simp only [upd, Nat.reduceEqDiff, if_false, if_true, reduceIte, htwo]
        omega
      refine lit_ h.o7 (own := own) 1 I.below (by simp) (fun v w1 hb1 hg1 hs1 => ?_)
      rw [hset, hA.put 45 (by decide)]
      refine ih _ _ w1 _ hcn ⟨hb1, ⟨I.c0.cA, fun q => absurd (I.c0.cB q).2 (by simp [hbi]), fun q1 q2 => (I.c0.hL q1 q2).keep hg1 (fun k hk => by cases hk) (by decide), fun q1 q2 => (I.c0.hA q1 q2).keep hg1 (fun k hk => by cases hk) (by decide), fun _ _ => hs1, fun q => absurd (I.c0.cB q).2 (by simp [hbi])⟩, I.c1.keep hg1 (fun k hk => by cases hk) (by decide) (by decide), I.c2.keep hg1 (fun k hk => by cases hk) (by decide) (by decide)⟩
    · have hbi : b 8 = false := hu
      have hset : (mk b).setIfInBounds 8 true = mk (upd b 8 true) := rfl
      have hcn : n = cnt (upd b 8 true) := by
        have e1 := hone _ hbi
        unfold cnt at hn ⊢
        simp only [upd, Nat.reduceEqDiff, if_false, if_true, reduceIte, htwo]
        omega
      have hd : b 6 = true := app_deps h.o8 hi 6 (by decide)
      have hdx : b 7 = true := app_deps h.o8 hi 7 (by decide)
      have hs := I.c0.hA hd hbi
      obtain ⟨XA, xc, hx, _, hxC⟩ := slot_read (I.c0.hX hdx hbi)
      refine app_ h.o8 (own := own) 0 I.below (hA.ev 44 (by decide) f) ((hA.ev 45 (by decide) f).trans hx) hs hxC (by simp; omega) (fun v w1 hb1 hg1 hs1 => ?_)
      rw [hset, hA.put 46 (by decide)]
      refine ih _ _ w1 _ hcn ⟨hb1, ⟨I.c0.cA, fun _ => ⟨hd, hdx⟩, fun _ q => absurd (q.symm.trans hd) (by decide), fun _ q => absurd q (by simp [upd]), fun _ q => absurd q (by simp [upd]), fun _ => hs1⟩, I.c1.keep hg1 hs.row (by decide) (by decide), I.c2.keep hg1 hs.row (by decide) (by decide)⟩
    · have hbi : b 9 = false := hu
      have hset : (mk b).setIfInBounds 9 true = mk (upd b 9 true) := rfl
      have hcn : n = cnt (upd b 9 true) := by
        have e1 := hone _ hbi
        unfold cnt at hn ⊢
        simp only [upd, Nat.reduceEqDiff, if_false, if_true, reduceIte, htwo]
        omega
      refine lit_ h.o9 (own := own) 2 I.below (by simp) (fun v w1 hb1 hg1 hs1 => ?_)
      rw [hset, hA.put 47 (by decide)]
      refine ih _ _ w1 _ hcn ⟨hb1, I.c0.keep hg1 (fun k hk => by cases hk) (by decide) (by decide), ⟨fun _ => rfl, I.c1.cB, fun _ _ => hs1, fun q _ => absurd (I.c1.cA q) (by simp [hbi]), fun q1 q2 => (I.c1.hX q1 q2).keep hg1 (fun k hk => by cases hk) (by decide), fun q => absurd (I.c1.cA (I.c1.cB q).1) (by simp [hbi])⟩, I.c2.keep hg1 (fun k hk => by cases hk) (by decide) (by decide)⟩
    · have hbi : b 14 = false := hu
      have hset : (mk b).setIfInBounds 14 true = mk (upd b 14 true) := rfl
      have hcn : n = cnt (upd b 14 true) := by
        have e1 := hone _ hbi
        unfold cnt at hn ⊢
        simp only [upd, Nat.reduceEqDiff, if_false, if_true, reduceIte, htwo]
        omega
      have hd : b 9 = true := app_deps h.o14 hi 9 (by decide)
      have hs := I.c1.hL hd hbi
      refine app_ h.o14 (own := own) 2 I.below (hA.ev 47 (by decide) f) (hA.r51 f) hs hC' (by simp; omega) (fun v w1 hb1 hg1 hs1 => ?_)
      rw [hset, hA.put 52 (by decide)]
      refine ih _ _ w1 _ hcn ⟨hb1, I.c0.keep hg1 hs.row (by decide) (by decide), ⟨fun _ => hd, fun q => absurd (I.c1.cB q).1 (by simp [hbi]), fun _ q => absurd q (by simp [upd]), fun _ _ => hs1, fun q1 q2 => (I.c1.hX q1 q2).keep hg1 hs.row (by decide), fun q => absurd (I.c1.cB q).1 (by simp [hbi])⟩, I.c2.keep hg1 hs.row (by decide) (by decide)⟩
    · have hbi : b 15 = false := hu
      have hset : (mk b).setIfInBounds 15 true = mk (upd b 15 true) := rfl
      have hcn : n = cnt (upd b 15 true) := by
        have e1 := hone _ hbi
        unfold cnt at hn ⊢
        simp only [upd, Nat.reduceEqDiff, if_false, if_true, reduceIte, htwo]
        omega
      refine lit_ h.o15 (own := own) 3 I.below (by simp) (fun v w1 hb1 hg1 hs1 => ?_)
      rw [hset, hA.put 53 (by decide)]
      refine ih _ _ w1 _ hcn ⟨hb1, I.c0.keep hg1 (fun k hk => by cases hk) (by decide) (by decide), ⟨I.c1.cA, fun q => absurd (I.c1.cB q).2 (by simp [hbi]), fun q1 q2 => (I.c1.hL q1 q2).keep hg1 (fun k hk => by cases hk) (by decide), fun q1 q2 => (I.c1.hA q1 q2).keep hg1 (fun k hk => by cases hk) (by decide), fun _ _ => hs1, fun q => absurd (I.c1.cB q).2 (by simp [hbi])⟩, I.c2.keep hg1 (fun k hk => by cases hk) (by decide) (by decide)⟩
    · have hbi : b 16 = false := hu
      have hset : (mk b).setIfInBounds 16 true = mk (upd b 16 true) := rfl
      have hcn : n = cnt (upd b 16 true) := by
        have e1 := hone _ hbi
        unfold cnt at hn ⊢
        simp only [upd, Nat.reduceEqDiff, if_false, if_true, reduceIte, htwo]
        omega
      have hd : b 14 = true := app_deps h.o16 hi 14 (by decide)
      have hdx : b 15 = true := app_deps h.o16 hi 15 (by decide)
      have hs := I.c1.hA hd hbi
      obtain ⟨XA, xc, hx, _, hxC⟩ := slot_read (I.c1.hX hdx hbi)
      refine app_ h.o16 (own := own) 2 I.below (hA.ev 52 (by decide) f) ((hA.ev 53 (by decide) f).trans hx) hs hxC (by simp; omega) (fun v w1 hb1 hg1 hs1 => ?_)
      rw [hset, hA.put 54 (by decide)]
      refine ih _ _ w1 _ hcn ⟨hb1, I.c0.keep hg1 hs.row (by decide) (by decide), ⟨I.c1.cA, fun _ => ⟨hd, hdx⟩, fun _ q => absurd (q.symm.trans hd) (by decide), fun _ q => absurd q (by simp [upd]), fun _ q => absurd q (by simp [upd]), fun _ => hs1⟩, I.c2.keep hg1 hs.row (by decide) (by decide)⟩
    · have hbi : b 17 = false := hu
      have hset : (mk b).setIfInBounds 17 true = mk (upd b 17 true) := rfl
      have hcn : n = cnt (upd b 17 true) := by
        have e1 := hone _ hbi
        unfold cnt at hn ⊢
        simp only [upd, Nat.reduceEqDiff, if_false, if_true, reduceIte, htwo]
        omega
      refine lit_ h.o17 (own := own) 4 I.below (by simp) (fun v w1 hb1 hg1 hs1 => ?_)
      rw [hset, hA.put 55 (by decide)]
      refine ih _ _ w1 _ hcn ⟨hb1, I.c0.keep hg1 (fun k hk => by cases hk) (by decide) (by decide), I.c1.keep hg1 (fun k hk => by cases hk) (by decide) (by decide), ⟨fun _ => rfl, I.c2.cB, fun _ _ => hs1, fun q _ => absurd (I.c2.cA q) (by simp [hbi]), fun q1 q2 => (I.c2.hX q1 q2).keep hg1 (fun k hk => by cases hk) (by decide), fun q => absurd (I.c2.cA (I.c2.cB q).1) (by simp [hbi])⟩⟩
    · have hbi : b 22 = false := hu
      have hset : (mk b).setIfInBounds 22 true = mk (upd b 22 true) := rfl
      have hcn : n = cnt (upd b 22 true) := by
        have e1 := hone _ hbi
        unfold cnt at hn ⊢
        simp only [upd, Nat.reduceEqDiff, if_false, if_true, reduceIte, htwo]
        omega
      have hd : b 17 = true := app_deps h.o22 hi 17 (by decide)
      have hs := I.c2.hL hd hbi
      refine app_ h.o22 (own := own) 4 I.below (hA.ev 55 (by decide) f) (hA.r59 f) hs hC' (by simp; omega) (fun v w1 hb1 hg1 hs1 => ?_)
      rw [hset, hA.put 60 (by decide)]
      refine ih _ _ w1 _ hcn ⟨hb1, I.c0.keep hg1 hs.row (by decide) (by decide), I.c1.keep hg1 hs.row (by decide) (by decide), ⟨fun _ => hd, fun q => absurd (I.c2.cB q).1 (by simp [hbi]), fun _ q => absurd q (by simp [upd]), fun _ _ => hs1, fun q1 q2 => (I.c2.hX q1 q2).keep hg1 hs.row (by decide), fun q => absurd (I.c2.cB q).1 (by simp [hbi])⟩⟩
    · have hbi : b 23 = false := hu
      have hset : (mk b).setIfInBounds 23 true = mk (upd b 23 true) := rfl
      have hcn : n = cnt (upd b 23 true) := by
        have e1 := hone _ hbi
        unfold cnt at hn ⊢
        simp only [upd, Nat.reduceEqDiff, if_false, if_true, reduceIte, htwo]
        omega
      refine lit_ h.o23 (own := own) 5 I.below (by simp) (fun v w1 hb1 hg1 hs1 => ?_)
      rw [hset, hA.put 61 (by decide)]
      refine ih _ _ w1 _ hcn ⟨hb1, I.c0.keep hg1 (fun k hk => by cases hk) (by decide) (by decide), I.c1.keep hg1 (fun k hk => by cases hk) (by decide) (by decide), ⟨I.c2.cA, fun q => absurd (I.c2.cB q).2 (by simp [hbi]), fun q1 q2 => (I.c2.hL q1 q2).keep hg1 (fun k hk => by cases hk) (by decide), fun q1 q2 => (I.c2.hA q1 q2).keep hg1 (fun k hk => by cases hk) (by decide), fun _ _ => hs1, fun q => absurd (I.c2.cB q).2 (by simp [hbi])⟩⟩
    · have hbi : b 24 = false := hu
      have hset : (mk b).setIfInBounds 24 true = mk (upd b 24 true) := rfl
      have hcn : n = cnt (upd b 24 true) := by
        have e1 := hone _ hbi
        unfold cnt at hn ⊢
        simp only [upd, Nat.reduceEqDiff, if_false, if_true, reduceIte, htwo]
        omega
      have hd : b 22 = true := app_deps h.o24 hi 22 (by decide)
      have hdx : b 23 = true := app_deps h.o24 hi 23 (by decide)
      have hs := I.c2.hA hd hbi
      obtain ⟨XA, xc, hx, _, hxC⟩ := slot_read (I.c2.hX hdx hbi)
      refine app_ h.o24 (own := own) 4 I.below (hA.ev 60 (by decide) f) ((hA.ev 61 (by decide) f).trans hx) hs hxC (by simp; omega) (fun v w1 hb1 hg1 hs1 => ?_)
      rw [hset, hA.put 62 (by decide)]
      refine ih _ _ w1 _ hcn ⟨hb1, I.c0.keep hg1 hs.row (by decide) (by decide), I.c1.keep hg1 hs.row (by decide) (by decide), ⟨I.c2.cA, fun _ => ⟨hd, hdx⟩, fun _ q => absurd (q.symm.trans hd) (by decide), fun _ q => absurd q (by simp [upd]), fun _ q => absurd q (by simp [upd]), fun _ => hs1⟩⟩
    · obtain ⟨o, ho, d8, d16, d24⟩ := h.o25
      exact absurd (all_bits I (edge_dep ho d8 hi) (edge_dep ho d16 hi) (edge_dep ho d24 hi)) (by omega)
    · obtain ⟨o, ho, d⟩ := h.o26
      exact absurd (show false = true from edge_dep ho d hi) (by decide)
    · obtain ⟨o, ho, d⟩ := h.o27
      exact absurd (show false = true from edge_dep ho d hi) (by decide)
    · exact absurd (hall.symm.trans hu) (by decide)

def setAll (f : Nat → Value) : List Nat → Array Value → Array Value
  | [], t => t
  | n :: r, t => setAll f r (t.setIfInBounds n (f n))
theorem setAll_get (f : Nat → Value) : ∀ (l : List Nat) (t : Array Value) (k : Nat), (setAll f l t)[k]? = if k ∈ l ∧ k < t.size then some (f k) else t[k]?
  | [], t, k => by simp [setAll]
  | n :: r, t, k => by
    unfold setAll
    rw [setAll_get f r, Array.size_setIfInBounds, Array.getElem?_setIfInBounds]
    by_cases h2 : k < t.size
    · by_cases h3 : n = k
      · subst h3
        by_cases h1 : n ∈ r <;> simp [h1, h2]
      · by_cases h1 : k ∈ r <;> simp [h1, h2, h3, Ne.symm h3]
    · have h4 : t[k]? = none := Array.getElem?_eq_none (by omega)
      by_cases h3 : n = k
      · subst h3
        simp [h2, h4]
      · simp [h2, h3]
theorem setAll_put (f : Nat → Value) (l : List Nat) (t : Array Value) {n : Nat} (hn : n ∈ l) (hs : n < t.size) (v : Value) : (setAll f l t).setIfInBounds n v = setAll (upd f n v) l t := by
  have hsz : ∀ (l : List Nat) (t : Array Value), (setAll f l t).size = t.size := by
    intro l
    induction l with
    | nil => intro t; rfl
    | cons a r ih => intro t; unfold setAll; rw [ih, Array.size_setIfInBounds]
  refine Array.ext_getElem? (fun k => ?_)
  rw [Array.getElem?_setIfInBounds, hsz, setAll_get, setAll_get]
  by_cases h : n = k
  · subst h
    simp [hs, hn, upd_eq]
  · simp [h, upd_ne f v (Ne.symm h)]
attribute [irreducible] setAll
def actOf (a : Act) (f : Nat → Value) : Act := ⟨setAll f dsts a.tmps, a.defers⟩
theorem dsts_le : ∀ m ∈ dsts, m ≤ 62 := by decide
theorem no43 : 43 ∉ dsts := by decide
theorem no51 : 51 ∉ dsts := by decide
theorem no59 : 59 ∉ dsts := by decide
theorem actOf_tmps (a : Act) (f : Nat → Value) : (actOf a f).tmps = setAll f dsts a.tmps := rfl
theorem act_put (a : Act) (hs : 62 < a.tmps.size) (n : Nat) (hn : n ∈ dsts) (f : Nat → Value) (v : Value) : (actOf a f).put (some n) v = actOf a (upd f n v) := by
  have hlt : n < a.tmps.size := Nat.lt_of_le_of_lt (dsts_le n hn) hs
  have h := setAll_put f dsts a.tmps hn hlt v
  unfold Act.put actOf
  simp only
  rw [h]
theorem act_ev (a : Act) (hs : 62 < a.tmps.size) (n : Nat) (hn : n ∈ dsts) (f : Nat → Value) : (actOf a f).eval (.tmp n) = f n := by
  have hlt : n < a.tmps.size := Nat.lt_of_le_of_lt (dsts_le n hn) hs
  unfold Act.eval
  simp only
  rw [actOf_tmps, Array.getD_eq_getD_getElem?, setAll_get, if_pos ⟨hn, hlt⟩, Option.getD_some]
theorem act_other (a : Act) (n : Nat) (hn : n ∉ dsts) (f : Nat → Value) (R : Value) (h : a.tmps[n]? = some R) : (actOf a f).eval (.tmp n) = R := by
  have hne : ¬ (n ∈ dsts ∧ n < a.tmps.size) := fun h => hn h.1
  unfold Act.eval
  simp only
  rw [actOf_tmps, Array.getD_eq_getD_getElem?, setAll_get, if_neg hne, h, Option.getD_some]
theorem acts_of (a : Act) (R : Value) (hs : 62 < a.tmps.size) (h43 : a.tmps[43]? = some R) (h51 : a.tmps[51]? = some R) (h59 : a.tmps[59]? = some R) : Acts (actOf a) R :=
  ⟨act_put a hs, act_ev a hs, fun f => act_other a 43 no43 f R h43, fun f => act_other a 51 no51 f R h51, fun f => act_other a 59 no59 f R h59⟩
theorem acts_self (a : Act) : actOf a (fun n => a.tmps.getD n undef) = a := by
  have : setAll (fun n => a.tmps.getD n undef) dsts a.tmps = a.tmps := by
    refine Array.ext_getElem? (fun k => ?_)
    rw [setAll_get]
    split
    · rename_i h
      rw [Array.getElem?_eq_getElem h.2, Array.getD_eq_getD_getElem?, Array.getElem?_eq_getElem h.2]
      rfl
    · rfl
  unfold actOf
  rw [this]
theorem actOf_eq (a : Act) (f : Nat → Value) : actOf a f = ⟨((((((((((((a.tmps.setIfInBounds 39 (f 39)).setIfInBounds 44 (f 44)).setIfInBounds 45 (f 45)).setIfInBounds 46 (f 46)).setIfInBounds 47 (f 47)).setIfInBounds 52 (f 52)).setIfInBounds 53 (f 53)).setIfInBounds 54 (f 54)).setIfInBounds 55 (f 55)).setIfInBounds 60 (f 60)).setIfInBounds 61 (f 61)).setIfInBounds 62 (f 62)), a.defers⟩ := by
  unfold actOf dsts
  simp only [setAll]
theorem three_go {x0 x1 x2 : Int} (h : Ops3 ops x0 x1 x2) (a : Act) {RA : Option Addr} {rn rc : Nat} {row : List Int} (hs : 62 < a.tmps.size) (h43 : a.tmps[43]? = some (.slice RA rn rc)) (h51 : a.tmps[51]? = some (.slice RA rn rc)) (h59 : a.tmps[59]? = some (.slice RA rn rc))
    (hC : Kd.C (Kd.int .u8) W0 RA rn row) (hl : row.length + 1 ≤ 140737488355328)
    (hend : ∀ f w own, Below W0.heap.size W0 w → Slot own w W0.heap.size 0 (f 46) (row ++ [x0]) → Slot own w W0.heap.size 2 (f 54) (row ++ [x1]) → Slot own w W0.heap.size 4 (f 62) (row ++ [x2]) →
      wpAnyLast Tryd.prog .any ops Q (fun W => Below W0.heap.size W0 W) [26] 3 (mk fun _ => true) (actOf a f) w) :
    wpAnyLast Tryd.prog .any ops Q (fun W => Below W0.heap.size W0 W) [26] 15 (mk fun _ => false) a W0 := by
  have H := three_ h (acts_of a _ hs h43 h51 h59) hC hl hend 12 (fun _ => false) (fun n => a.tmps.getD n undef) W0 (fun _ => 0) rfl
    ⟨Below.refl _ _, ⟨(fun q => by cases q), (fun q => by cases q), (fun q => by cases q), (fun q => by cases q), (fun q => by cases q), (fun q => by cases q)⟩,
      ⟨(fun q => by cases q), (fun q => by cases q), (fun q => by cases q), (fun q => by cases q), (fun q => by cases q), (fun q => by cases q)⟩,
      ⟨(fun q => by cases q), (fun q => by cases q), (fun q => by cases q), (fun q => by cases q), (fun q => by cases q), (fun q => by cases q)⟩⟩
  rw [acts_self] at H
  exact H
theorem slot_fk {own : Nat → Nat} {w : World} {base e : Nat} {A : Option Addr} {c : Nat} {l : List Int} {ok : Nat → Prop} (h : Slot own w base e (.slice A l.length c) l) (hok : ∀ k, base ≤ k → ok k) (hc : l.length ≤ c) : Kd.FK (Kd.slice 5 (Kd.int .u8)) w ok l [.slice A l.length c] :=
  Kd.FK_slice_mk hc (Kd.R_F (Kd.R_mono (Kd.R_bound h) (fun k hk => hok k hk.2.1)))
end
end Go.Proofs.YtjlhehaagaaihaaDoor.P
-- Ef
namespace Go.Proofs.YtjlhehaagaaihaaDoor.P
open Go.RowKit Go.Proofs.YtjlhehaagaaihaaDoorW.PrintWords Go.Proofs.YtjlhehaagaaihaaDoorW.PrintLast Go.Proofs.YtjlhehaagaaihaaDoorW.PrintMore
attribute [local go_sem] max2_int min2_int max_two min_two max_three min_three max_four min_four   -- for this text's walks alone
set_option linter.unusedVariables false
set_option linter.unusedSimpArgs false

theorem infoT23 : (Tryd.prog.info? 23).map (fun i => (i.zero, i.size, i.bytes)) = some (some (.slice none 0 0), 1, 24) := by kernel_rfl
/-! ### gessoref02_tails: function 51 -/
mutual
def gessoref02_tails.l0 : Nat → Int → List (List Int) → Int → Option ((List (List Int)))
  | 0, _, _, _ => none
  | k + 1, x0, x3, x4 => if x4 < x0 then (gessoref02_tails.l1 k x0 x3 x4 ([] : List (List Int)) 0) else (some x3)
def gessoref02_tails.l1 : Nat → Int → List (List Int) → Int → List (List Int) → Int → Option ((List (List Int)))
  | 0, _, _, _, _, _ => none
  | k + 1, x0, x3, x4, x5, x6 => if x6 < (x3.length : Int) then (gessoref02_tails.l2 k x0 x3 x4 x5 x6 128) else (gessoref02_tails.l0 k x0 x5 (wrap64 (x4 + 1)))
def gessoref02_tails.l2 : Nat → Int → List (List Int) → Int → List (List Int) → Int → Int → Option ((List (List Int)))
  | 0, _, _, _, _, _, _ => none
  | k + 1, x0, x3, x4, x5, x6, x7 => if x7 ≤ 191 then ((some (([] : List Int) : List Int)).bind fun y389 => (if 0 ≤ x6 then (if x6 < (x3.length : Int) then (if y389.length + (rd_L2 x3 x6).length < 140737488355328 then ((some (y389 ++ (rd_L2 x3 x6) : List Int)).bind fun y393 => (if y393.length < 140737488355328 then (if x5.length < 5864062014805 then (gessoref02_tails.l2 k x0 x3 x4 (x5 ++ [(y393 ++ [(x7) % 256])]) x6 (wrap64 (x7 + 15))) else (none)) else (none))) else (none)) else (none)) else (none))) else ((some (([] : List Int) : List Int)).bind fun y402 => (if 0 ≤ x6 then (if x6 < (x3.length : Int) then (if y402.length + (rd_L2 x3 x6).length < 140737488355328 then ((some (y402 ++ (rd_L2 x3 x6) : List Int)).bind fun y406 => (if y406.length < 140737488355328 then ((some (([] : List Int) : List Int)).bind fun y412 => (if y412.length + (rd_L2 x3 x6).length < 140737488355328 then ((some (y412 ++ (rd_L2 x3 x6) : List Int)).bind fun y416 => (if y416.length < 140737488355328 then ((some (([] : List Int) : List Int)).bind fun y422 => (if y422.length + (rd_L2 x3 x6).length < 140737488355328 then ((some (y422 ++ (rd_L2 x3 x6) : List Int)).bind fun y426 => (if y426.length < 140737488355328 then ((some (([(y406 ++ [144]), (y416 ++ [160]), (y426 ++ [191])] : List (List Int)) : List (List Int))).bind fun y432 => (if x5.length + y432.length < 5864062014805 then (gessoref02_tails.l1 k x0 x3 x4 (x5 ++ y432) (wrap64 (x6 + 1))) else (none))) else (none))) else (none))) else (none))) else (none))) else (none))) else (none)) else (none)) else (none)))
end
def gessoref02_tails.f (k : Nat) (a0 : Int) : Option ((List (List Int))) := gessoref02_tails.l0 k a0 (([(([] : List Int))] : List (List Int))) 0
theorem gessoref02_tails.mono_l : ∀ k, (∀ y0 y1 y2, LeO (gessoref02_tails.l0 k y0 y1 y2) (gessoref02_tails.l0 (k + 1) y0 y1 y2)) ∧ (∀ y0 y1 y2 y3 y4, LeO (gessoref02_tails.l1 k y0 y1 y2 y3 y4) (gessoref02_tails.l1 (k + 1) y0 y1 y2 y3 y4)) ∧ (∀ y0 y1 y2 y3 y4 y5, LeO (gessoref02_tails.l2 k y0 y1 y2 y3 y4 y5) (gessoref02_tails.l2 (k + 1) y0 y1 y2 y3 y4 y5))
  | 0 => ⟨fun _ _ _ r h => by simp [gessoref02_tails.l0] at h, fun _ _ _ _ _ r h => by simp [gessoref02_tails.l1] at h, fun _ _ _ _ _ _ r h => by simp [gessoref02_tails.l2] at h⟩
  | k + 1 => by
    obtain ⟨ih0, ih1, ih2⟩ := gessoref02_tails.mono_l k
    refine ⟨?_, ?_, ?_⟩
    · intro y0 y1 y2
      unfold gessoref02_tails.l0
      repeat' first
      | (with_reducible exact ih0 _ _ _)
      | (with_reducible exact ih1 _ _ _ _ _)
      | (with_reducible exact ih2 _ _ _ _ _ _)
      | (with_reducible exact LeO.refl _)
      | (with_reducible exact LeO.none _)
      | (with_reducible refine LeO.ite ?_ ?_)
      | (with_reducible refine LeO.bind ?_ (fun _ => ?_))
      | exact ih0 _ _ _
      | exact ih1 _ _ _ _ _
      | exact ih2 _ _ _ _ _ _
      | exact LeO.none _
      | refine LeO.ite ?_ ?_
      | refine LeO.bind ?_ (fun _ => ?_)
    · intro y0 y1 y2 y3 y4
      unfold gessoref02_tails.l1
      repeat' first
      | (with_reducible exact ih0 _ _ _)
      | (with_reducible exact ih1 _ _ _ _ _)
      | (with_reducible exact ih2 _ _ _ _ _ _)
      | (with_reducible exact LeO.refl _)
      | (with_reducible exact LeO.none _)
      | (with_reducible refine LeO.ite ?_ ?_)
      | (with_reducible refine LeO.bind ?_ (fun _ => ?_))
      | exact ih0 _ _ _
      | exact ih1 _ _ _ _ _
      | exact ih2 _ _ _ _ _ _
      | exact LeO.none _
      | refine LeO.ite ?_ ?_
      | refine LeO.bind ?_ (fun _ => ?_)
    · intro y0 y1 y2 y3 y4 y5
      unfold gessoref02_tails.l2
      repeat' first
      | (with_reducible exact ih0 _ _ _)
      | (with_reducible exact ih1 _ _ _ _ _)
      | (with_reducible exact ih2 _ _ _ _ _ _)
      | (with_reducible exact LeO.refl _)
      | (with_reducible exact LeO.none _)
      | (with_reducible refine LeO.ite ?_ ?_)
      | (with_reducible refine LeO.bind ?_ (fun _ => ?_))
      | exact ih0 _ _ _
      | exact ih1 _ _ _ _ _
      | exact ih2 _ _ _ _ _ _
      | exact LeO.none _
      | refine LeO.ite ?_ ?_
      | refine LeO.bind ?_ (fun _ => ?_)
theorem gessoref02_tails.mono : ∀ a0 k, LeO (gessoref02_tails.f k a0) (gessoref02_tails.f (k + 1) a0) := by
  intro a0 k
  obtain ⟨ih0, ih1, ih2⟩ := gessoref02_tails.mono_l k
  unfold gessoref02_tails.f
  repeat' first
      | (with_reducible exact ih0 _ _ _)
      | (with_reducible exact ih1 _ _ _ _ _)
      | (with_reducible exact ih2 _ _ _ _ _ _)
      | (with_reducible exact LeO.refl _)
      | (with_reducible exact LeO.none _)
      | (with_reducible refine LeO.ite ?_ ?_)
      | (with_reducible refine LeO.bind ?_ (fun _ => ?_))
      | exact ih0 _ _ _
      | exact ih1 _ _ _ _ _
      | exact ih2 _ _ _ _ _ _
      | exact LeO.none _
      | refine LeO.ite ?_ ?_
      | refine LeO.bind ?_ (fun _ => ?_)
set_option maxHeartbeats 8000000 in
set_option maxRecDepth 100000 in
theorem gessoref02_tails.calls (k : Nat) (a0 : Int) (r : List (List Int)) (w : World) (h : gessoref02_tails.f k a0 = some r) :
    Calls Tryd.prog 51 #[.int .i64 a0] w fun e w' => ∃ v0_ : Value, e = .returned (v0_) ∧ Kd.N (Kd.slice 5 (Kd.int .u8)) 23 w' w.heap.size (fun k_ => (w.heap.size ≤ k_)) v0_ r ∧ Below w.heap.size w w' := by
  have HB := Aside0.mk (Below.refl w.heap.size w)
  have H : (gessoref02_tails.l0 k a0 (([(([] : List Int))] : List (List Int))) 0) = some r := h
  clear h
  obtain ⟨y383, hy383⟩ : ∃ y_ : List Int, y_ = (([] : List Int)) := ⟨_, rfl⟩
  replace H : (gessoref02_tails.l0 k a0 (([y383] : List (List Int))) 0) = some r := by first | (rw [hy383]; with_reducible exact H) | (have H2_ := (Option.bind_some _ _).symm.trans H; rw [hy383]; with_reducible exact H2_) | (have H2_ := (Option.bind_some _ _).symm.trans H; with_reducible exact H2_) | with_reducible exact H | (rw [hy383]; exact H) | exact H
  have Ny383 := Aside0.mk hy383
  clear hy383
  obtain ⟨y386, hy386⟩ : ∃ y_ : List (List Int), y_ = (([y383] : List (List Int))) := ⟨_, rfl⟩
  replace H : (gessoref02_tails.l0 k a0 y386 0) = some r := by first | (rw [hy386]; with_reducible exact H) | (have H2_ := (Option.bind_some _ _).symm.trans H; rw [hy386]; with_reducible exact H2_) | (have H2_ := (Option.bind_some _ _).symm.trans H; with_reducible exact H2_) | with_reducible exact H | (rw [hy386]; exact H) | exact H
  have Ny386 := Aside0.mk hy386
  clear hy386
  have H' := Aside0.mk H
  clear H
  go_enter Tryd.func51, Tryd.ntmps51
  go_wp2_with (first | ((with_reducible refine gate_dst (N := 8) rfl ?_); refine Kd.R_lit (Kd.int .u8) _ 5 ?hg (N := 8) ?hd (xs := ([] : List Int)) (inner := []) (ok := fun _ => True) (okp := fun _ => True) ?hr ?hp (fun _ hk => hk) trivial (Below.refl _ _) (Nat.le_refl _) (by simp) ?_; (case hd => rfl); (case hg => rfl); (case hr => first | (go_simp; done) | (go_simp; rfl)); (case hp => exact (Reps.none _ _)); intro v384 w2 ho3 hb hg_ hnew_; clear hg_ hnew_; (first | rw [← Ny383.out] at ho3 | (simp only [Int.reduceToNat] at ho3; rw [← Ny383.out] at ho3)); have n0_ := Aside0.mk (Kd.R_lower (Kd.R_newM (M := fun k_ => (w.heap.size ≤ k_)) ho3 (below_size (by repeat (first | (with_reducible first | exact HB.out | apply below_alloc | apply pw_below_drewN | apply below_drew1) | exact HB.out))) (fun k_ h_ => h_)) (below_size (by repeat (first | (with_reducible first | exact HB.out | apply below_alloc | apply pw_below_drewN | apply below_drew1) | exact HB.out)))); have n1_ := Aside0.mk (below_step (by repeat (first | (with_reducible first | exact HB.out | apply below_alloc | apply pw_below_drewN | apply below_drew1) | exact HB.out)) hb); clear HB; have HO385 := n0_; have HB := n1_; clear n0_ n1_; clear hb ho3; obtain ⟨Ao4, co4, eo4⟩ := Kd.R_slice HO385.out; subst eo4) | ((with_reducible refine gate_dst (N := 9) rfl ?_); refine Kd.N_lit (Kd.slice 5 (Kd.int .u8)) _ 23 ?hg (N' := 9) ?hd (xs := ([y383] : List (List Int))) (inner := [.slice Ao4 y383.length co4]) (ok := (fun k_ => (w.heap.size ≤ k_))) (okp := (fun k_ => (w.heap.size ≤ k_))) ?hr ?hp (fun _ hk => hk) ((show ∀ k_, w2.heap.size ≤ k_ → (fun k_ => (w.heap.size ≤ k_)) k_ from fun k_ hk => (Nat.le_trans (below_size (by repeat (first | (with_reducible first | exact HB.out | apply below_alloc | apply pw_below_drewN | apply below_drew1) | exact HB.out))) hk)) _ (Nat.le_refl _)) (Below.refl _ _) (Nat.le_refl _) (by simp) ?_; (case hd => rfl); (case hg => rfl); (case hr => first | (go_simp; done) | (go_simp; rfl)); (case hp => exact (Reps.one (show Kd.FK (Kd.slice 5 (Kd.int .u8)) _ _ y383 [.slice Ao4 y383.length co4] from (Kd.FK_slice_mk (Kd.R_reads' (Kd.R_mono (ok' := (fun k_ => (w.heap.size ≤ k_))) (HO385.out) (fun k_ hk => hk.1))).2.1 (Kd.R_F (Kd.R_mono (ok' := (fun k_ => (w.heap.size ≤ k_))) (HO385.out) (fun k_ hk => hk.1))))) (Reps.none _ _))); intro v387 w5 ho6 hb hg_ hnew_; clear hg_ hnew_; (first | rw [← Ny386.out] at ho6 | (simp only [Int.reduceToNat] at ho6; rw [← Ny386.out] at ho6)); have n0_ := Aside0.mk (Kd.N_lower ho6 (below_size (by repeat (first | (with_reducible first | exact HB.out | apply below_alloc | apply pw_below_drewN | apply below_drew1) | exact HB.out)))); have n1_ := Aside0.mk (below_step (by repeat (first | (with_reducible first | exact HB.out | apply below_alloc | apply pw_below_drewN | apply below_drew1) | exact HB.out)) hb); clear HB; clear HO385; have HO388 := n0_; have HB := n1_; clear n0_ n1_; clear hb ho6))
  go_loopg [3, 4] k (fun kq v3 v4 w' => ∃ (x3_1 : List (List Int)) (x4_1 : Int), v4 = .int .i64 x4_1 ∧ Aside0 (gessoref02_tails.l0 kq a0 x3_1 x4_1 = some r) ∧ Aside0 (kq ≤ k) ∧ Aside0 (Kd.N (Kd.slice 5 (Kd.int .u8)) 23 w' w.heap.size (fun k_ => (w.heap.size ≤ k_)) v3 x3_1) ∧ Aside0 (Below w.heap.size w w'))
  case atStart => exact ⟨(y386), (0), (by first | rfl | (simp; done) | (simp [*]; done)), H', ⟨Nat.le_refl _⟩, ⟨by (with_reducible repeat (first | apply Kd.N_alloc | apply Kd.N_drewN | apply Kd.N_drew)); exact HO388.out⟩, ⟨by repeat (first | (with_reducible first | exact HB.out | apply below_alloc | apply pw_below_drewN | apply below_drew1) | exact HB.out)⟩⟩
  case round =>
    clear H'
    try clear p2
    try clear c5
    obtain ⟨x3_1, x4_1, rfl, HA, HK1, HO_3, HB⟩ := hrel
    cases gk with
    | zero => exact absurd HA.out (by simp [gessoref02_tails.l0])
    | succ k1 =>
      have H := HA.out
      clear HA
      simp only [gessoref02_tails.l0] at H
      by_cases c7 : x4_1 < a0
      · rw [if_pos c7] at H
        have c7b0 : decide (x4_1 < a0) = true := decide_eq_true c7
        clear c7
        have H' := Aside0.mk H
        clear H
        go_wp2
        go_loopg [5, 6] k1 (fun kq v5 v6 w' => ∃ (x5_2 : List (List Int)) (x6_2 : Int), v6 = .int .i64 x6_2 ∧ Aside0 (gessoref02_tails.l1 kq a0 x3_1 x4_1 x5_2 x6_2 = some r) ∧ Aside0 (kq ≤ k1) ∧ Aside0 (Kd.N (Kd.slice 5 (Kd.int .u8)) 23 w' w.heap.size (fun k_ => (w.heap.size ≤ k_) ∧ some k_ ≠ (v5 : Value).ownBlock) u3 x3_1) ∧ Aside0 (Kd.N (Kd.slice 5 (Kd.int .u8)) 23 w' w.heap.size (fun k_ => (w.heap.size ≤ k_) ∧ some k_ ≠ (u3 : Value).ownBlock) v5 x5_2) ∧ Aside0 (Below w.heap.size w w'))
        case atStart => exact ⟨(([] : List (List Int))), (0), (by first | rfl | (simp; done) | (simp [*]; done)), H', ⟨Nat.le_refl _⟩, ⟨by (with_reducible repeat (first | apply Kd.N_alloc | apply Kd.N_drewN | apply Kd.N_drew)); exact Kd.N_mono HO_3.out (fun _ hk => ⟨hk, (by simp [Value.ownBlock])⟩)⟩, ⟨by first | exact Kd.S_nil _ _ _ _ _ | exact Kd.N_nil _ _ _ _ _ | exact Kd.V_nil _ _ _ _ _ | exact Kd.Q_nil _ _ _ _ _ | exact Kd.R_nil _ _ _ _ _⟩, ⟨by repeat (first | (with_reducible first | exact HB.out | apply below_alloc | apply pw_below_drewN | apply below_drew1) | exact HB.out)⟩⟩
        case round =>
          clear H'
          try clear p2
          try clear c5
          try clear c7
          try clear c7b0
          try clear p2
          obtain ⟨x5_2, x6_2, rfl, HA, HK2, HO_3, HO_5, HB⟩ := hrel
          cases gk with
          | zero => exact absurd HA.out (by simp [gessoref02_tails.l1])
          | succ k2 =>
            have H := HA.out
            clear HA
            simp only [gessoref02_tails.l1] at H
            by_cases c8 : x6_2 < (x3_1.length : Int)
            · rw [if_pos c8] at H
              have c8b0 : decide (x6_2 < (x3_1.length : Int)) = true := decide_eq_true c8
              clear c8
              have H' := Aside0.mk H
              clear H
              obtain ⟨Ao9, co9, eo9⟩ := Kd.N_slice HO_3.out
              subst eo9
              go_wp2
              go_loopg [5, 7] k2 (fun kq v5 v7 w' => ∃ (x5_3 : List (List Int)) (x7_3 : Int), v7 = .int .i64 x7_3 ∧ Aside0 (gessoref02_tails.l2 kq a0 x3_1 x4_1 x5_3 x6_2 x7_3 = some r) ∧ Aside0 (kq ≤ k2) ∧ Aside0 (Kd.N (Kd.slice 5 (Kd.int .u8)) 23 w' w.heap.size (fun k_ => (w.heap.size ≤ k_) ∧ some k_ ≠ (v5 : Value).ownBlock) (.slice Ao9 x3_1.length co9) x3_1) ∧ Aside0 (Kd.N (Kd.slice 5 (Kd.int .u8)) 23 w' w.heap.size (fun k_ => (w.heap.size ≤ k_) ∧ some k_ ≠ ((.slice Ao9 x3_1.length co9) : Value).ownBlock) v5 x5_3) ∧ Aside0 (Below w.heap.size w w'))
              case atStart => exact ⟨(x5_2), (128), (by first | rfl | (simp; done) | (simp [*]; done)), H', ⟨Nat.le_refl _⟩, ⟨by (with_reducible repeat (first | apply Kd.N_alloc | apply Kd.N_drewN | apply Kd.N_drew)); exact HO_3.out⟩, ⟨by (with_reducible repeat (first | apply Kd.N_alloc | apply Kd.N_drewN | apply Kd.N_drew)); exact HO_5.out⟩, ⟨by repeat (first | (with_reducible first | exact HB.out | apply below_alloc | apply pw_below_drewN | apply below_drew1) | exact HB.out)⟩⟩
              case round =>
                clear H'
                try clear p2
                try clear c5
                try clear c7
                try clear c7b0
                try clear c8
                try clear c8b0
                try clear p2
                obtain ⟨x5_3, x7_3, rfl, HA, HK3, HO_3, HO_5, HB⟩ := hrel
                cases gk with
                | zero => exact absurd HA.out (by simp [gessoref02_tails.l2])
                | succ k3 =>
                  have H := HA.out
                  clear HA
                  simp only [gessoref02_tails.l2] at H
                  by_cases c10 : x7_3 ≤ 191
                  · rw [if_pos c10] at H
                    have c10b0 : decide (x7_3 ≤ 191) = true := decide_eq_true c10
                    clear c10
                    obtain ⟨y389, hy389⟩ : ∃ y_ : List Int, y_ = (([] : List Int)) := ⟨_, rfl⟩
                    replace H : (if 0 ≤ x6_2 then (if x6_2 < (x3_1.length : Int) then (if y389.length + (rd_L2 x3_1 x6_2).length < 140737488355328 then ((some (y389 ++ (rd_L2 x3_1 x6_2) : List Int)).bind fun y393 => (if y393.length < 140737488355328 then (if x5_3.length < 5864062014805 then (gessoref02_tails.l2 k3 a0 x3_1 x4_1 (x5_3 ++ [(y393 ++ [(x7_3) % 256])]) x6_2 (wrap64 (x7_3 + 15))) else (none)) else (none))) else (none)) else (none)) else (none)) = some r := by first | (rw [hy389]; with_reducible exact H) | (have H2_ := (Option.bind_some _ _).symm.trans H; rw [hy389]; with_reducible exact H2_) | (have H2_ := (Option.bind_some _ _).symm.trans H; with_reducible exact H2_) | with_reducible exact H | (rw [hy389]; exact H) | exact H
                    have Ny389 := Aside0.mk hy389
                    clear hy389
                    by_cases c11 : 0 ≤ x6_2
                    · rw [if_pos c11] at H
                      have c11b0 : decide (0 ≤ x6_2) = true := decide_eq_true c11
                      clear c11
                      by_cases c12 : x6_2 < (x3_1.length : Int)
                      · rw [if_pos c12] at H
                        have c12b0 : decide (x6_2 < (x3_1.length : Int)) = true := decide_eq_true c12
                        clear c12
                        by_cases c13 : y389.length + (rd_L2 x3_1 x6_2).length < 140737488355328
                        · rw [if_pos c13] at H
                          have LMc13 := Aside0.mk c13
                          clear c13
                          obtain ⟨y393, hy393⟩ : ∃ y_ : List Int, y_ = (y389 ++ (rd_L2 x3_1 x6_2)) := ⟨_, rfl⟩
                          replace H : (if y393.length < 140737488355328 then (if x5_3.length < 5864062014805 then (gessoref02_tails.l2 k3 a0 x3_1 x4_1 (x5_3 ++ [(y393 ++ [(x7_3) % 256])]) x6_2 (wrap64 (x7_3 + 15))) else (none)) else (none)) = some r := by first | (rw [hy393]; with_reducible exact H) | (have H2_ := (Option.bind_some _ _).symm.trans H; rw [hy393]; with_reducible exact H2_) | (have H2_ := (Option.bind_some _ _).symm.trans H; with_reducible exact H2_) | with_reducible exact H | (rw [hy393]; exact H) | exact H
                          have Ny393 := Aside0.mk hy393
                          clear hy393
                          by_cases c14 : y393.length < 140737488355328
                          · rw [if_pos c14] at H
                            have LMc14 := Aside0.mk c14
                            clear c14
                            obtain ⟨y396, hy396⟩ : ∃ y_ : List Int, y_ = (y393 ++ [(x7_3) % 256]) := ⟨_, rfl⟩
                            replace H : (if x5_3.length < 5864062014805 then (gessoref02_tails.l2 k3 a0 x3_1 x4_1 (x5_3 ++ [y396]) x6_2 (wrap64 (x7_3 + 15))) else (none)) = some r := by first | (rw [hy396]; with_reducible exact H) | (have H2_ := (Option.bind_some _ _).symm.trans H; rw [hy396]; with_reducible exact H2_) | (have H2_ := (Option.bind_some _ _).symm.trans H; with_reducible exact H2_) | with_reducible exact H | (rw [hy396]; exact H) | exact H
                            have Ny396 := Aside0.mk hy396
                            clear hy396
                            by_cases c15 : x5_3.length < 5864062014805
                            · rw [if_pos c15] at H
                              have LMc15 := Aside0.mk c15
                              clear c15
                              obtain ⟨y399, hy399⟩ : ∃ y_ : List (List Int), y_ = (x5_3 ++ [y396]) := ⟨_, rfl⟩
                              replace H : (gessoref02_tails.l2 k3 a0 x3_1 x4_1 y399 x6_2 (wrap64 (x7_3 + 15))) = some r := by first | (rw [hy399]; with_reducible exact H) | (have H2_ := (Option.bind_some _ _).symm.trans H; rw [hy399]; with_reducible exact H2_) | (have H2_ := (Option.bind_some _ _).symm.trans H; with_reducible exact H2_) | with_reducible exact H | (rw [hy399]; exact H) | exact H
                              have Ny399 := Aside0.mk hy399
                              clear hy399
                              have H' := Aside0.mk H
                              clear H
                              go_wp2_with (first | ((with_reducible refine gate_dst (N := 26) rfl ?_); refine Kd.R_lit (Kd.int .u8) _ 5 ?hg (N := 26) ?hd (xs := ([] : List Int)) (inner := []) (ok := fun _ => True) (okp := fun _ => True) ?hr ?hp (fun _ hk => hk) trivial (Below.refl _ _) (Nat.le_refl _) (by simp) ?_; (case hd => rfl); (case hg => rfl); (case hr => first | (go_simp; done) | (go_simp; rfl)); (case hp => exact (Reps.none _ _)); intro v390 w16 ho17 hb hg_ hnew_; clear hg_ hnew_; (first | rw [← Ny389.out] at ho17 | (simp only [Int.reduceToNat] at ho17; rw [← Ny389.out] at ho17)); have n0_ := Aside0.mk (Kd.N_elder' (by (with_reducible repeat (first | apply Kd.N_alloc | apply Kd.N_drewN | apply Kd.N_drew)); exact HO_3.out) (Kd.R_base ho17) hb); have n1_ := Aside0.mk (Kd.N_elder' (by (with_reducible repeat (first | apply Kd.N_alloc | apply Kd.N_drewN | apply Kd.N_drew)); exact HO_5.out) (Kd.R_base ho17) hb); have n2_ := Aside0.mk (Kd.R_lower (Kd.R_newM (M := fun k_ => (w.heap.size ≤ k_)) ho17 (below_size (by repeat (first | (with_reducible first | exact HB.out | apply below_alloc | apply pw_below_drewN | apply below_drew1) | exact HB.out))) (fun k_ h_ => h_)) (below_size (by repeat (first | (with_reducible first | exact HB.out | apply below_alloc | apply pw_below_drewN | apply below_drew1) | exact HB.out)))); have n3_ := Aside0.mk (below_step (by repeat (first | (with_reducible first | exact HB.out | apply below_alloc | apply pw_below_drewN | apply below_drew1) | exact HB.out)) hb); clear HO_3; clear HO_5; clear HB; have HO_3 := n0_; have HO_5 := n1_; have HO391 := n2_; have HB := n3_; clear n0_ n1_ n2_ n3_; clear hb ho17; have p392 : 0 ≤ (x6_2 : Int) := of_decide_eq_true (by first | (with_reducible assumption) | assumption); have q392 : x6_2 < (x3_1.length : Int) := of_decide_eq_true (by first | (with_reducible assumption) | assumption); obtain ⟨ad392, A392_0, c392_0, e392, hx392_0, hl392_0, hi392_0⟩ := at_L2 (Kd.N_reads' HO_3.out).2.2 x6_2 p392 q392; cases e392; obtain ⟨ce392, hce392, hMe392, hcc392⟩ := Kd.N_get HO_3.out [] x6_2 p392 (by first | exact q392 | exact of_decide_eq_true (by first | (with_reducible assumption) | assumption) | (have e_ := (Kd.N_reads' HO_3.out).1; omega)); obtain ⟨ua392_0, uc392_0, rfl, ul392_0, ge392_0⟩ := Kd.FK_slice_open hMe392; have hv392_0 := hcc392 0 _ rfl; rw [Nat.add_zero, show ((Kd.slice 5 (Kd.int .u8))).sz = 1 from rfl, Nat.mul_one] at hv392_0; replace hv392_0 := Option.some.inj (hv392_0.symm.trans hx392_0); injection hv392_0 with hva_ hvn_ hvc_; rw [hva_] at ge392_0; rw [hvc_] at ul392_0; have HL392_0 := Aside0.mk (show Kd.V (Kd.int .u8) 5 _ w.heap.size _ _ (rd_L2 x3_1 x6_2) from Kd.V_mk ul392_0 ge392_0); clear hva_ hvn_ hvc_ ge392_0 ul392_0; clear hcc392 hce392; have HR392_0 := Aside0.mk hi392_0; have HC392_0 := Aside0.mk hl392_0; clear hi392_0 hl392_0; replace p392 := eq_true p392; replace q392 := eq_true q392) | ((with_reducible refine gate_builtin (b := .append) (xs := #[.tmp 26, .tmp 30]) rfl ?_); at_builtin; refine Kd.R_append_rows (Kd.int .u8) (w0 := w) w.heap.size rfl (.tmp 26) (.tmp 30) 23 5 (.int .u8 0) 1 rfl Tryd.underlying23 info5 rfl (by decide) (by omega) v390 y389 (rd_L2 x3_1 x6_2) _ _ _ (fun k_ => (w.heap.size ≤ k_)) (fun _ => False) rfl rfl ?aO ?aR (fun _ _ h => h) (fun _ h => h.elim) ?aF ?aB ?aS ?aL ?_; (case aR => repeat (first | exact (by repeat (first | (with_reducible exact HR392_0.out) | (with_reducible refine Kd.C_alloc ?_ _) | (with_reducible refine Kd.C_drewN ?_ _) | (with_reducible refine Kd.C_drew ?_) | exact HR392_0.out)) | (with_reducible refine Kd.C_alloc ?_ _) | (with_reducible refine Kd.C_drewN ?_ _) | (with_reducible refine Kd.C_drew ?_))); (case aB => exact (by repeat (first | (with_reducible first | exact HB.out | apply below_alloc | apply pw_below_drewN | apply below_drew1) | exact HB.out))); (case aF => exact (fun k_ hk => (Nat.le_trans (below_size (by repeat (first | (with_reducible first | exact HB.out | apply below_alloc | apply pw_below_drewN | apply below_drew1) | exact HB.out))) hk))); (case aO => exact (by (with_reducible repeat (first | apply Kd.R_alloc | apply Kd.R_drewN | apply Kd.R_drew)); exact Kd.R_mono HO391.out (fun _ hk => hk.1))); (case aS => exact (below_size (by repeat (first | (with_reducible first | exact HB.out | apply below_alloc | apply pw_below_drewN | apply below_drew1) | exact HB.out)))); (case aL => have := LMc13.out; omega); intro v394 w18 ho hb hg hat; rw [← Ny393.out] at ho; have n0_ := Aside0.mk (Kd.N_afterv (ok := (fun k_ => (w.heap.size ≤ k_) ∧ some k_ ≠ (u5 : Value).ownBlock)) (by (with_reducible repeat (first | apply Kd.N_alloc | apply Kd.N_drewN | apply Kd.N_drew)); exact HO_3.out) hg hat); have n1_ := Aside0.mk (Kd.N_afterv (ok := (fun k_ => (w.heap.size ≤ k_) ∧ some k_ ≠ (.slice (some ad392) x3_1.length co9 : Value).ownBlock)) (by (with_reducible repeat (first | apply Kd.N_alloc | apply Kd.N_drewN | apply Kd.N_drew)); exact HO_5.out) hg hat); have n2_ := Aside0.mk (Kd.V_afterv (ok := (fun k_ => (w.heap.size ≤ k_) ∧ some k_ ≠ (.slice (some ad392) x3_1.length co9 : Value).ownBlock ∧ some k_ ≠ (u5 : Value).ownBlock)) (by (with_reducible repeat (first | apply Kd.V_alloc | apply Kd.V_drewN | apply Kd.V_drew)); exact Kd.V_mono HL392_0.out (fun _ hk => ⟨⟨hk.1.1.1, ⟨hk.2, hk.1.1.2⟩⟩, hk.1.2⟩)) hg hat); have n3_ := Aside0.mk (hb); have n4_ := Aside0.mk (ho); clear HO_3; clear HO_5; clear HL392_0; clear HB; clear HO391; have HO_3 := n0_; have HO_5 := n1_; have HL392_0 := n2_; have HB := n3_; have HO395 := n4_; clear n0_ n1_ n2_ n3_ n4_; clear ho hb hg hat) | ((with_reducible refine gate_builtin (b := .append) (xs := #[.tmp 31, .tmp 34]) rfl ?_); at_builtin; refine Kd.R_append (Kd.int .u8) (w0 := w) w.heap.size rfl (.tmp 31) (.tmp 34) 23 5 (.int .u8 0) 1 rfl Tryd.underlying23 info5 rfl (by decide) (by omega) v394 y393 ((x7_3) % 256) [.int .u8 ((x7_3) % 256)] (fun k_ => (w.heap.size ≤ k_)) (fun _ => False) rfl rfl ?aP (fun _ hk => hk.elim) ?aF ?aO ?aB ?aS ?aL ?_; (case aP => exact rfl); (case aB => exact (by repeat (first | (with_reducible first | exact HB.out | apply below_alloc | apply pw_below_drewN | apply below_drew1) | exact HB.out))); (case aF => exact (fun k_ hk => (Nat.le_trans (below_size (by repeat (first | (with_reducible first | exact HB.out | apply below_alloc | apply pw_below_drewN | apply below_drew1) | exact HB.out))) hk))); (case aO => exact (by (with_reducible repeat (first | apply Kd.R_alloc | apply Kd.R_drewN | apply Kd.R_drew)); exact HO395.out)); (case aS => exact (below_size (by repeat (first | (with_reducible first | exact HB.out | apply below_alloc | apply pw_below_drewN | apply below_drew1) | exact HB.out)))); (case aL => have := LMc14.out; omega); intro v397 w19 ho hb hg hat; rw [← Ny396.out] at ho; have n0_ := Aside0.mk (Kd.N_afterv (ok := (fun k_ => (w.heap.size ≤ k_) ∧ some k_ ≠ (u5 : Value).ownBlock)) (by (with_reducible repeat (first | apply Kd.N_alloc | apply Kd.N_drewN | apply Kd.N_drew)); exact HO_3.out) hg hat); have n1_ := Aside0.mk (Kd.N_afterv (ok := (fun k_ => (w.heap.size ≤ k_) ∧ some k_ ≠ (.slice (some ad392) x3_1.length co9 : Value).ownBlock)) (by (with_reducible repeat (first | apply Kd.N_alloc | apply Kd.N_drewN | apply Kd.N_drew)); exact HO_5.out) hg hat); have n2_ := Aside0.mk (Kd.V_afterv (ok := (fun k_ => (w.heap.size ≤ k_) ∧ some k_ ≠ (.slice (some ad392) x3_1.length co9 : Value).ownBlock ∧ some k_ ≠ (u5 : Value).ownBlock)) (by (with_reducible repeat (first | apply Kd.V_alloc | apply Kd.V_drewN | apply Kd.V_drew)); exact HL392_0.out) hg hat); have n3_ := Aside0.mk (hb); have n4_ := Aside0.mk (ho); clear HO_3; clear HO_5; clear HL392_0; clear HB; clear HO395; have HO_3 := n0_; have HO_5 := n1_; have HL392_0 := n2_; have HB := n3_; have HO398 := n4_; clear n0_ n1_ n2_ n3_ n4_; clear ho hb hg hat; obtain ⟨Ao21, co21, eo21⟩ := Kd.R_slice HO398.out; subst eo21) | ((with_reducible refine gate_builtin (b := .append) (xs := #[.tmp 25, .tmp 36]) rfl ?_); at_builtin; refine Kd.N_append (Kd.slice 5 (Kd.int .u8)) (w0 := w) w.heap.size rfl (.tmp 25) (.tmp 36) 48 23 (.slice none 0 0) 24 rfl Tryd.underlying48 infoT23 rfl (by decide) (by omega) u5 x5_3 y396 [.slice Ao21 y396.length co21] (fun k_ => (w.heap.size ≤ k_) ∧ some k_ ≠ (.slice (some ad392) x3_1.length co9 : Value).ownBlock) (fun k_ => ((fun k_ => (w.heap.size ≤ k_) ∧ some k_ ≠ (.slice (some ad392) x3_1.length co9 : Value).ownBlock)) k_ ∧ some k_ ≠ (u5 : Value).ownBlock) rfl rfl ?aP (fun _ hk => hk) ?aF ?aO ?aB ?aS ?aL ?_; (case aP => exact (Kd.FK_slice_mk (Kd.R_reads' (Kd.R_mono (ok' := (fun k_ => ((fun k_ => (w.heap.size ≤ k_) ∧ some k_ ≠ (.slice (some ad392) x3_1.length co9 : Value).ownBlock)) k_ ∧ some k_ ≠ (u5 : Value).ownBlock)) (Kd.R_apart' (Kd.R_apart' (HO398.out) (Kd.N_typed HO_3.out) (by decide)) (Kd.N_typed HO_5.out) (by decide)) (fun k_ hk => ⟨⟨hk.1.1, hk.1.2⟩, hk.2⟩))).2.1 (Kd.R_F (Kd.R_mono (ok' := (fun k_ => ((fun k_ => (w.heap.size ≤ k_) ∧ some k_ ≠ (.slice (some ad392) x3_1.length co9 : Value).ownBlock)) k_ ∧ some k_ ≠ (u5 : Value).ownBlock)) (Kd.R_apart' (Kd.R_apart' (HO398.out) (Kd.N_typed HO_3.out) (by decide)) (Kd.N_typed HO_5.out) (by decide)) (fun k_ hk => ⟨⟨hk.1.1, hk.1.2⟩, hk.2⟩))))); (case aB => exact (by repeat (first | (with_reducible first | exact HB.out | apply below_alloc | apply pw_below_drewN | apply below_drew1) | exact HB.out))); (case aF => exact (fun k_ hk => ⟨(Nat.le_trans (below_size (by repeat (first | (with_reducible first | exact HB.out | apply below_alloc | apply pw_below_drewN | apply below_drew1) | exact HB.out))) hk), Kd.fresh' (Kd.N_lt (by (with_reducible repeat (first | apply Kd.N_alloc | apply Kd.N_drewN | apply Kd.N_drew)); exact HO_3.out)) k_ hk⟩)); (case aO => exact (by (with_reducible repeat (first | apply Kd.N_alloc | apply Kd.N_drewN | apply Kd.N_drew)); exact Kd.N_mono HO_5.out (fun _ hk => ⟨hk.1.1, hk.1.2⟩))); (case aS => exact (below_size (by repeat (first | (with_reducible first | exact HB.out | apply below_alloc | apply pw_below_drewN | apply below_drew1) | exact HB.out)))); (case aL => have := LMc15.out; omega); intro v400 w20 ho hb hg hat; rw [← Ny399.out] at ho; have n0_ := Aside0.mk (Kd.N_afterv (ok := (fun k_ => (w.heap.size ≤ k_) ∧ some k_ ≠ (.slice Ao21 y396.length co21 : Value).ownBlock)) (by (with_reducible repeat (first | apply Kd.N_alloc | apply Kd.N_drewN | apply Kd.N_drew)); exact Kd.N_mono HO_3.out (fun _ hk => ⟨⟨hk.1.1, hk.2⟩, hk.1.2⟩)) hg hat); have n1_ := Aside0.mk (Kd.V_afterv (ok := (fun k_ => (w.heap.size ≤ k_) ∧ some k_ ≠ (.slice (some ad392) x3_1.length co9 : Value).ownBlock ∧ some k_ ≠ (.slice Ao21 y396.length co21 : Value).ownBlock)) (by (with_reducible repeat (first | apply Kd.V_alloc | apply Kd.V_drewN | apply Kd.V_drew)); exact Kd.V_mono HL392_0.out (fun _ hk => ⟨⟨hk.1.1, ⟨hk.1.2.1, hk.2⟩⟩, hk.1.2.2⟩)) hg hat); have n2_ := Aside0.mk (hb); have n3_ := Aside0.mk (ho); clear HO_3; clear HL392_0; clear HB; clear HO_5; clear HO398; have HO_3 := n0_; have HL392_0 := n1_; have HB := n2_; have HO401 := n3_; clear n0_ n1_ n2_ n3_; clear ho hb hg hat))
                              go_roundg k3
                              case measure => have := HK1.out; have := HK2.out; have := HK3.out; omega
                              case rel => exact ⟨(y399), (wrap64 (x7_3 + 15)), (by first | rfl | (simp; done) | (simp [*]; done)), H', ⟨by have := HK1.out; have := HK2.out; have := HK3.out; omega⟩, ⟨by (with_reducible repeat (first | apply Kd.N_alloc | apply Kd.N_drewN | apply Kd.N_drew)); exact Kd.N_mono HO_3.out (fun _ hk => ⟨hk.1.1, hk.2⟩)⟩, ⟨by (with_reducible repeat (first | apply Kd.N_alloc | apply Kd.N_drewN | apply Kd.N_drew)); exact HO401.out⟩, ⟨by repeat (first | (with_reducible first | exact HB.out | apply below_alloc | apply pw_below_drewN | apply below_drew1) | exact HB.out)⟩⟩
                            · rw [if_neg c15] at H
                              exact absurd H (by simp)
                          · rw [if_neg c14] at H
                            exact absurd H (by simp)
                        · rw [if_neg c13] at H
                          exact absurd H (by simp)
                      · rw [if_neg c12] at H
                        exact absurd H (by simp)
                    · rw [if_neg c11] at H
                      exact absurd H (by simp)
                  · rw [if_neg c10] at H
                    have c10b0 : decide (x7_3 ≤ 191) = false := decide_eq_false c10
                    clear c10
                    obtain ⟨y402, hy402⟩ : ∃ y_ : List Int, y_ = (([] : List Int)) := ⟨_, rfl⟩
                    replace H : (if 0 ≤ x6_2 then (if x6_2 < (x3_1.length : Int) then (if y402.length + (rd_L2 x3_1 x6_2).length < 140737488355328 then ((some (y402 ++ (rd_L2 x3_1 x6_2) : List Int)).bind fun y406 => (if y406.length < 140737488355328 then ((some (([] : List Int) : List Int)).bind fun y412 => (if y412.length + (rd_L2 x3_1 x6_2).length < 140737488355328 then ((some (y412 ++ (rd_L2 x3_1 x6_2) : List Int)).bind fun y416 => (if y416.length < 140737488355328 then ((some (([] : List Int) : List Int)).bind fun y422 => (if y422.length + (rd_L2 x3_1 x6_2).length < 140737488355328 then ((some (y422 ++ (rd_L2 x3_1 x6_2) : List Int)).bind fun y426 => (if y426.length < 140737488355328 then ((some (([(y406 ++ [144]), (y416 ++ [160]), (y426 ++ [191])] : List (List Int)) : List (List Int))).bind fun y432 => (if x5_3.length + y432.length < 5864062014805 then (gessoref02_tails.l1 k3 a0 x3_1 x4_1 (x5_3 ++ y432) (wrap64 (x6_2 + 1))) else (none))) else (none))) else (none))) else (none))) else (none))) else (none))) else (none)) else (none)) else (none)) = some r := by first | (rw [hy402]; with_reducible exact H) | (have H2_ := (Option.bind_some _ _).symm.trans H; rw [hy402]; with_reducible exact H2_) | (have H2_ := (Option.bind_some _ _).symm.trans H; with_reducible exact H2_) | with_reducible exact H | (rw [hy402]; exact H) | exact H
                    have Ny402 := Aside0.mk hy402
                    clear hy402
                    by_cases c22 : 0 ≤ x6_2
                    · rw [if_pos c22] at H
                      have c22b0 : decide (0 ≤ x6_2) = true := decide_eq_true c22
                      clear c22
                      by_cases c23 : x6_2 < (x3_1.length : Int)
                      · rw [if_pos c23] at H
                        have c23b0 : decide (x6_2 < (x3_1.length : Int)) = true := decide_eq_true c23
                        clear c23
                        by_cases c24 : y402.length + (rd_L2 x3_1 x6_2).length < 140737488355328
                        · rw [if_pos c24] at H
                          have LMc24 := Aside0.mk c24
                          clear c24
                          obtain ⟨y406, hy406⟩ : ∃ y_ : List Int, y_ = (y402 ++ (rd_L2 x3_1 x6_2)) := ⟨_, rfl⟩
                          replace H : (if y406.length < 140737488355328 then ((some (([] : List Int) : List Int)).bind fun y412 => (if y412.length + (rd_L2 x3_1 x6_2).length < 140737488355328 then ((some (y412 ++ (rd_L2 x3_1 x6_2) : List Int)).bind fun y416 => (if y416.length < 140737488355328 then ((some (([] : List Int) : List Int)).bind fun y422 => (if y422.length + (rd_L2 x3_1 x6_2).length < 140737488355328 then ((some (y422 ++ (rd_L2 x3_1 x6_2) : List Int)).bind fun y426 => (if y426.length < 140737488355328 then ((some (([(y406 ++ [144]), (y416 ++ [160]), (y426 ++ [191])] : List (List Int)) : List (List Int))).bind fun y432 => (if x5_3.length + y432.length < 5864062014805 then (gessoref02_tails.l1 k3 a0 x3_1 x4_1 (x5_3 ++ y432) (wrap64 (x6_2 + 1))) else (none))) else (none))) else (none))) else (none))) else (none))) else (none)) = some r := by first | (rw [hy406]; with_reducible exact H) | (have H2_ := (Option.bind_some _ _).symm.trans H; rw [hy406]; with_reducible exact H2_) | (have H2_ := (Option.bind_some _ _).symm.trans H; with_reducible exact H2_) | with_reducible exact H | (rw [hy406]; exact H) | exact H
                          have Ny406 := Aside0.mk hy406
                          clear hy406
                          by_cases c25 : y406.length < 140737488355328
                          · rw [if_pos c25] at H
                            have LMc25 := Aside0.mk c25
                            clear c25
                            obtain ⟨y409, hy409⟩ : ∃ y_ : List Int, y_ = (y406 ++ [144]) := ⟨_, rfl⟩
                            replace H : ((some (([] : List Int) : List Int)).bind fun y412 => (if y412.length + (rd_L2 x3_1 x6_2).length < 140737488355328 then ((some (y412 ++ (rd_L2 x3_1 x6_2) : List Int)).bind fun y416 => (if y416.length < 140737488355328 then ((some (([] : List Int) : List Int)).bind fun y422 => (if y422.length + (rd_L2 x3_1 x6_2).length < 140737488355328 then ((some (y422 ++ (rd_L2 x3_1 x6_2) : List Int)).bind fun y426 => (if y426.length < 140737488355328 then ((some (([y409, (y416 ++ [160]), (y426 ++ [191])] : List (List Int)) : List (List Int))).bind fun y432 => (if x5_3.length + y432.length < 5864062014805 then (gessoref02_tails.l1 k3 a0 x3_1 x4_1 (x5_3 ++ y432) (wrap64 (x6_2 + 1))) else (none))) else (none))) else (none))) else (none))) else (none))) = some r := by first | (rw [hy409]; with_reducible exact H) | (have H2_ := (Option.bind_some _ _).symm.trans H; rw [hy409]; with_reducible exact H2_) | (have H2_ := (Option.bind_some _ _).symm.trans H; with_reducible exact H2_) | with_reducible exact H | (rw [hy409]; exact H) | exact H
                            have Ny409 := Aside0.mk hy409
                            clear hy409
                            obtain ⟨y412, hy412⟩ : ∃ y_ : List Int, y_ = (([] : List Int)) := ⟨_, rfl⟩
                            replace H : (if y412.length + (rd_L2 x3_1 x6_2).length < 140737488355328 then ((some (y412 ++ (rd_L2 x3_1 x6_2) : List Int)).bind fun y416 => (if y416.length < 140737488355328 then ((some (([] : List Int) : List Int)).bind fun y422 => (if y422.length + (rd_L2 x3_1 x6_2).length < 140737488355328 then ((some (y422 ++ (rd_L2 x3_1 x6_2) : List Int)).bind fun y426 => (if y426.length < 140737488355328 then ((some (([y409, (y416 ++ [160]), (y426 ++ [191])] : List (List Int)) : List (List Int))).bind fun y432 => (if x5_3.length + y432.length < 5864062014805 then (gessoref02_tails.l1 k3 a0 x3_1 x4_1 (x5_3 ++ y432) (wrap64 (x6_2 + 1))) else (none))) else (none))) else (none))) else (none))) else (none)) = some r := by first | (rw [hy412]; with_reducible exact H) | (have H2_ := (Option.bind_some _ _).symm.trans H; rw [hy412]; with_reducible exact H2_) | (have H2_ := (Option.bind_some _ _).symm.trans H; with_reducible exact H2_) | with_reducible exact H | (rw [hy412]; exact H) | exact H
                            have Ny412 := Aside0.mk hy412
                            clear hy412
                            by_cases c26 : y412.length + (rd_L2 x3_1 x6_2).length < 140737488355328
                            · rw [if_pos c26] at H
                              have LMc26 := Aside0.mk c26
                              clear c26
                              obtain ⟨y416, hy416⟩ : ∃ y_ : List Int, y_ = (y412 ++ (rd_L2 x3_1 x6_2)) := ⟨_, rfl⟩
                              replace H : (if y416.length < 140737488355328 then ((some (([] : List Int) : List Int)).bind fun y422 => (if y422.length + (rd_L2 x3_1 x6_2).length < 140737488355328 then ((some (y422 ++ (rd_L2 x3_1 x6_2) : List Int)).bind fun y426 => (if y426.length < 140737488355328 then ((some (([y409, (y416 ++ [160]), (y426 ++ [191])] : List (List Int)) : List (List Int))).bind fun y432 => (if x5_3.length + y432.length < 5864062014805 then (gessoref02_tails.l1 k3 a0 x3_1 x4_1 (x5_3 ++ y432) (wrap64 (x6_2 + 1))) else (none))) else (none))) else (none))) else (none)) = some r := by first | (rw [hy416]; with_reducible exact H) | (have H2_ := (Option.bind_some _ _).symm.trans H; rw [hy416]; with_reducible exact H2_) | (have H2_ := (Option.bind_some _ _).symm.trans H; with_reducible exact H2_) | with_reducible exact H | (rw [hy416]; exact H) | exact H
                              have Ny416 := Aside0.mk hy416
                              clear hy416
                              by_cases c27 : y416.length < 140737488355328
                              · rw [if_pos c27] at H
                                have LMc27 := Aside0.mk c27
                                clear c27
                                obtain ⟨y419, hy419⟩ : ∃ y_ : List Int, y_ = (y416 ++ [160]) := ⟨_, rfl⟩
                                replace H : ((some (([] : List Int) : List Int)).bind fun y422 => (if y422.length + (rd_L2 x3_1 x6_2).length < 140737488355328 then ((some (y422 ++ (rd_L2 x3_1 x6_2) : List Int)).bind fun y426 => (if y426.length < 140737488355328 then ((some (([y409, y419, (y426 ++ [191])] : List (List Int)) : List (List Int))).bind fun y432 => (if x5_3.length + y432.length < 5864062014805 then (gessoref02_tails.l1 k3 a0 x3_1 x4_1 (x5_3 ++ y432) (wrap64 (x6_2 + 1))) else (none))) else (none))) else (none))) = some r := by first | (rw [hy419]; with_reducible exact H) | (have H2_ := (Option.bind_some _ _).symm.trans H; rw [hy419]; with_reducible exact H2_) | (have H2_ := (Option.bind_some _ _).symm.trans H; with_reducible exact H2_) | with_reducible exact H | (rw [hy419]; exact H) | exact H
                                have Ny419 := Aside0.mk hy419
                                clear hy419
                                obtain ⟨y422, hy422⟩ : ∃ y_ : List Int, y_ = (([] : List Int)) := ⟨_, rfl⟩
                                replace H : (if y422.length + (rd_L2 x3_1 x6_2).length < 140737488355328 then ((some (y422 ++ (rd_L2 x3_1 x6_2) : List Int)).bind fun y426 => (if y426.length < 140737488355328 then ((some (([y409, y419, (y426 ++ [191])] : List (List Int)) : List (List Int))).bind fun y432 => (if x5_3.length + y432.length < 5864062014805 then (gessoref02_tails.l1 k3 a0 x3_1 x4_1 (x5_3 ++ y432) (wrap64 (x6_2 + 1))) else (none))) else (none))) else (none)) = some r := by first | (rw [hy422]; with_reducible exact H) | (have H2_ := (Option.bind_some _ _).symm.trans H; rw [hy422]; with_reducible exact H2_) | (have H2_ := (Option.bind_some _ _).symm.trans H; with_reducible exact H2_) | with_reducible exact H | (rw [hy422]; exact H) | exact H
                                have Ny422 := Aside0.mk hy422
                                clear hy422
                                by_cases c28 : y422.length + (rd_L2 x3_1 x6_2).length < 140737488355328
                                · rw [if_pos c28] at H
                                  have LMc28 := Aside0.mk c28
                                  clear c28
                                  obtain ⟨y426, hy426⟩ : ∃ y_ : List Int, y_ = (y422 ++ (rd_L2 x3_1 x6_2)) := ⟨_, rfl⟩
                                  replace H : (if y426.length < 140737488355328 then ((some (([y409, y419, (y426 ++ [191])] : List (List Int)) : List (List Int))).bind fun y432 => (if x5_3.length + y432.length < 5864062014805 then (gessoref02_tails.l1 k3 a0 x3_1 x4_1 (x5_3 ++ y432) (wrap64 (x6_2 + 1))) else (none))) else (none)) = some r := by first | (rw [hy426]; with_reducible exact H) | (have H2_ := (Option.bind_some _ _).symm.trans H; rw [hy426]; with_reducible exact H2_) | (have H2_ := (Option.bind_some _ _).symm.trans H; with_reducible exact H2_) | with_reducible exact H | (rw [hy426]; exact H) | exact H
                                  have Ny426 := Aside0.mk hy426
                                  clear hy426
                                  by_cases c29 : y426.length < 140737488355328
                                  · rw [if_pos c29] at H
                                    have LMc29 := Aside0.mk c29
                                    clear c29
                                    obtain ⟨y429, hy429⟩ : ∃ y_ : List Int, y_ = (y426 ++ [191]) := ⟨_, rfl⟩
                                    replace H : ((some (([y409, y419, y429] : List (List Int)) : List (List Int))).bind fun y432 => (if x5_3.length + y432.length < 5864062014805 then (gessoref02_tails.l1 k3 a0 x3_1 x4_1 (x5_3 ++ y432) (wrap64 (x6_2 + 1))) else (none))) = some r := by first | (rw [hy429]; with_reducible exact H) | (have H2_ := (Option.bind_some _ _).symm.trans H; rw [hy429]; with_reducible exact H2_) | (have H2_ := (Option.bind_some _ _).symm.trans H; with_reducible exact H2_) | with_reducible exact H | (rw [hy429]; exact H) | exact H
                                    have Ny429 := Aside0.mk hy429
                                    clear hy429
                                    obtain ⟨y432, hy432⟩ : ∃ y_ : List (List Int), y_ = (([y409, y419, y429] : List (List Int))) := ⟨_, rfl⟩
                                    replace H : (if x5_3.length + y432.length < 5864062014805 then (gessoref02_tails.l1 k3 a0 x3_1 x4_1 (x5_3 ++ y432) (wrap64 (x6_2 + 1))) else (none)) = some r := by first | (rw [hy432]; with_reducible exact H) | (have H2_ := (Option.bind_some _ _).symm.trans H; rw [hy432]; with_reducible exact H2_) | (have H2_ := (Option.bind_some _ _).symm.trans H; with_reducible exact H2_) | with_reducible exact H | (rw [hy432]; exact H) | exact H
                                    have Ny432 := Aside0.mk hy432
                                    clear hy432
                                    by_cases c30 : x5_3.length + y432.length < 5864062014805
                                    · rw [if_pos c30] at H
                                      have LMc30 := Aside0.mk c30
                                      clear c30
                                      obtain ⟨y435, hy435⟩ : ∃ y_ : List (List Int), y_ = (x5_3 ++ y432) := ⟨_, rfl⟩
                                      replace H : (gessoref02_tails.l1 k3 a0 x3_1 x4_1 y435 (wrap64 (x6_2 + 1))) = some r := by first | (rw [hy435]; with_reducible exact H) | (have H2_ := (Option.bind_some _ _).symm.trans H; rw [hy435]; with_reducible exact H2_) | (have H2_ := (Option.bind_some _ _).symm.trans H; with_reducible exact H2_) | with_reducible exact H | (rw [hy435]; exact H) | exact H
                                      have Ny435 := Aside0.mk hy435
                                      clear hy435
                                      have H' := Aside0.mk H
                                      clear H
                                      have p405 : 0 ≤ (x6_2 : Int) := of_decide_eq_true (by first | (with_reducible assumption) | assumption)
                                      have q405 : x6_2 < (x3_1.length : Int) := of_decide_eq_true (by first | (with_reducible assumption) | assumption)
                                      obtain ⟨ad405, A405_0, c405_0, e405, hx405_0, hl405_0, hi405_0⟩ := at_L2 (Kd.N_reads' HO_3.out).2.2 x6_2 p405 q405
                                      cases e405
                                      replace p405 := eq_true p405
                                      replace q405 := eq_true q405
                                      obtain ⟨row, hrow⟩ : ∃ l, rd_L2 x3_1 x6_2 = l := ⟨_, rfl⟩
                                      have hrl : row.length + 1 ≤ 140737488355328 := by
                                        have h1 := LMc25.out
                                        rw [Ny406.out, Ny402.out, hrow] at h1
                                        simp only [List.nil_append] at h1
                                        omega
                                      have hy409 : row ++ [144] = y409 := by rw [Ny409.out, Ny406.out, Ny402.out, hrow]; rfl
                                      have hy419 : row ++ [160] = y419 := by rw [Ny419.out, Ny416.out, Ny412.out, hrow]; rfl
                                      have hy429 : row ++ [191] = y429 := by rw [Ny429.out, Ny426.out, Ny422.out, hrow]; rfl
                                      rw [hrow] at hx405_0 hl405_0 hi405_0
                                      obtain ⟨rn, hrn⟩ : ∃ n, row.length = n := ⟨_, rfl⟩
                                      rw [hrn] at hx405_0 hl405_0 hi405_0
                                      have HRL := Lib.hid hrl
                                      have HY1 := Lib.hid hy409
                                      have HY2 := Lib.hid hy419
                                      have HY3 := Lib.hid hy429
                                      clear hrow hrl hy409 hy419 hy429 hrn hl405_0
                                      go_wp2
                                      refine start_ (n := 28) (S := fun w' => Below wr.drew.heap.size wr.drew w') (ds := [26]) #[false, false, false, false, false, false, false, false, false, false, false, false, false, false, false, false, false, false, false, false, false, false, false, false, false, false, false, false] (by kernel_rfl) rfl rfl (Below.refl _ _) (fun hHeld => ?_)
                                      have hx1 : wr.drew.cell? (ad405.add x6_2.toNat) = some (Value.slice A405_0 rn c405_0) := pw_cell_below (below_drew1 (Below.refl _ _)) hx405_0
                                      have hC1 : Kd.C (Kd.int .u8) wr.drew A405_0 rn row := Kd.C_drew hi405_0
                                      have h3 : Kd.N (Kd.slice 5 (Kd.int .u8)) 23 wr.drew w.heap.size (fun k_ => w.heap.size ≤ k_ ∧ some k_ ≠ u5.ownBlock) (Value.slice (some ad405) x3_1.length co9) x3_1 := Kd.N_drew HO_3.out
                                      have h5 : Kd.N (Kd.slice 5 (Kd.int .u8)) 23 wr.drew w.heap.size (fun k_ => w.heap.size ≤ k_ ∧ some k_ ≠ (Value.slice (some ad405) x3_1.length co9).ownBlock) u5 x5_3 := Kd.N_drew HO_5.out
                                      have hB0 : Below w.heap.size w wr.drew := below_drew1 HB.out
                                      clear hx405_0 hi405_0 HO_3 HO_5 HB hHeld
                                      generalize wr.drew = wD at hx1 hC1 h3 h5 hB0 ⊢
                                      have hld : ∀ W : World, Below wD.heap.size wD W → W.cell? (ad405.add x6_2.toNat) = some (Value.slice A405_0 rn c405_0) := fun W hb => pw_cell_below hb hx1
                                      have HC1 := Lib.hid hC1
                                      have HO_3 := Aside0.mk h3
                                      have HO_5 := Aside0.mk h5
                                      have HB := Aside0.mk hB0
                                      have HLD := Lib.hid hld
                                      clear hx1 hC1 h3 h5 hB0 hld
                                      refine pure_ (i := 0) (N := some 38) (v := ?_) (a' := ?_) #[true, false, false, false, false, false, false, false, false, false, false, false, false, false, false, false, false, false, false, false, false, false, false, false, false, false, false, false] rfl rfl (by kernel_rfl) (fun _ _ _ h => h) (Or.inl ⟨by rfl, ?_⟩) ?_ ?_
                                      rotate_left
                                      · intro w'
                                        go_simp
                                        with_reducible rfl
                                      rotate_left
                                      · simp only [Act.put, List.setIfInBounds_toArray, List.set_cons_zero, List.set_cons_succ, i64_w, i32_w]
                                        rfl
                                      refine pure_ (i := 2) (N := some 40) (v := ?_) (a' := ?_) #[true, false, true, false, false, false, false, false, false, false, false, false, false, false, false, false, false, false, false, false, false, false, false, false, false, false, false, false] rfl rfl (by kernel_rfl) (fun _ _ _ h => h) (Or.inl ⟨by rfl, ?_⟩) ?_ ?_
                                      rotate_left
                                      · intro w'
                                        go_simp
                                        with_reducible rfl
                                      rotate_left
                                      · simp only [Act.put, List.setIfInBounds_toArray, List.set_cons_zero, List.set_cons_succ, i64_w, i32_w]
                                        rfl
                                      refine pure_ (i := 3) (N := some 41) (v := ?_) (a' := ?_) #[true, false, true, true, false, false, false, false, false, false, false, false, false, false, false, false, false, false, false, false, false, false, false, false, false, false, false, false] rfl rfl (by kernel_rfl) (fun _ _ _ h => h) (Or.inl ⟨by rfl, ?_⟩) ?_ ?_
                                      rotate_left
                                      · intro w'
                                        go_simp
                                        with_reducible rfl
                                      rotate_left
                                      · simp only [Act.put, List.setIfInBounds_toArray, List.set_cons_zero, List.set_cons_succ, i64_w, i32_w]
                                        rfl
                                      refine pure_ (i := 4) (N := some 42) (v := ?_) (a' := ?_) #[true, false, true, true, true, false, false, false, false, false, false, false, false, false, false, false, false, false, false, false, false, false, false, false, false, false, false, false] rfl rfl (by kernel_rfl) (fun _ _ _ h => h) (Or.inl ⟨by rfl, ?_⟩) ?_ ?_
                                      rotate_left
                                      · intro w'
                                        go_simp
                                        with_reducible rfl
                                      rotate_left
                                      · simp only [Act.put, List.setIfInBounds_toArray, List.set_cons_zero, List.set_cons_succ, i64_w, i32_w]
                                        rfl
                                      refine take_ (i := 5) (N := some 43) (v := ?_) (a' := ?_) #[true, false, true, true, true, true, false, false, false, false, false, false, false, false, false, false, false, false, false, false, false, false, false, false, false, false, false, false] rfl rfl (by kernel_rfl) (fun _ _ _ h => h) (Or.inl ⟨by rfl, ?_⟩) (Below.refl _ _) ?_ ?_
                                      rotate_left
                                      · intro w' s0
                                        have hx_ := HLD.out w' s0
                                        go_simp
                                        with_reducible rfl
                                      rotate_left
                                      · simp only [Act.put, List.setIfInBounds_toArray, List.set_cons_zero, List.set_cons_succ, i64_w, i32_w]
                                        rfl
                                      refine pure_ (i := 10) (N := some 48) (v := ?_) (a' := ?_) #[true, false, true, true, true, true, false, false, false, false, true, false, false, false, false, false, false, false, false, false, false, false, false, false, false, false, false, false] rfl rfl (by kernel_rfl) (fun _ _ _ h => h) (Or.inl ⟨by rfl, ?_⟩) ?_ ?_
                                      rotate_left
                                      · intro w'
                                        go_simp
                                        with_reducible rfl
                                      rotate_left
                                      · simp only [Act.put, List.setIfInBounds_toArray, List.set_cons_zero, List.set_cons_succ, i64_w, i32_w]
                                        rfl
                                      refine pure_ (i := 11) (N := some 49) (v := ?_) (a' := ?_) #[true, false, true, true, true, true, false, false, false, false, true, true, false, false, false, false, false, false, false, false, false, false, false, false, false, false, false, false] rfl rfl (by kernel_rfl) (fun _ _ _ h => h) (Or.inl ⟨by rfl, ?_⟩) ?_ ?_
                                      rotate_left
                                      · intro w'
                                        go_simp
                                        with_reducible rfl
                                      rotate_left
                                      · simp only [Act.put, List.setIfInBounds_toArray, List.set_cons_zero, List.set_cons_succ, i64_w, i32_w]
                                        rfl
                                      refine pure_ (i := 12) (N := some 50) (v := ?_) (a' := ?_) #[true, false, true, true, true, true, false, false, false, false, true, true, true, false, false, false, false, false, false, false, false, false, false, false, false, false, false, false] rfl rfl (by kernel_rfl) (fun _ _ _ h => h) (Or.inl ⟨by rfl, ?_⟩) ?_ ?_
                                      rotate_left
                                      · intro w'
                                        go_simp
                                        with_reducible rfl
                                      rotate_left
                                      · simp only [Act.put, List.setIfInBounds_toArray, List.set_cons_zero, List.set_cons_succ, i64_w, i32_w]
                                        rfl
                                      refine take_ (i := 13) (N := some 51) (v := ?_) (a' := ?_) #[true, false, true, true, true, true, false, false, false, false, true, true, true, true, false, false, false, false, false, false, false, false, false, false, false, false, false, false] rfl rfl (by kernel_rfl) (fun _ _ _ h => h) (Or.inl ⟨by rfl, ?_⟩) (Below.refl _ _) ?_ ?_
                                      rotate_left
                                      · intro w' s0
                                        have hx_ := HLD.out w' s0
                                        go_simp
                                        with_reducible rfl
                                      rotate_left
                                      · simp only [Act.put, List.setIfInBounds_toArray, List.set_cons_zero, List.set_cons_succ, i64_w, i32_w]
                                        rfl
                                      refine pure_ (i := 18) (N := some 56) (v := ?_) (a' := ?_) #[true, false, true, true, true, true, false, false, false, false, true, true, true, true, false, false, false, false, true, false, false, false, false, false, false, false, false, false] rfl rfl (by kernel_rfl) (fun _ _ _ h => h) (Or.inl ⟨by rfl, ?_⟩) ?_ ?_
                                      rotate_left
                                      · intro w'
                                        go_simp
                                        with_reducible rfl
                                      rotate_left
                                      · simp only [Act.put, List.setIfInBounds_toArray, List.set_cons_zero, List.set_cons_succ, i64_w, i32_w]
                                        rfl
                                      refine pure_ (i := 19) (N := some 57) (v := ?_) (a' := ?_) #[true, false, true, true, true, true, false, false, false, false, true, true, true, true, false, false, false, false, true, true, false, false, false, false, false, false, false, false] rfl rfl (by kernel_rfl) (fun _ _ _ h => h) (Or.inl ⟨by rfl, ?_⟩) ?_ ?_
                                      rotate_left
                                      · intro w'
                                        go_simp
                                        with_reducible rfl
                                      rotate_left
                                      · simp only [Act.put, List.setIfInBounds_toArray, List.set_cons_zero, List.set_cons_succ, i64_w, i32_w]
                                        rfl
                                      refine pure_ (i := 20) (N := some 58) (v := ?_) (a' := ?_) #[true, false, true, true, true, true, false, false, false, false, true, true, true, true, false, false, false, false, true, true, true, false, false, false, false, false, false, false] rfl rfl (by kernel_rfl) (fun _ _ _ h => h) (Or.inl ⟨by rfl, ?_⟩) ?_ ?_
                                      rotate_left
                                      · intro w'
                                        go_simp
                                        with_reducible rfl
                                      rotate_left
                                      · simp only [Act.put, List.setIfInBounds_toArray, List.set_cons_zero, List.set_cons_succ, i64_w, i32_w]
                                        rfl
                                      refine take_ (i := 21) (N := some 59) (v := ?_) (a' := ?_) #[true, false, true, true, true, true, false, false, false, false, true, true, true, true, false, false, false, false, true, true, true, true, false, false, false, false, false, false] rfl rfl (by kernel_rfl) (fun _ _ _ h => h) (Or.inl ⟨by rfl, ?_⟩) (Below.refl _ _) ?_ ?_
                                      rotate_left
                                      · intro w' s0
                                        have hx_ := HLD.out w' s0
                                        go_simp
                                        with_reducible rfl
                                      rotate_left
                                      · simp only [Act.put, List.setIfInBounds_toArray, List.set_cons_zero, List.set_cons_succ, i64_w, i32_w]
                                        rfl
                                      have hlit : ∀ (i n : Nat) (l : List Int), True := fun _ _ _ => trivial
                                      refine three_go (x0 := 144) (x1 := 160) (x2 := 191) ⟨⟨_, rfl, rfl, rfl, rfl, fun a W => by (first | (go_simp; done) | (go_simp; rfl))⟩, ⟨_, rfl, rfl, rfl, rfl, by decide, by decide⟩, ⟨_, rfl, rfl, rfl, rfl, fun a W => by (first | (go_simp; done) | (go_simp; rfl))⟩, ⟨_, rfl, rfl, rfl, rfl, by decide, by decide⟩, ⟨_, rfl, rfl, rfl, rfl, fun a W => by (first | (go_simp; done) | (go_simp; rfl))⟩, ⟨_, rfl, rfl, rfl, rfl, by decide, by decide⟩, ⟨_, rfl, rfl, rfl, rfl, fun a W => by (first | (go_simp; done) | (go_simp; rfl))⟩, ⟨_, rfl, rfl, rfl, rfl, by decide, by decide⟩, ⟨_, rfl, rfl, rfl, rfl, fun a W => by (first | (go_simp; done) | (go_simp; rfl))⟩, ⟨_, rfl, rfl, rfl, rfl, by decide, by decide⟩, ⟨_, rfl, rfl, rfl, rfl, fun a W => by (first | (go_simp; done) | (go_simp; rfl))⟩, ⟨_, rfl, rfl, rfl, rfl, by decide, by decide⟩, ⟨_, rfl, ⟨⟨8, .data⟩, by simp, rfl, rfl⟩, ⟨⟨16, .data⟩, by simp, rfl, rfl⟩, ⟨⟨24, .data⟩, by simp, rfl, rfl⟩⟩, ⟨_, rfl, ⟨⟨25, .data⟩, by simp, rfl, rfl⟩⟩, ⟨_, rfl, ⟨⟨26, .data⟩, by simp, rfl, rfl⟩⟩⟩ _ (by simp) rfl rfl rfl HC1.out HRL.out (fun f wE own hbE s1 s2 s3 => ?_)
                                      rw [actOf_eq]
                                      simp only [List.setIfInBounds_toArray, List.set_cons_zero, List.set_cons_succ]
                                      obtain ⟨A1, c1, e1, hc1, hC1⟩ := slot_read s1
                                      obtain ⟨A2, c2, e2, hc2, hC2⟩ := slot_read s2
                                      obtain ⟨A3, c3, e3, hc3, hC3⟩ := slot_read s3
                                      rw [e1] at s1
                                      rw [e2] at s2
                                      rw [e3] at s3
                                      rw [e1, e2, e3]
                                      rw [HY1.out] at s1 hc1 ⊢
                                      rw [HY2.out] at s2 hc2 ⊢
                                      rw [HY3.out] at s3 hc3 ⊢
                                      clear hC1 hC2 hC3 e1 e2 e3
                                      have hok : ∀ k_, wD.heap.size ≤ k_ → (w.heap.size ≤ k_ ∧ some k_ ≠ (Value.slice (some ad405) x3_1.length co9).ownBlock) ∧ some k_ ≠ u5.ownBlock := fun k_ hk => ⟨⟨Nat.le_trans HB.out.size hk, Kd.fresh' (Kd.N_lt HO_3.out) k_ hk⟩, Kd.fresh' (Kd.N_lt HO_5.out) k_ hk⟩
                                      have hrep := Reps.one (slot_fk s1 hok hc1) (Reps.one (slot_fk s2 hok hc2) (Reps.one (slot_fk s3 hok hc3) (Reps.none _ _)))
                                      have hB1 := below_step HB.out hbE
                                      have h31 := Kd.N_below HO_3.out hbE
                                      have h51 := Kd.N_below HO_5.out hbE
                                      have HREP := Lib.hid hrep
                                      have HB1 := Lib.hid hB1
                                      have H31 := Lib.hid h31
                                      have H51 := Lib.hid h51
                                      have HBE := Lib.hid hbE
                                      have HOK := Lib.hid hok
                                      clear hrep hB1 h31 h51 hok s1 s2 s3 hc1 hc2 hc3
                                      refine one_ (i := 25) (N := some 63) #[true, true, true, true, true, true, true, true, true, true, true, true, true, true, true, true, true, true, true, true, true, true, true, true, true, true, false, false] rfl rfl (by kernel_rfl) (by decide) (fun K hK => ?_)
                                      refine Kd.N_lit_step (Kd.slice 5 (Kd.int .u8)) (w0 := w) w.heap.size 23 rfl (N' := 63) rfl (xs := ([y409, y419, y429] : List (List Int))) (inner := [.slice A1 y409.length c1, .slice A2 y419.length c2, .slice A3 y429.length c3]) (ok := fun k_ => (w.heap.size ≤ k_ ∧ some k_ ≠ (Value.slice (some ad405) x3_1.length co9).ownBlock) ∧ some k_ ≠ u5.ownBlock) ?hr HREP.out (fun _ hk => hk) (HOK.out _ HBE.out.size) HB1.out HB1.out.size (by simp) ?_
                                      case hr => first | (go_simp; done) | (go_simp; rfl)
                                      intro v1 w1 ho hb hg hat
                                      obtain ⟨A4, c4, e4⟩ := Kd.N_slice ho
                                      subst e4
                                      have hbD := pw_below_grown HBE.out none HBE.out.size hg (fun k hk => by cases hk)
                                      refine hK _ _ hbD (fun _ => ?_)
                                      have h32 := Kd.N_grown H31.out hg (fun k _ => by simp)
                                      have h52 := Kd.N_grown H51.out hg (fun k _ => by simp)
                                      refine norm_ (a' := ?_) ?_ ?_
                                      rotate_left
                                      · simp only [Act.put, List.setIfInBounds_toArray, List.set_cons_zero, List.set_cons_succ, i64_w, i32_w]
                                        rfl
                                      have HO_ := Lib.hid ho
                                      have HB2 := Lib.hid hb
                                      have H32 := Lib.hid h32
                                      have H52 := Lib.hid h52
                                      have HBD := Lib.hid hbD
                                      clear ho hb hg hat hbD h32 h52
                                      refine last_ (i := 26) (N := some 64) #[true, true, true, true, true, true, true, true, true, true, true, true, true, true, true, true, true, true, true, true, true, true, true, true, true, true, true, false] rfl rfl (by kernel_rfl) (by decide) (fun K hK => ?_)
                                      refine Kd.N_append_rows_step (Kd.slice 5 (Kd.int .u8)) (w0 := w) w.heap.size rfl (.tmp 38) (.tmp 63) 48 23 (.slice none 0 0) 24 rfl Tryd.underlying48 infoT23 rfl (by decide) (by omega) u5 x5_3 [y409, y419, y429] _ _ _ (fun k_ => w.heap.size ≤ k_ ∧ some k_ ≠ (Value.slice (some ad405) x3_1.length co9).ownBlock) (fun k_ => (w.heap.size ≤ k_ ∧ some k_ ≠ (Value.slice (some ad405) x3_1.length co9).ownBlock) ∧ some k_ ≠ u5.ownBlock) rfl rfl H52.out (Kd.N_F HO_.out) (fun _ hk => hk) (fun k_ hk => (HOK.out k_ (Nat.le_trans HBD.out.size hk)).1) HB2.out HB2.out.size (by have q := LMc30.out; rw [Ny432.out] at q; simp only [List.length_cons, List.length_nil] at q ⊢; omega) ?_
                                      intro v2 w2_ ho hb hg hat
                                      refine hK _ _ ?_
                                      rw [← Ny432.out, ← Ny435.out] at ho
                                      have h33 := Kd.N_afterv (ok := fun k_ => w.heap.size ≤ k_ ∧ True) (Kd.N_mono H32.out (fun k_ hk => ⟨⟨hk.1, trivial⟩, hk.2⟩)) hg hat
                                      have HO437 := Aside0.mk ho
                                      have HO_3 := Aside0.mk h33
                                      have HB := Aside0.mk hb
                                      clear ho h33 hb hg hat
                                      refine pure_ (i := 27) (N := some 5) (v := ?_) (a' := ?_) #[true, true, true, true, true, true, true, true, true, true, true, true, true, true, true, true, true, true, true, true, true, true, true, true, true, true, true, true] rfl rfl (by kernel_rfl) (fun _ _ _ h => h) (Or.inl ⟨by rfl, ?_⟩) ?_ ?_
                                      rotate_left
                                      · intro w'
                                        go_simp
                                        with_reducible rfl
                                      rotate_left
                                      · simp only [Act.put, List.setIfInBounds_toArray, List.set_cons_zero, List.set_cons_succ, i64_w, i32_w]
                                        rfl
                                      refine done_ (by kernel_rfl) ?_
                                      try go_wp2
                                      go_roundg k3
                                      case measure => have := HK1.out; have := HK2.out; have := HK3.out; omega
                                      case rel => exact ⟨(y435), (wrap64 (x6_2 + 1)), (by first | rfl | (simp; done) | (simp [*]; done)), H', ⟨by have := HK1.out; have := HK2.out; have := HK3.out; omega⟩, ⟨by (with_reducible repeat (first | apply Kd.N_alloc | apply Kd.N_drewN | apply Kd.N_drew)); exact Kd.N_mono HO_3.out (fun _ hk => ⟨hk.1.1, hk.2⟩)⟩, ⟨by (with_reducible repeat (first | apply Kd.N_alloc | apply Kd.N_drewN | apply Kd.N_drew)); exact HO437.out⟩, ⟨by repeat (first | (with_reducible first | exact HB.out | apply below_alloc | apply pw_below_drewN | apply below_drew1) | exact HB.out)⟩⟩
                                    · rw [if_neg c30] at H
                                      exact absurd H (by simp)
                                  · rw [if_neg c29] at H
                                    exact absurd H (by simp)
                                · rw [if_neg c28] at H
                                  exact absurd H (by simp)
                              · rw [if_neg c27] at H
                                exact absurd H (by simp)
                            · rw [if_neg c26] at H
                              exact absurd H (by simp)
                          · rw [if_neg c25] at H
                            exact absurd H (by simp)
                        · rw [if_neg c24] at H
                          exact absurd H (by simp)
                      · rw [if_neg c23] at H
                        exact absurd H (by simp)
                    · rw [if_neg c22] at H
                      exact absurd H (by simp)
            · rw [if_neg c8] at H
              have c8b0 : decide (x6_2 < (x3_1.length : Int)) = false := decide_eq_false c8
              clear c8
              have H' := Aside0.mk H
              clear H
              obtain ⟨Ao50, co50, eo50⟩ := Kd.N_slice HO_3.out
              subst eo50
              go_wp2
              go_roundg k2
              case measure => have := HK1.out; have := HK2.out; omega
              case rel => exact ⟨(x5_2), (wrap64 (x4_1 + 1)), (by first | rfl | (simp; done) | (simp [*]; done)), H', ⟨by have := HK1.out; have := HK2.out; omega⟩, ⟨by (with_reducible repeat (first | apply Kd.N_alloc | apply Kd.N_drewN | apply Kd.N_drew)); exact Kd.N_mono HO_5.out (fun _ hk => hk.1)⟩, ⟨by repeat (first | (with_reducible first | exact HB.out | apply below_alloc | apply pw_below_drewN | apply below_drew1) | exact HB.out)⟩⟩
      · rw [if_neg c7] at H
        have c7b0 : decide (x4_1 < a0) = false := decide_eq_false c7
        clear c7
        obtain rfl := Option.some.inj H
        go_wp2
        go_ret
        exact ⟨_, by first | rfl | (simp [errW_none, errW_some] <;> rfl) | (simp [*, errW_none, errW_some] <;> rfl), by (with_reducible repeat (first | apply Kd.N_alloc | apply Kd.N_drewN | apply Kd.N_drew)); exact HO_3.out, by repeat (first | (with_reducible first | exact HB.out | apply below_alloc | apply pw_below_drewN | apply below_drew1) | exact HB.out)⟩
end Go.Proofs.YtjlhehaagaaihaaDoor.P
-- Eg
namespace Go.Proofs.YtjlhehaagaaihaaDoor.P
open Go.RowKit Go.Proofs.YtjlhehaagaaihaaDoorW.PrintWords Go.Proofs.YtjlhehaagaaihaaDoorW.PrintLast Go.Proofs.YtjlhehaagaaihaaDoorW.PrintMore
attribute [local go_sem] max2_int min2_int max_two min_two max_three min_three max_four min_four   -- for this text's walks alone
set_option linter.unusedVariables false
set_option linter.unusedSimpArgs false

/-! ### gessoref02_Open: function 32 -/
mutual
def gessoref02_Open.j0 : Nat → List Int → Bool → Option (Bool)
  | 0, _, _ => none
  | k + 1, x0, x20 => if x20 = true then (some false) else (gessoref02_Open.l0 k x0 1)
def gessoref02_Open.l0 : Nat → List Int → Int → Option (Bool)
  | 0, _, _ => none
  | k + 1, x0, x3 => if (wrap64 (x3 + (x0.length : Int))) ≤ 4 then ((gessoref02_tails.f k x3).bind fun t384 => (gessoref02_Open.l1 k x0 x3 t384 0)) else (some false)
def gessoref02_Open.l1 : Nat → List Int → Int → List (List Int) → Int → Option (Bool)
  | 0, _, _, _, _ => none
  | k + 1, x0, x3, x4, x5 => if x5 < (x4.length : Int) then ((some (([] : List Int) : List Int)).bind fun y387 => (if y387.length + x0.length < 140737488355328 then ((some (y387 ++ x0 : List Int)).bind fun y390 => (if 0 ≤ x5 then (if y390.length + (rd_L2 x4 x5).length < 140737488355328 then ((gessoref01_One.f k (y390 ++ (rd_L2 x4 x5))).bind fun bt397 => (if bt397.2 = (wrap64 (x3 + (x0.length : Int))) then (some true) else (gessoref02_Open.l1 k x0 x3 x4 (wrap64 (x5 + 1))))) else (none)) else (none))) else (none))) else (gessoref02_Open.l0 k x0 (wrap64 (x3 + 1)))
end
def gessoref02_Open.f (k : Nat) (l0 : List Int) : Option (Bool) := if (l0.length : Int) < 1 then (gessoref02_Open.j0 k l0 true) else (if (l0.length : Int) > 3 then (gessoref02_Open.j0 k l0 true) else ((gessoref01_Fault.f k l0).bind fun t383 => (gessoref02_Open.j0 k l0 (decide (t383 < 0)))))
theorem gessoref02_Open.mono_l : ∀ k, (∀ y0 y1, LeO (gessoref02_Open.j0 k y0 y1) (gessoref02_Open.j0 (k + 1) y0 y1)) ∧ (∀ y0 y1, LeO (gessoref02_Open.l0 k y0 y1) (gessoref02_Open.l0 (k + 1) y0 y1)) ∧ (∀ y0 y1 y2 y3, LeO (gessoref02_Open.l1 k y0 y1 y2 y3) (gessoref02_Open.l1 (k + 1) y0 y1 y2 y3))
  | 0 => ⟨fun _ _ r h => by simp [gessoref02_Open.j0] at h, fun _ _ r h => by simp [gessoref02_Open.l0] at h, fun _ _ _ _ r h => by simp [gessoref02_Open.l1] at h⟩
  | k + 1 => by
    obtain ⟨ih0, ih1, ih2⟩ := gessoref02_Open.mono_l k
    refine ⟨?_, ?_, ?_⟩
    · intro y0 y1
      unfold gessoref02_Open.j0
      repeat' first
      | (with_reducible exact ih0 _ _)
      | (with_reducible exact ih1 _ _)
      | (with_reducible exact ih2 _ _ _ _)
      | (with_reducible exact gessoref01_Fault.mono _ _)
      | (with_reducible exact gessoref01_One.mono _ _)
      | (with_reducible exact gessoref02_tails.mono _ _)
      | (with_reducible exact LeO.refl _)
      | (with_reducible exact LeO.none _)
      | (with_reducible refine LeO.ite ?_ ?_)
      | (with_reducible refine LeO.bind ?_ (fun _ => ?_))
      | exact ih0 _ _
      | exact ih1 _ _
      | exact ih2 _ _ _ _
      | exact gessoref01_Fault.mono _ _
      | exact gessoref01_One.mono _ _
      | exact gessoref02_tails.mono _ _
      | exact LeO.none _
      | refine LeO.ite ?_ ?_
      | refine LeO.bind ?_ (fun _ => ?_)
    · intro y0 y1
      unfold gessoref02_Open.l0
      repeat' first
      | (with_reducible exact ih0 _ _)
      | (with_reducible exact ih1 _ _)
      | (with_reducible exact ih2 _ _ _ _)
      | (with_reducible exact gessoref01_Fault.mono _ _)
      | (with_reducible exact gessoref01_One.mono _ _)
      | (with_reducible exact gessoref02_tails.mono _ _)
      | (with_reducible exact LeO.refl _)
      | (with_reducible exact LeO.none _)
      | (with_reducible refine LeO.ite ?_ ?_)
      | (with_reducible refine LeO.bind ?_ (fun _ => ?_))
      | exact ih0 _ _
      | exact ih1 _ _
      | exact ih2 _ _ _ _
      | exact gessoref01_Fault.mono _ _
      | exact gessoref01_One.mono _ _
      | exact gessoref02_tails.mono _ _
      | exact LeO.none _
      | refine LeO.ite ?_ ?_
      | refine LeO.bind ?_ (fun _ => ?_)
    · intro y0 y1 y2 y3
      unfold gessoref02_Open.l1
      repeat' first
      | (with_reducible exact ih0 _ _)
      | (with_reducible exact ih1 _ _)
      | (with_reducible exact ih2 _ _ _ _)
      | (with_reducible exact gessoref01_Fault.mono _ _)
      | (with_reducible exact gessoref01_One.mono _ _)
      | (with_reducible exact gessoref02_tails.mono _ _)
      | (with_reducible exact LeO.refl _)
      | (with_reducible exact LeO.none _)
      | (with_reducible refine LeO.ite ?_ ?_)
      | (with_reducible refine LeO.bind ?_ (fun _ => ?_))
      | exact ih0 _ _
      | exact ih1 _ _
      | exact ih2 _ _ _ _
      | exact gessoref01_Fault.mono _ _
      | exact gessoref01_One.mono _ _
      | exact gessoref02_tails.mono _ _
      | exact LeO.none _
      | refine LeO.ite ?_ ?_
      | refine LeO.bind ?_ (fun _ => ?_)
theorem gessoref02_Open.mono : ∀ a0 k, LeO (gessoref02_Open.f k a0) (gessoref02_Open.f (k + 1) a0) := by
  intro a0 k
  obtain ⟨ih0, ih1, ih2⟩ := gessoref02_Open.mono_l k
  unfold gessoref02_Open.f
  repeat' first
      | (with_reducible exact ih0 _ _)
      | (with_reducible exact ih1 _ _)
      | (with_reducible exact ih2 _ _ _ _)
      | (with_reducible exact gessoref01_Fault.mono _ _)
      | (with_reducible exact gessoref01_One.mono _ _)
      | (with_reducible exact gessoref02_tails.mono _ _)
      | (with_reducible exact LeO.refl _)
      | (with_reducible exact LeO.none _)
      | (with_reducible refine LeO.ite ?_ ?_)
      | (with_reducible refine LeO.bind ?_ (fun _ => ?_))
      | exact ih0 _ _
      | exact ih1 _ _
      | exact ih2 _ _ _ _
      | exact gessoref01_Fault.mono _ _
      | exact gessoref01_One.mono _ _
      | exact gessoref02_tails.mono _ _
      | exact LeO.none _
      | refine LeO.ite ?_ ?_
      | refine LeO.bind ?_ (fun _ => ?_)
set_option maxHeartbeats 8000000 in
set_option maxRecDepth 100000 in
theorem gessoref02_Open.calls (k : Nat) (A0 : Option Addr) (c0 : Nat) (l0 : List Int) (r : Bool) (w : World) (hr0 : Kd.C (Kd.int .u8) w A0 l0.length l0) (hc0 : l0.length ≤ c0) (h : gessoref02_Open.f k l0 = some r) :
    Calls Tryd.prog 32 #[.slice A0 l0.length c0] w fun e w' => e = .returned (.bool r) ∧ Below w.heap.size w w' := by
  have HR0 := Aside0.mk hr0
  have HC0 := Aside0.mk hc0
  clear hr0 hc0
  have HB := Aside0.mk (Below.refl w.heap.size w)
  have H : (if (l0.length : Int) < 1 then (gessoref02_Open.j0 k l0 true) else (if (l0.length : Int) > 3 then (gessoref02_Open.j0 k l0 true) else ((gessoref01_Fault.f k l0).bind fun t383 => (gessoref02_Open.j0 k l0 (decide (t383 < 0)))))) = some r := h
  clear h
  have HC2 := Aside0.mk H
  clear H
  go_enter Tryd.func32, Tryd.ntmps32
  go_upto_region 1 with (fail)
  go_cut [20] (fun v20 wc => ∃ (kq : Nat) (x20_1 : Bool), v20 = .bool x20_1 ∧ Aside0 (gessoref02_Open.j0 kq l0 x20_1 = some r) ∧ Aside0 (kq ≤ k) ∧ Aside0 (Below w.heap.size w wc))
  case first =>
    have H := HC2.out
    clear HC2
    by_cases c3 : (l0.length : Int) < 1
    · rw [if_pos c3] at H
      have c3b0 : decide ((l0.length : Int) < 1) = true := decide_eq_true c3
      have c3b1 : decide (l0.length < 1) = true := decide_eq_true (by omega)
      clear c3
      (first | rw [c3b0] | (simp only [i64_w, i32_w]; rw [c3b0]) | skip)
      have H' := Aside0.mk H
      clear H
      go_wp2
      go_meet
      case rel => exact ⟨_, (true), (by first | rfl | (simp; done) | (simp [*]; done)), H', ⟨by first | omega | exact Nat.le_refl _⟩, ⟨by repeat (first | (with_reducible first | exact HB.out | apply below_alloc | apply pw_below_drewN | apply below_drew1) | exact HB.out)⟩⟩
    · rw [if_neg c3] at H
      have c3b0 : decide ((l0.length : Int) < 1) = false := decide_eq_false c3
      have c3b1 : decide (l0.length < 1) = false := decide_eq_false (by omega)
      clear c3
      (first | rw [c3b0] | (simp only [i64_w, i32_w]; rw [c3b0]) | skip)
      by_cases c4 : (l0.length : Int) > 3
      · rw [if_pos c4] at H
        have c4b0 : decide (3 < (l0.length : Int)) = true := decide_eq_true c4
        have c4b1 : decide (3 < l0.length) = true := decide_eq_true (by omega)
        clear c4
        have H' := Aside0.mk H
        clear H
        go_wp2
        go_meet
        case rel => exact ⟨_, (true), (by first | rfl | (simp; done) | (simp [*]; done)), H', ⟨by first | omega | exact Nat.le_refl _⟩, ⟨by repeat (first | (with_reducible first | exact HB.out | apply below_alloc | apply pw_below_drewN | apply below_drew1) | exact HB.out)⟩⟩
      · rw [if_neg c4] at H
        have c4b0 : decide (3 < (l0.length : Int)) = false := decide_eq_false c4
        have c4b1 : decide (3 < l0.length) = false := decide_eq_false (by omega)
        clear c4
        replace H := Option.bind_eq_some_iff.mp H
        obtain ⟨t383, A50, H⟩ := H
        replace H : (gessoref02_Open.j0 k l0 (decide (t383 < 0))) = some r := H
        have A5 := Aside0.mk A50
        clear A50
        have H' := Aside0.mk H
        clear H
        go_wp2_with (first | (go_at_call 25; (with_reducible refine (gessoref01_Fault.calls k _ _ l0 t383 _ ?side1 ?side2 A5.out).mono ?_); (case side1 => repeat (first | exact (Kd.C_below HR0.out HB.out) | (with_reducible refine Kd.C_alloc ?_ _) | (with_reducible refine Kd.C_drewN ?_ _) | (with_reducible refine Kd.C_drew ?_))); (case side2 => exact HC0.out); rintro e w6 ⟨rfl, hb⟩; have n0_ := Aside0.mk (below_step (by repeat (first | (with_reducible first | exact HB.out | apply below_alloc | apply pw_below_drewN | apply below_drew1) | exact HB.out)) hb); clear HB; have HB := n0_; clear n0_; (try clear hb); (try clear hb2); (try clear hk); (try clear hi)))
        go_meet
        case rel => exact ⟨_, (decide (t383 < 0)), (by first | rfl | (simp; done) | (simp [*]; done)), H', ⟨by first | omega | exact Nat.le_refl _⟩, ⟨by repeat (first | (with_reducible first | exact HB.out | apply below_alloc | apply pw_below_drewN | apply below_drew1) | exact HB.out)⟩⟩
  case rest =>
    clear HC2
    try clear p2
    try clear c3
    try clear c3b0
    try clear c3b1
    try clear c4
    try clear c4b0
    try clear c4b1
    obtain ⟨kq, x20_1, rfl, HA, HJ1, HB⟩ := hcut
    cases kq with
    | zero => exact absurd HA.out (by simp [gessoref02_Open.j0])
    | succ kj1 =>
      have H := HA.out
      clear HA
      simp only [gessoref02_Open.j0] at H
      by_cases c7 : x20_1 = true
      · subst c7
        have H1 : (some false) = some r := by rw [if_pos rfl] at H; exact H
        clear H
        have H := H1
        clear H1
        obtain rfl := Option.some.inj H
        go_wp2
        go_ret
        exact ⟨by first | rfl | (simp [errW_none, errW_some] <;> rfl) | (simp [*, errW_none, errW_some] <;> rfl), by repeat (first | (with_reducible first | exact HB.out | apply below_alloc | apply pw_below_drewN | apply below_drew1) | exact HB.out)⟩
      · replace c7 := Bool.eq_false_iff.mpr c7
        subst c7
        have H1 : (gessoref02_Open.l0 kj1 l0 1) = some r := by rw [if_neg (show ¬ (false = true) by decide)] at H; exact H
        clear H
        have H := H1
        clear H1
        have H' := Aside0.mk H
        clear H
        go_wp2
        go_loopg [3] kj1 (fun kq v3 w' => ∃ (x3_2 : Int), v3 = .int .i64 x3_2 ∧ Aside0 (gessoref02_Open.l0 kq l0 x3_2 = some r) ∧ Aside0 (kq ≤ kj1) ∧ Aside0 (Below w.heap.size w w'))
        case atStart => exact ⟨(1), (by first | rfl | (simp; done) | (simp [*]; done)), H', ⟨Nat.le_refl _⟩, ⟨by repeat (first | (with_reducible first | exact HB.out | apply below_alloc | apply pw_below_drewN | apply below_drew1) | exact HB.out)⟩⟩
        case round =>
          clear H'
          try clear p2
          try clear c3
          try clear c3b0
          try clear c3b1
          try clear c4
          try clear c4b0
          try clear c4b1
          try clear c7
          try clear p2
          obtain ⟨x3_2, rfl, HA, HK2, HB⟩ := hrel
          cases gk with
          | zero => exact absurd HA.out (by simp [gessoref02_Open.l0])
          | succ k2 =>
            have H := HA.out
            clear HA
            simp only [gessoref02_Open.l0] at H
            by_cases c8 : (wrap64 (x3_2 + (l0.length : Int))) ≤ 4
            · rw [if_pos c8] at H
              have c8b0 : decide ((wrap64 (x3_2 + (l0.length : Int))) ≤ 4) = true := decide_eq_true c8
              clear c8
              replace H := Option.bind_eq_some_iff.mp H
              obtain ⟨t384, A90, H⟩ := H
              replace H : (gessoref02_Open.l1 k2 l0 x3_2 t384 0) = some r := H
              have A9 := Aside0.mk A90
              clear A90
              have H' := Aside0.mk H
              clear H
              go_wp2_with (first | ((with_reducible refine gate_callee (f := 51) rfl ?_); refine goesL_ (some 29) rfl rfl Tryd.func51 (by kernel_rfl) rfl #[.int .i64 x3_2] rfl (by (try simp only [List.map_toArray, List.map_cons, List.map_nil]); first | done | rfl | (simp only [List.length_drop, List.length_take]; rfl)) ?_; (with_reducible refine (gessoref02_tails.calls k2 x3_2 t384 _ A9.out).mono ?_); rintro e w10 ⟨v385, rfl, ho0, hb⟩; refine ⟨_, rfl, ?_⟩; have n0_ := Aside0.mk (Kd.N_lower (Kd.N_mono ho0 (ok' := fun _ => True) (fun _ _ => trivial)) (below_size (by repeat (first | (with_reducible first | exact HB.out | apply below_alloc | apply pw_below_drewN | apply below_drew1) | exact HB.out)))); have n1_ := Aside0.mk (below_step (by repeat (first | (with_reducible first | exact HB.out | apply below_alloc | apply pw_below_drewN | apply below_drew1) | exact HB.out)) hb); clear HB; have HO386 := n0_; have HB := n1_; clear n0_ n1_; (try clear hb); (try clear hb2); (try clear hk); (try clear hi); (try clear ho0)))
              go_loopg [5] k2 (fun kq v5 w' => ∃ (x5_3 : Int), v5 = .int .i64 x5_3 ∧ Aside0 (gessoref02_Open.l1 kq l0 x3_2 t384 x5_3 = some r) ∧ Aside0 (kq ≤ k2) ∧ Aside0 (Kd.N (Kd.slice 5 (Kd.int .u8)) 23 w' w.heap.size (fun _ => True) v385 t384) ∧ Aside0 (Below w.heap.size w w'))
              case atStart => exact ⟨(0), (by first | rfl | (simp; done) | (simp [*]; done)), H', ⟨Nat.le_refl _⟩, ⟨by (with_reducible repeat (first | apply Kd.N_alloc | apply Kd.N_drewN | apply Kd.N_drew)); exact HO386.out⟩, ⟨by repeat (first | (with_reducible first | exact HB.out | apply below_alloc | apply pw_below_drewN | apply below_drew1) | exact HB.out)⟩⟩
              case round =>
                clear H'
                try clear p2
                try clear c3
                try clear c3b0
                try clear c3b1
                try clear c4
                try clear c4b0
                try clear c4b1
                try clear c5
                try clear p6
                try clear c7
                try clear c8
                try clear c8b0
                try clear p2
                obtain ⟨x5_3, rfl, HA, HK3, HO_4, HB⟩ := hrel
                cases gk with
                | zero => exact absurd HA.out (by simp [gessoref02_Open.l1])
                | succ k3 =>
                  have H := HA.out
                  clear HA
                  simp only [gessoref02_Open.l1] at H
                  by_cases c11 : x5_3 < (t384.length : Int)
                  · rw [if_pos c11] at H
                    have c11b0 : decide (x5_3 < (t384.length : Int)) = true := decide_eq_true c11
                    clear c11
                    obtain ⟨y387, hy387⟩ : ∃ y_ : List Int, y_ = (([] : List Int)) := ⟨_, rfl⟩
                    replace H : (if y387.length + l0.length < 140737488355328 then ((some (y387 ++ l0 : List Int)).bind fun y390 => (if 0 ≤ x5_3 then (if y390.length + (rd_L2 t384 x5_3).length < 140737488355328 then ((gessoref01_One.f k3 (y390 ++ (rd_L2 t384 x5_3))).bind fun bt397 => (if bt397.2 = (wrap64 (x3_2 + (l0.length : Int))) then (some true) else (gessoref02_Open.l1 k3 l0 x3_2 t384 (wrap64 (x5_3 + 1))))) else (none)) else (none))) else (none)) = some r := by first | (rw [hy387]; with_reducible exact H) | (have H2_ := (Option.bind_some _ _).symm.trans H; rw [hy387]; with_reducible exact H2_) | (have H2_ := (Option.bind_some _ _).symm.trans H; with_reducible exact H2_) | with_reducible exact H | (rw [hy387]; exact H) | exact H
                    have Ny387 := Aside0.mk hy387
                    clear hy387
                    by_cases c12 : y387.length + l0.length < 140737488355328
                    · rw [if_pos c12] at H
                      have LMc12 := Aside0.mk c12
                      clear c12
                      obtain ⟨y390, hy390⟩ : ∃ y_ : List Int, y_ = (y387 ++ l0) := ⟨_, rfl⟩
                      replace H : (if 0 ≤ x5_3 then (if y390.length + (rd_L2 t384 x5_3).length < 140737488355328 then ((gessoref01_One.f k3 (y390 ++ (rd_L2 t384 x5_3))).bind fun bt397 => (if bt397.2 = (wrap64 (x3_2 + (l0.length : Int))) then (some true) else (gessoref02_Open.l1 k3 l0 x3_2 t384 (wrap64 (x5_3 + 1))))) else (none)) else (none)) = some r := by first | (rw [hy390]; with_reducible exact H) | (have H2_ := (Option.bind_some _ _).symm.trans H; rw [hy390]; with_reducible exact H2_) | (have H2_ := (Option.bind_some _ _).symm.trans H; with_reducible exact H2_) | with_reducible exact H | (rw [hy390]; exact H) | exact H
                      have Ny390 := Aside0.mk hy390
                      clear hy390
                      by_cases c13 : 0 ≤ x5_3
                      · rw [if_pos c13] at H
                        have c13b0 : decide (0 ≤ x5_3) = true := decide_eq_true c13
                        clear c13
                        by_cases c14 : y390.length + (rd_L2 t384 x5_3).length < 140737488355328
                        · rw [if_pos c14] at H
                          have LMc14 := Aside0.mk c14
                          clear c14
                          obtain ⟨y394, hy394⟩ : ∃ y_ : List Int, y_ = (y390 ++ (rd_L2 t384 x5_3)) := ⟨_, rfl⟩
                          replace H : ((gessoref01_One.f k3 y394).bind fun bt397 => (if bt397.2 = (wrap64 (x3_2 + (l0.length : Int))) then (some true) else (gessoref02_Open.l1 k3 l0 x3_2 t384 (wrap64 (x5_3 + 1))))) = some r := by first | (rw [hy394]; with_reducible exact H) | (have H2_ := (Option.bind_some _ _).symm.trans H; rw [hy394]; with_reducible exact H2_) | (have H2_ := (Option.bind_some _ _).symm.trans H; with_reducible exact H2_) | with_reducible exact H | (rw [hy394]; exact H) | exact H
                          have Ny394 := Aside0.mk hy394
                          clear hy394
                          replace H := Option.bind_eq_some_iff.mp H
                          obtain ⟨⟨t397, t398⟩, A150, H⟩ := H
                          replace H : (if t398 = (wrap64 (x3_2 + (l0.length : Int))) then (some true) else (gessoref02_Open.l1 k3 l0 x3_2 t384 (wrap64 (x5_3 + 1)))) = some r := H
                          have A15 := Aside0.mk A150
                          clear A150
                          by_cases c16 : t398 = (wrap64 (x3_2 + (l0.length : Int)))
                          · rw [if_pos c16] at H
                            have c16b0 : (t398 == (wrap64 (x3_2 + (l0.length : Int)))) = true := beq_iff_eq.mpr c16
                            have c16b1 : (t398 != (wrap64 (x3_2 + (l0.length : Int)))) = false := bne_eq_false_iff_eq.mpr c16
                            clear c16
                            obtain rfl := Option.some.inj H
                            obtain ⟨Ao17, co17, eo17⟩ := Kd.N_slice HO_4.out
                            subst eo17
                            have p405 : 0 ≤ (x5_3 : Int) := of_decide_eq_true (by first | (with_reducible assumption) | assumption)
                            have q405 : x5_3 < (t384.length : Int) := of_decide_eq_true (by first | (with_reducible assumption) | assumption)
                            obtain ⟨ad405, A405_0, c405_0, e405, hx405_0, hl405_0, hi405_0⟩ := at_L2 (Kd.N_reads' HO_4.out).2.2 x5_3 p405 q405
                            cases e405
                            replace p405 := eq_true p405
                            replace q405 := eq_true q405
                            obtain ⟨row, hrow⟩ : ∃ l, rd_L2 t384 x5_3 = l := ⟨_, rfl⟩
                            have hrl : l0.length + row.length ≤ 140737488355328 := by
                              have h1 := LMc14.out
                              rw [Ny390.out, Ny387.out, hrow, List.length_append, List.length_nil] at h1
                              omega
                            have hyy : l0 ++ row = y394 := by rw [Ny394.out, Ny390.out, Ny387.out, hrow]; rfl
                            rw [hrow] at hx405_0 hl405_0 hi405_0
                            obtain ⟨rn, hrn⟩ : ∃ n, row.length = n := ⟨_, rfl⟩
                            rw [hrn] at hx405_0 hl405_0 hi405_0
                            have HRL := Lib.hid hrl
                            have HY1 := Lib.hid hyy
                            clear hrow hrl hyy hrn hl405_0
                            go_wp2
                            refine start_ (n := 14) (S := fun w' => Below wr.drew.heap.size wr.drew w') (ds := []) #[false, false, false, false, false, false, false, false, false, false, false, false, false, false] (by kernel_rfl) rfl rfl (Below.refl _ _) (fun hHeld => ?_)
                            have hx1 : wr.drew.cell? (ad405.add x5_3.toNat) = some (Value.slice A405_0 rn c405_0) := pw_cell_below (below_drew1 (Below.refl _ _)) hx405_0
                            have hC1 : Kd.C (Kd.int .u8) wr.drew A405_0 rn row := Kd.C_drew hi405_0
                            have h3 : Kd.N (Kd.slice 5 (Kd.int .u8)) 23 wr.drew w.heap.size (fun _ => True) (Value.slice (some ad405) t384.length co17) t384 := Kd.N_drew HO_4.out
                            have hB0 : Below w.heap.size w wr.drew := below_drew1 HB.out
                            clear hx405_0 hi405_0 HO_4 HB hHeld
                            generalize wr.drew = wD at hx1 hC1 h3 hB0 ⊢
                            have hld : ∀ W : World, Below wD.heap.size wD W → W.cell? (ad405.add x5_3.toNat) = some (Value.slice A405_0 rn c405_0) := fun W hb => pw_cell_below hb hx1
                            have HC1 := Lib.hid hC1
                            have HO_4 := Aside0.mk h3
                            have HB := Aside0.mk hB0
                            have HLD := Lib.hid hld
                            clear hx1 hC1 h3 hB0 hld
                            refine pure_ (i := 1) (N := some 38) (v := ?_) (a' := ?_) #[false, true, false, false, false, false, false, false, false, false, false, false, false, false] rfl rfl (by kernel_rfl) (fun _ _ _ h => h) (Or.inl ⟨by rfl, ?_⟩) ?_ ?_
                            rotate_left
                            · intro w'
                              go_simp
                              with_reducible rfl
                            rotate_left
                            · simp only [Act.put, List.setIfInBounds_toArray, List.set_cons_zero, List.set_cons_succ, i64_w, i32_w]
                              rfl
                            refine pure_ (i := 3) (N := some 40) (v := ?_) (a' := ?_) #[false, true, false, true, false, false, false, false, false, false, false, false, false, false] rfl rfl (by kernel_rfl) (fun _ _ _ h => h) (Or.inl ⟨by rfl, ?_⟩) ?_ ?_
                            rotate_left
                            · intro w'
                              go_simp
                              with_reducible rfl
                            rotate_left
                            · simp only [Act.put, List.setIfInBounds_toArray, List.set_cons_zero, List.set_cons_succ, i64_w, i32_w]
                              rfl
                            refine pure_ (i := 4) (N := some 41) (v := ?_) (a' := ?_) #[false, true, false, true, true, false, false, false, false, false, false, false, false, false] rfl rfl (by kernel_rfl) (fun _ _ _ h => h) (Or.inl ⟨by rfl, ?_⟩) ?_ ?_
                            rotate_left
                            · intro w'
                              go_simp
                              with_reducible rfl
                            rotate_left
                            · simp only [Act.put, List.setIfInBounds_toArray, List.set_cons_zero, List.set_cons_succ, i64_w, i32_w]
                              rfl
                            refine pure_ (i := 5) (N := some 42) (v := ?_) (a' := ?_) #[false, true, false, true, true, true, false, false, false, false, false, false, false, false] rfl rfl (by kernel_rfl) (fun _ _ _ h => h) (Or.inl ⟨by rfl, ?_⟩) ?_ ?_
                            rotate_left
                            · intro w'
                              go_simp
                              with_reducible rfl
                            rotate_left
                            · simp only [Act.put, List.setIfInBounds_toArray, List.set_cons_zero, List.set_cons_succ, i64_w, i32_w]
                              rfl
                            refine take_ (i := 6) (N := some 43) (v := ?_) (a' := ?_) #[false, true, false, true, true, true, true, false, false, false, false, false, false, false] rfl rfl (by kernel_rfl) (fun _ _ _ h => h) (Or.inl ⟨by rfl, ?_⟩) (Below.refl _ _) ?_ ?_
                            rotate_left
                            · intro w' s0
                              have hx_ := HLD.out w' s0
                              go_simp
                              with_reducible rfl
                            rotate_left
                            · simp only [Act.put, List.setIfInBounds_toArray, List.set_cons_zero, List.set_cons_succ, i64_w, i32_w]
                              rfl
                            refine one_ (i := 0) (N := some 37) #[true, true, false, true, true, true, true, false, false, false, false, false, false, false] rfl rfl (by kernel_rfl) (by decide) (fun K hK => ?_)
                            refine Kd.R_lit_step (Kd.int .u8) (w0 := wD) wD.heap.size 5 rfl (N := 37) rfl (xs := ([] : List Int)) (inner := []) (ok := fun _ => True) (okp := fun _ => True) ?hr (Reps.none _ _) (fun _ hk => hk) trivial (Below.refl _ _) (Nat.le_refl _) (by simp) ?_
                            case hr => first | (go_simp; done) | (go_simp; rfl)
                            intro v1 w1 ho hb hg _
                            refine hK _ _ hb (fun _ => ?_)
                            refine norm_ (a' := ?_) ?_ ?_
                            rotate_left
                            · simp only [Act.put, List.setIfInBounds_toArray, List.set_cons_zero, List.set_cons_succ, i64_w, i32_w]
                              rfl
                            have HO1 := Lib.hid ho
                            have HB1 := Lib.hid hb
                            clear ho hb hg
                            refine one_ (i := 2) (N := some 39) #[true, true, true, true, true, true, true, false, false, false, false, false, false, false] rfl rfl (by kernel_rfl) (by decide) (fun K hK => ?_)
                            refine Kd.R_append_rows_step (Kd.int .u8) (w0 := wD) wD.heap.size rfl (.tmp 37) (.tmp 38) 23 5 (.int .u8 0) 1 rfl Tryd.underlying23 info5 rfl (by decide) (by omega) v1 [] l0 _ _ _ (fun _ => True) (fun _ => False) rfl rfl HO1.out (Kd.C_below HR0.out (below_step HB.out HB1.out)) (fun _ _ h => h) (fun _ h => h.elim) (fun _ _ => trivial) HB1.out HB1.out.size (by have := HRL.out; simp only [List.length_nil]; omega) ?_
                            intro v2 w2_ ho hb hg hat
                            refine hK _ _ hb (fun _ => ?_)
                            refine norm_ (a' := ?_) ?_ ?_
                            rotate_left
                            · simp only [Act.put, List.setIfInBounds_toArray, List.set_cons_zero, List.set_cons_succ, i64_w, i32_w]
                              rfl
                            have HO2 := Lib.hid ho
                            have HB2 := Lib.hid hb
                            clear ho hb hg hat HO1 HB1
                            refine one_ (i := 7) (N := some 44) #[true, true, true, true, true, true, true, true, false, false, false, false, false, false] rfl rfl (by kernel_rfl) (by decide) (fun K hK => ?_)
                            refine Kd.R_append_rows_step (Kd.int .u8) (w0 := wD) wD.heap.size rfl (.tmp 39) (.tmp 43) 23 5 (.int .u8 0) 1 rfl Tryd.underlying23 info5 rfl (by decide) (by omega) v2 _ row _ _ _ (fun _ => True) (fun _ => False) rfl rfl HO2.out (Kd.C_below HC1.out HB2.out) (fun _ _ h => h) (fun _ h => h.elim) (fun _ _ => trivial) HB2.out HB2.out.size (by have h1 := HRL.out; have h2 := HC1.out.1; simp only [List.nil_append]; omega) ?_
                            intro v3 w3 ho hb hg hat
                            rw [List.nil_append, HY1.out] at ho
                            obtain ⟨A7, c7, e7⟩ := Kd.R_slice ho
                            subst e7
                            refine hK _ _ hb (fun _ => ?_)
                            refine norm_ (a' := ?_) ?_ ?_
                            rotate_left
                            · simp only [Act.put, List.setIfInBounds_toArray, List.set_cons_zero, List.set_cons_succ, i64_w, i32_w]
                              rfl
                            have HO3 := Lib.hid ho
                            have HB3 := Lib.hid hb
                            clear ho hb hg hat HO2 HB2
                            refine one_ (i := 8) (N := some 45) #[true, true, true, true, true, true, true, true, true, false, false, false, false, false] rfl rfl (by kernel_rfl) (by decide) (fun K hK => ?_)
                            refine goes_ Tryd.func24 (by kernel_rfl) rfl #[.slice A7 y394.length c7] (by rfl) rfl rfl (by (try simp only [List.map_toArray, List.map_cons, List.map_nil]); first | done | rfl) ?_
                            with_reducible refine (gessoref01_One.calls k3 _ _ y394 t397 t398 _ (Kd.R_reads' HO3.out).2.2 (Kd.R_reads' HO3.out).2.1 A15.out).mono ?_
                            rintro e w4 ⟨rfl, hb⟩
                            refine ⟨_, rfl, ?_⟩
                            have hbD := below_step HB3.out hb
                            refine hK _ _ hbD (fun _ => ?_)
                            refine norm_ (a' := ?_) ?_ ?_
                            rotate_left
                            · simp only [Act.put, List.setIfInBounds_toArray, List.set_cons_zero, List.set_cons_succ, i64_w, i32_w]
                              rfl
                            have h31 := Kd.N_below HO_4.out hbD
                            have hB1 := below_step HB.out hbD
                            clear HO_4 HB HO3 HB3 hb hbD
                            have HO_4 := Aside0.mk h31
                            have HB := Aside0.mk hB1
                            clear h31 hB1
                            refine pure_ (i := 9) (N := some 36) (v := ?_) (a' := ?_) #[true, true, true, true, true, true, true, true, true, true, false, false, false, false] rfl rfl (by kernel_rfl) (fun _ _ _ h => h) (Or.inl ⟨by rfl, ?_⟩) ?_ ?_
                            rotate_left
                            · intro w'
                              go_simp
                              with_reducible rfl
                            rotate_left
                            · simp only [Act.put, List.setIfInBounds_toArray, List.set_cons_zero, List.set_cons_succ, i64_w, i32_w]
                              rfl
                            refine pure_ (i := 10) (N := some 46) (v := ?_) (a' := ?_) #[true, true, true, true, true, true, true, true, true, true, true, false, false, false] rfl rfl (by kernel_rfl) (fun _ _ _ h => h) (Or.inl ⟨by rfl, ?_⟩) ?_ ?_
                            rotate_left
                            · intro w'
                              go_simp
                              with_reducible rfl
                            rotate_left
                            · simp only [Act.put, List.setIfInBounds_toArray, List.set_cons_zero, List.set_cons_succ, i64_w, i32_w]
                              rfl
                            refine pure_ (i := 11) (N := some 47) (v := ?_) (a' := ?_) #[true, true, true, true, true, true, true, true, true, true, true, true, false, false] rfl rfl (by kernel_rfl) (fun _ _ _ h => h) (Or.inl ⟨by rfl, ?_⟩) ?_ ?_
                            rotate_left
                            · intro w'
                              go_simp
                              with_reducible rfl
                            rotate_left
                            · simp only [Act.put, List.setIfInBounds_toArray, List.set_cons_zero, List.set_cons_succ, i64_w, i32_w]
                              rfl
                            refine pure_ (i := 12) (N := some 6) (v := ?_) (a' := ?_) #[true, true, true, true, true, true, true, true, true, true, true, true, true, false] rfl rfl (by kernel_rfl) (fun _ _ _ h => h) (Or.inl ⟨by rfl, ?_⟩) ?_ ?_
                            rotate_left
                            · intro w'
                              go_simp
                              with_reducible rfl
                            rotate_left
                            · simp only [Act.put, List.setIfInBounds_toArray, List.set_cons_zero, List.set_cons_succ, i64_w, i32_w]
                              rfl
                            refine pure_ (i := 13) (N := some 7) (v := ?_) (a' := ?_) #[true, true, true, true, true, true, true, true, true, true, true, true, true, true] rfl rfl (by kernel_rfl) (fun _ _ _ h => h) (Or.inl ⟨by rfl, ?_⟩) ?_ ?_
                            rotate_left
                            · intro w'
                              go_simp
                              with_reducible rfl
                            rotate_left
                            · simp only [Act.put, List.setIfInBounds_toArray, List.set_cons_zero, List.set_cons_succ, i64_w, i32_w]
                              rfl
                            refine done_ (by kernel_rfl) ?_
                            try go_wp2
                            go_ret
                            exact ⟨by first | rfl | (simp [errW_none, errW_some] <;> rfl) | (simp [*, errW_none, errW_some] <;> rfl), by repeat (first | (with_reducible first | exact HB.out | apply below_alloc | apply pw_below_drewN | apply below_drew1) | exact HB.out)⟩
                          · rw [if_neg c16] at H
                            have c16b0 : (t398 == (wrap64 (x3_2 + (l0.length : Int)))) = false := beq_eq_false_iff_ne.mpr c16
                            have c16b1 : (t398 != (wrap64 (x3_2 + (l0.length : Int)))) = true := bne_iff_ne.mpr c16
                            have H' := Aside0.mk H
                            clear H
                            obtain ⟨Ao24, co24, eo24⟩ := Kd.N_slice HO_4.out
                            subst eo24
                            have p405 : 0 ≤ (x5_3 : Int) := of_decide_eq_true (by first | (with_reducible assumption) | assumption)
                            have q405 : x5_3 < (t384.length : Int) := of_decide_eq_true (by first | (with_reducible assumption) | assumption)
                            obtain ⟨ad405, A405_0, c405_0, e405, hx405_0, hl405_0, hi405_0⟩ := at_L2 (Kd.N_reads' HO_4.out).2.2 x5_3 p405 q405
                            cases e405
                            replace p405 := eq_true p405
                            replace q405 := eq_true q405
                            obtain ⟨row, hrow⟩ : ∃ l, rd_L2 t384 x5_3 = l := ⟨_, rfl⟩
                            have hrl : l0.length + row.length ≤ 140737488355328 := by
                              have h1 := LMc14.out
                              rw [Ny390.out, Ny387.out, hrow, List.length_append, List.length_nil] at h1
                              omega
                            have hyy : l0 ++ row = y394 := by rw [Ny394.out, Ny390.out, Ny387.out, hrow]; rfl
                            rw [hrow] at hx405_0 hl405_0 hi405_0
                            obtain ⟨rn, hrn⟩ : ∃ n, row.length = n := ⟨_, rfl⟩
                            rw [hrn] at hx405_0 hl405_0 hi405_0
                            have HRL := Lib.hid hrl
                            have HY1 := Lib.hid hyy
                            clear hrow hrl hyy hrn hl405_0
                            go_wp2
                            refine start_ (n := 14) (S := fun w' => Below wr.drew.heap.size wr.drew w') (ds := []) #[false, false, false, false, false, false, false, false, false, false, false, false, false, false] (by kernel_rfl) rfl rfl (Below.refl _ _) (fun hHeld => ?_)
                            have hx1 : wr.drew.cell? (ad405.add x5_3.toNat) = some (Value.slice A405_0 rn c405_0) := pw_cell_below (below_drew1 (Below.refl _ _)) hx405_0
                            have hC1 : Kd.C (Kd.int .u8) wr.drew A405_0 rn row := Kd.C_drew hi405_0
                            have h3 : Kd.N (Kd.slice 5 (Kd.int .u8)) 23 wr.drew w.heap.size (fun _ => True) (Value.slice (some ad405) t384.length co24) t384 := Kd.N_drew HO_4.out
                            have hB0 : Below w.heap.size w wr.drew := below_drew1 HB.out
                            clear hx405_0 hi405_0 HO_4 HB hHeld
                            generalize wr.drew = wD at hx1 hC1 h3 hB0 ⊢
                            have hld : ∀ W : World, Below wD.heap.size wD W → W.cell? (ad405.add x5_3.toNat) = some (Value.slice A405_0 rn c405_0) := fun W hb => pw_cell_below hb hx1
                            have HC1 := Lib.hid hC1
                            have HO_4 := Aside0.mk h3
                            have HB := Aside0.mk hB0
                            have HLD := Lib.hid hld
                            clear hx1 hC1 h3 hB0 hld
                            refine pure_ (i := 1) (N := some 38) (v := ?_) (a' := ?_) #[false, true, false, false, false, false, false, false, false, false, false, false, false, false] rfl rfl (by kernel_rfl) (fun _ _ _ h => h) (Or.inl ⟨by rfl, ?_⟩) ?_ ?_
                            rotate_left
                            · intro w'
                              go_simp
                              with_reducible rfl
                            rotate_left
                            · simp only [Act.put, List.setIfInBounds_toArray, List.set_cons_zero, List.set_cons_succ, i64_w, i32_w]
                              rfl
                            refine pure_ (i := 3) (N := some 40) (v := ?_) (a' := ?_) #[false, true, false, true, false, false, false, false, false, false, false, false, false, false] rfl rfl (by kernel_rfl) (fun _ _ _ h => h) (Or.inl ⟨by rfl, ?_⟩) ?_ ?_
                            rotate_left
                            · intro w'
                              go_simp
                              with_reducible rfl
                            rotate_left
                            · simp only [Act.put, List.setIfInBounds_toArray, List.set_cons_zero, List.set_cons_succ, i64_w, i32_w]
                              rfl
                            refine pure_ (i := 4) (N := some 41) (v := ?_) (a' := ?_) #[false, true, false, true, true, false, false, false, false, false, false, false, false, false] rfl rfl (by kernel_rfl) (fun _ _ _ h => h) (Or.inl ⟨by rfl, ?_⟩) ?_ ?_
                            rotate_left
                            · intro w'
                              go_simp
                              with_reducible rfl
                            rotate_left
                            · simp only [Act.put, List.setIfInBounds_toArray, List.set_cons_zero, List.set_cons_succ, i64_w, i32_w]
                              rfl
                            refine pure_ (i := 5) (N := some 42) (v := ?_) (a' := ?_) #[false, true, false, true, true, true, false, false, false, false, false, false, false, false] rfl rfl (by kernel_rfl) (fun _ _ _ h => h) (Or.inl ⟨by rfl, ?_⟩) ?_ ?_
                            rotate_left
                            · intro w'
                              go_simp
                              with_reducible rfl
                            rotate_left
                            · simp only [Act.put, List.setIfInBounds_toArray, List.set_cons_zero, List.set_cons_succ, i64_w, i32_w]
                              rfl
                            refine take_ (i := 6) (N := some 43) (v := ?_) (a' := ?_) #[false, true, false, true, true, true, true, false, false, false, false, false, false, false] rfl rfl (by kernel_rfl) (fun _ _ _ h => h) (Or.inl ⟨by rfl, ?_⟩) (Below.refl _ _) ?_ ?_
                            rotate_left
                            · intro w' s0
                              have hx_ := HLD.out w' s0
                              go_simp
                              with_reducible rfl
                            rotate_left
                            · simp only [Act.put, List.setIfInBounds_toArray, List.set_cons_zero, List.set_cons_succ, i64_w, i32_w]
                              rfl
                            refine one_ (i := 0) (N := some 37) #[true, true, false, true, true, true, true, false, false, false, false, false, false, false] rfl rfl (by kernel_rfl) (by decide) (fun K hK => ?_)
                            refine Kd.R_lit_step (Kd.int .u8) (w0 := wD) wD.heap.size 5 rfl (N := 37) rfl (xs := ([] : List Int)) (inner := []) (ok := fun _ => True) (okp := fun _ => True) ?hr (Reps.none _ _) (fun _ hk => hk) trivial (Below.refl _ _) (Nat.le_refl _) (by simp) ?_
                            case hr => first | (go_simp; done) | (go_simp; rfl)
                            intro v1 w1 ho hb hg _
                            refine hK _ _ hb (fun _ => ?_)
                            refine norm_ (a' := ?_) ?_ ?_
                            rotate_left
                            · simp only [Act.put, List.setIfInBounds_toArray, List.set_cons_zero, List.set_cons_succ, i64_w, i32_w]
                              rfl
                            have HO1 := Lib.hid ho
                            have HB1 := Lib.hid hb
                            clear ho hb hg
                            refine one_ (i := 2) (N := some 39) #[true, true, true, true, true, true, true, false, false, false, false, false, false, false] rfl rfl (by kernel_rfl) (by decide) (fun K hK => ?_)
                            refine Kd.R_append_rows_step (Kd.int .u8) (w0 := wD) wD.heap.size rfl (.tmp 37) (.tmp 38) 23 5 (.int .u8 0) 1 rfl Tryd.underlying23 info5 rfl (by decide) (by omega) v1 [] l0 _ _ _ (fun _ => True) (fun _ => False) rfl rfl HO1.out (Kd.C_below HR0.out (below_step HB.out HB1.out)) (fun _ _ h => h) (fun _ h => h.elim) (fun _ _ => trivial) HB1.out HB1.out.size (by have := HRL.out; simp only [List.length_nil]; omega) ?_
                            intro v2 w2_ ho hb hg hat
                            refine hK _ _ hb (fun _ => ?_)
                            refine norm_ (a' := ?_) ?_ ?_
                            rotate_left
                            · simp only [Act.put, List.setIfInBounds_toArray, List.set_cons_zero, List.set_cons_succ, i64_w, i32_w]
                              rfl
                            have HO2 := Lib.hid ho
                            have HB2 := Lib.hid hb
                            clear ho hb hg hat HO1 HB1
                            refine one_ (i := 7) (N := some 44) #[true, true, true, true, true, true, true, true, false, false, false, false, false, false] rfl rfl (by kernel_rfl) (by decide) (fun K hK => ?_)
                            refine Kd.R_append_rows_step (Kd.int .u8) (w0 := wD) wD.heap.size rfl (.tmp 39) (.tmp 43) 23 5 (.int .u8 0) 1 rfl Tryd.underlying23 info5 rfl (by decide) (by omega) v2 _ row _ _ _ (fun _ => True) (fun _ => False) rfl rfl HO2.out (Kd.C_below HC1.out HB2.out) (fun _ _ h => h) (fun _ h => h.elim) (fun _ _ => trivial) HB2.out HB2.out.size (by have h1 := HRL.out; have h2 := HC1.out.1; simp only [List.nil_append]; omega) ?_
                            intro v3 w3 ho hb hg hat
                            rw [List.nil_append, HY1.out] at ho
                            obtain ⟨A7, c7, e7⟩ := Kd.R_slice ho
                            subst e7
                            refine hK _ _ hb (fun _ => ?_)
                            refine norm_ (a' := ?_) ?_ ?_
                            rotate_left
                            · simp only [Act.put, List.setIfInBounds_toArray, List.set_cons_zero, List.set_cons_succ, i64_w, i32_w]
                              rfl
                            have HO3 := Lib.hid ho
                            have HB3 := Lib.hid hb
                            clear ho hb hg hat HO2 HB2
                            refine one_ (i := 8) (N := some 45) #[true, true, true, true, true, true, true, true, true, false, false, false, false, false] rfl rfl (by kernel_rfl) (by decide) (fun K hK => ?_)
                            refine goes_ Tryd.func24 (by kernel_rfl) rfl #[.slice A7 y394.length c7] (by rfl) rfl rfl (by (try simp only [List.map_toArray, List.map_cons, List.map_nil]); first | done | rfl) ?_
                            with_reducible refine (gessoref01_One.calls k3 _ _ y394 t397 t398 _ (Kd.R_reads' HO3.out).2.2 (Kd.R_reads' HO3.out).2.1 A15.out).mono ?_
                            rintro e w4 ⟨rfl, hb⟩
                            refine ⟨_, rfl, ?_⟩
                            have hbD := below_step HB3.out hb
                            refine hK _ _ hbD (fun _ => ?_)
                            refine norm_ (a' := ?_) ?_ ?_
                            rotate_left
                            · simp only [Act.put, List.setIfInBounds_toArray, List.set_cons_zero, List.set_cons_succ, i64_w, i32_w]
                              rfl
                            have h31 := Kd.N_below HO_4.out hbD
                            have hB1 := below_step HB.out hbD
                            clear HO_4 HB HO3 HB3 hb hbD
                            have HO_4 := Aside0.mk h31
                            have HB := Aside0.mk hB1
                            clear h31 hB1
                            refine pure_ (i := 9) (N := some 36) (v := ?_) (a' := ?_) #[true, true, true, true, true, true, true, true, true, true, false, false, false, false] rfl rfl (by kernel_rfl) (fun _ _ _ h => h) (Or.inl ⟨by rfl, ?_⟩) ?_ ?_
                            rotate_left
                            · intro w'
                              go_simp
                              with_reducible rfl
                            rotate_left
                            · simp only [Act.put, List.setIfInBounds_toArray, List.set_cons_zero, List.set_cons_succ, i64_w, i32_w]
                              rfl
                            refine pure_ (i := 10) (N := some 46) (v := ?_) (a' := ?_) #[true, true, true, true, true, true, true, true, true, true, true, false, false, false] rfl rfl (by kernel_rfl) (fun _ _ _ h => h) (Or.inl ⟨by rfl, ?_⟩) ?_ ?_
                            rotate_left
                            · intro w'
                              go_simp
                              with_reducible rfl
                            rotate_left
                            · simp only [Act.put, List.setIfInBounds_toArray, List.set_cons_zero, List.set_cons_succ, i64_w, i32_w]
                              rfl
                            refine pure_ (i := 11) (N := some 47) (v := ?_) (a' := ?_) #[true, true, true, true, true, true, true, true, true, true, true, true, false, false] rfl rfl (by kernel_rfl) (fun _ _ _ h => h) (Or.inl ⟨by rfl, ?_⟩) ?_ ?_
                            rotate_left
                            · intro w'
                              go_simp
                              with_reducible rfl
                            rotate_left
                            · simp only [Act.put, List.setIfInBounds_toArray, List.set_cons_zero, List.set_cons_succ, i64_w, i32_w]
                              rfl
                            refine pure_ (i := 12) (N := some 6) (v := ?_) (a' := ?_) #[true, true, true, true, true, true, true, true, true, true, true, true, true, false] rfl rfl (by kernel_rfl) (fun _ _ _ h => h) (Or.inl ⟨by rfl, ?_⟩) ?_ ?_
                            rotate_left
                            · intro w'
                              go_simp
                              with_reducible rfl
                            rotate_left
                            · simp only [Act.put, List.setIfInBounds_toArray, List.set_cons_zero, List.set_cons_succ, i64_w, i32_w]
                              rfl
                            refine pure_ (i := 13) (N := some 7) (v := ?_) (a' := ?_) #[true, true, true, true, true, true, true, true, true, true, true, true, true, true] rfl rfl (by kernel_rfl) (fun _ _ _ h => h) (Or.inl ⟨by rfl, ?_⟩) ?_ ?_
                            rotate_left
                            · intro w'
                              go_simp
                              with_reducible rfl
                            rotate_left
                            · simp only [Act.put, List.setIfInBounds_toArray, List.set_cons_zero, List.set_cons_succ, i64_w, i32_w]
                              rfl
                            refine done_ (by kernel_rfl) ?_
                            try go_wp2
                            go_roundg k3
                            case measure => have := HJ1.out; have := HK2.out; have := HK3.out; omega
                            case rel => exact ⟨(wrap64 (x5_3 + 1)), (by first | rfl | (simp; done) | (simp [*]; done)), H', ⟨by have := HJ1.out; have := HK2.out; have := HK3.out; omega⟩, ⟨by (with_reducible repeat (first | apply Kd.N_alloc | apply Kd.N_drewN | apply Kd.N_drew)); exact Kd.N_mono HO_4.out (fun _ hk => trivial)⟩, ⟨by repeat (first | (with_reducible first | exact HB.out | apply below_alloc | apply pw_below_drewN | apply below_drew1) | exact HB.out)⟩⟩
                        · rw [if_neg c14] at H
                          exact absurd H (by simp)
                      · rw [if_neg c13] at H
                        exact absurd H (by simp)
                    · rw [if_neg c12] at H
                      exact absurd H (by simp)
                  · rw [if_neg c11] at H
                    have c11b0 : decide (x5_3 < (t384.length : Int)) = false := decide_eq_false c11
                    clear c11
                    have H' := Aside0.mk H
                    clear H
                    obtain ⟨Ao31, co31, eo31⟩ := Kd.N_slice HO_4.out
                    subst eo31
                    go_wp2
                    go_roundg k3
                    case measure => have := HJ1.out; have := HK2.out; have := HK3.out; omega
                    case rel => exact ⟨(wrap64 (x3_2 + 1)), (by first | rfl | (simp; done) | (simp [*]; done)), H', ⟨by have := HJ1.out; have := HK2.out; have := HK3.out; omega⟩, ⟨by repeat (first | (with_reducible first | exact HB.out | apply below_alloc | apply pw_below_drewN | apply below_drew1) | exact HB.out)⟩⟩
            · rw [if_neg c8] at H
              have c8b0 : decide ((wrap64 (x3_2 + (l0.length : Int))) ≤ 4) = false := decide_eq_false c8
              clear c8
              obtain rfl := Option.some.inj H
              go_wp2
              go_ret
              exact ⟨by first | rfl | (simp [errW_none, errW_some] <;> rfl) | (simp [*, errW_none, errW_some] <;> rfl), by repeat (first | (with_reducible first | exact HB.out | apply below_alloc | apply pw_below_drewN | apply below_drew1) | exact HB.out)⟩
end Go.Proofs.YtjlhehaagaaihaaDoor.P
