/- The code points of bytes: the calls of Codes come to a plain Lean function. The two tables are asked for as a fact of the world ('Tabs'). No condition. -/
import Derived.Test.YtjlhehaagaaihaaDoorEd
import Derived.Lib.OthersKept
import Derived.Lib.TrimU
import Derived.Lib.MapLaws
namespace Go.Proofs.YtjlhehaagaaihaaDoor.P
open Go.RowKit Go.Lib Go.Proofs.YtjlhehaagaaihaaDoorW.PrintWords Go.Proofs.YtjlhehaagaaihaaDoorW.PrintLast Go.Proofs.YtjlhehaagaaihaaDoorW.PrintMore
attribute [local go_sem] max2_int min2_int max_two min_two max_three min_three max_four min_four
set_option linter.unusedVariables false
set_option linter.unusedSimpArgs false

/-- The runes of a string from a place on, as a range tells them. -/
def runesAt (s : ByteArray) : Nat → Nat → List Int
  | 0, _ => []
  | n + 1, pos => if pos < s.size then ((Utf8.decode s pos).1 : Int) :: runesAt s n (pos + (Utf8.decode s pos).2) else []
def code_Codes.f (l : List Int) : Option (List Int × Int) :=
  if allb l = true then if Lib.validD (asB l) = true then if (runesAt (strOfNums l) l.length 0).length ≤ 35184372087808 then some (runesAt (strOfNums l) l.length 0, 0) else none else some ([], 6) else none
theorem strOfNums_size (l : List Int) : (strOfNums l).size = l.length := by simp [strOfNums, ByteArray.size]
theorem runesAt_end (s : ByteArray) : ∀ (n pos : Nat), s.size ≤ pos → runesAt s n pos = []
  | 0, _, _ => rfl
  | n + 1, pos, h => by rw [runesAt, if_neg (by omega)]

set_option maxHeartbeats 1000000 in
set_option maxRecDepth 1000000 in
theorem codes_good (A0 : Option Addr) (c0 : Nat) (l0 : List Int) (w : World) (hT : Tabs w) (hr0 : Kd.C (Kd.int .u8) w A0 l0.length l0) (hc0 : l0.length ≤ c0) (hb : allb l0 = true) (hl : (runesAt (strOfNums l0) l0.length 0).length ≤ 35184372087808) (hv : Lib.validD (asB l0) = true) :
    Calls Tryd.prog 18 #[.slice A0 l0.length c0] w fun e w' => ∃ v0_ : Value, e = .returned (.tuple #[v0_, .int .i64 0]) ∧ Kd.R (Kd.int .u32) 35 w' w.heap.size (fun _ => True) v0_ (runesAt (strOfNums l0) l0.length 0) ∧ Below w.heap.size w w' := by
  have hf : utf8_Valid.f l0 = some true := by rw [utf8_Valid.f, if_pos hb, hv]
  have cV := utf8_Valid.calls A0 c0 l0 true w ⟨hT⟩ hr0 hc0 hf
  have CV := Lib.hid cV
  have hs : ∀ W : World, Below w.heap.size w W → Sem.run Tryd.prog (convert 23 9 (Value.slice A0 l0.length c0)) W = Result.ok (Value.string (strOfNums l0)) W := fun W hb_ => Kd.C_string (P := Tryd.prog) (A := A0) (c := c0) Tryd.underlying23 Tryd.underlying5 Tryd.underlying9 (Kd.C_below hr0 hb_)
  have HS := Lib.hid hs
  have hmax : l0.length ≤ 9223372036854775807 := (Kd.reads_of_C (d := (0 : Int)) hr0).2.1
  obtain ⟨s, hs0⟩ : ∃ s, strOfNums l0 = s := ⟨_, rfl⟩
  have hsz : s.size = l0.length := by rw [← hs0, strOfNums_size]
  rw [hs0] at HS hl ⊢
  obtain ⟨ANS, hA⟩ : ∃ ANS, runesAt s l0.length 0 = ANS := ⟨_, rfl⟩
  rw [hA] at hl ⊢
  have HA := Lib.hid hA
  clear cV hf hs hr0 hT hb hv hs0 hA
  have HSZ := Lib.hid hsz
  clear hsz
  have hlen : s.size ≤ 9223372036854775807 := by rw [HSZ.out]; exact hmax
  go_enter Tryd.func18, Tryd.ntmps18
  go_wp2_with (go_at_call 46; ((with_reducible refine CV.out.mono ?_); rintro e w1 ⟨rfl, hb1⟩; have hcv := HS.out _ hb1; have HB1 := Lib.hid hb1; clear hb1))
  have hb1 := HB1.out
  have hfr : (w1.iter s 0).heap[w1.heap.size]? = some (.stringIter s 0) := World.iter_heap w1 s 0
  have hbi : Below w.heap.size w (w1.iter s 0) := hb1.alloc hb1.size _
  have hin : w1.heap.size < (w1.iter s 0).heap.size := by simp [World.iter]
  have hle1 := hb1.size
  have HFR := Lib.hid hfr
  clear hfr hcv HS CV
  generalize hIT : w1.heap.size = IT at *
  clear hIT HB1 hb1
  generalize w1.iter s 0 = wi at *
  go_loopg [4] s.size (fun gk s4 wx => ∃ (pos : Nat) (acc : List Int), Aside0 (wx.heap[IT]? = some (.stringIter s pos)) ∧ Aside0 (Kd.R (Kd.int .u32) 35 wx w.heap.size (fun _ => True) s4 acc) ∧ Aside0 (Below w.heap.size w wx) ∧ IT < wx.heap.size ∧ Aside0 (acc ++ runesAt s gk pos = ANS) ∧ s.size ≤ pos + gk ∧ acc.length ≤ pos ∧ pos ≤ s.size)
  case atStart => exact ⟨0, [], ⟨HFR.out⟩, ⟨Kd.R_nil _ _ _ _ _⟩, ⟨hbi⟩, hin, ⟨by rw [List.nil_append, ← HA.out, HSZ.out]⟩, by omega, by simp, by omega⟩
  case round =>
    obtain ⟨pos, acc, HIT, HR, HB, hlt, HACC, hpk, hap, hps⟩ := hrel
    clear HFR hbi hin
    by_cases hp : pos < s.size
    · obtain ⟨g', rfl⟩ : ∃ g', gk = g' + 1 := ⟨gk - 1, by omega⟩
      have hnx : ∀ ty, (Instr.next (.pointer (some ⟨IT, 0, none⟩)) true ty).run Tryd.prog wr = _ := fun ty => Lib.run_next_any_at wr IT s pos ty HIT.out hp
      have hwd := Lib.width_pos s pos
      have hne : s.data.toList.drop pos ≠ [] := by
        intro h0
        have := congrArg List.length h0
        rw [List.length_drop, ← Lib.size_eq] at this
        simp at this
        omega
      have hwn : pos + (Utf8.decode s pos).2 ≤ s.size := by
        have := Lib.decodeL_le _ hne
        rw [Lib.decodeL_drop, List.length_drop, ← Lib.size_eq] at this
        omega
      have hrl := Lib.rune_le s pos
      have hacc : (acc ++ [((Utf8.decode s pos).1 : Int)]) ++ runesAt s g' (pos + (Utf8.decode s pos).2) = ANS := by
        rw [← HACC.out, runesAt, if_pos hp, List.append_assoc]; rfl
      have hac : acc.length + 1 ≤ ANS.length := by rw [← hacc]; simp
      obtain ⟨R, hR⟩ : ∃ R, (Utf8.decode s pos).1 = R := ⟨_, rfl⟩
      obtain ⟨K, hK⟩ : ∃ K, (Utf8.decode s pos).2 = K := ⟨_, rfl⟩
      rw [hR, hK] at hnx hacc
      rw [hK] at hwd hwn
      rw [hR] at hrl
      have hit2 := Lib.iterAt_heap wr IT s pos (pos + K) HIT.out
      have hB2 := Lib.below_iterAt HB.out (k := IT) (by omega) s (pos + K)
      have hsz2 := Lib.iterAt_size wr IT s (pos + K)
      have hR2 : Kd.R (Kd.int .u32) 35 (wr.iterAt IT s (pos + K)) w.heap.size (fun _ => True) u4 acc := by
        obtain ⟨h0, inner, ho, hr⟩ := HR.out
        refine ⟨h0, inner, own_move ho (fun k hk => Lib.iterAt_other wr IT k s _ ?_), hr⟩
        rintro rfl
        obtain ⟨cells, hc⟩ := own_typed ho _ hk
        rw [HIT.out] at hc
        cases hc
      have hlt2 : IT < (wr.iterAt IT s (pos + K)).heap.size := by rw [hsz2]; exact hlt
      have hgB : w.heap.size ≤ (wr.iterAt IT s (pos + K)).heap.size := hB2.size
      obtain ⟨W, hWd⟩ : ∃ W, wr.iterAt IT s (pos + K) = W := ⟨_, rfl⟩
      rw [hWd] at hnx hit2 hB2 hR2 hlt2 hgB
      have HI2 := Lib.hid hit2
      have HB2 := Lib.hid hB2
      have HR2 := Lib.hid hR2
      have HA2 := Lib.hid hacc
      have w1 : ((R : Int) % 4294967296) = R := by omega
      clear hit2 hB2 hR2 hacc HIT HR HB HACC hWd hsz2 hne hR hK
      have hrl0 : (0 : Int) ≤ (R : Int) := by omega
      have hrl1 : (R : Int) ≤ 1114111 := by omega
      go_wp2_with (first | ((with_reducible refine gate_builtin (b := .append) (xs := #[.tmp 16, .tmp 19]) rfl ?_); at_builtin; refine Kd.R_append (Kd.int .u32) (w0 := w) w.heap.size rfl (.tmp 16) (.tmp 19) 22 35 (.int .u32 0) 4 rfl Tryd.underlying22 info35 rfl (by decide) (by omega) u4 acc (R : Int) [.int .u32 (R : Int)] (fun _ => True) (fun _ => False) rfl rfl ?aP (fun _ hk => hk.elim) ?aF ?aO ?aB ?aS ?aL ?_; (case aP => exact rfl); (case aB => exact HB2.out); (case aF => exact fun _ _ => trivial); (case aO => exact HR2.out); (case aS => exact hgB); (case aL => omega); intro v3 w3 ho hb hg hat; have HO3 := Lib.hid ho; have HB3 := Lib.hid hb; have HG3 := Lib.hid hg; clear ho hb hg hat))
      have hI3 : w3.heap[IT]? = some (.stringIter s (pos + K)) := by
        rw [HG3.out.block IT hlt2 ?_]
        · exact HI2.out
        · intro he
          obtain ⟨h0, inner, ho, hr⟩ := HR2.out
          obtain ⟨cells, hc⟩ := own_typed ho _ he.symm
          rw [HI2.out] at hc
          cases hc
      have hlt3 : IT < w3.heap.size := Nat.lt_of_lt_of_le hlt2 HG3.out.size
      have HI3 := Lib.hid hI3
      clear hI3
      go_roundg g'
      case measure => omega
      case rel => exact ⟨pos + K, acc ++ [(R : Int)], ⟨HI3.out⟩, ⟨HO3.out⟩, ⟨HB3.out⟩, hlt3, ⟨HA2.out⟩, by omega, by rw [List.length_append, List.length_singleton]; omega, by omega⟩
    · have hnx : ∀ ty, (Instr.next (.pointer (some ⟨IT, 0, none⟩)) true ty).run Tryd.prog wr = _ := fun ty => Lib.run_next_end_at wr IT s pos ty HIT.out hp
      have hacc := HACC.out
      rw [runesAt_end s gk pos (by omega), List.append_nil] at hacc
      subst hacc
      clear HACC HA
      go_wp2
      go_ret2
      exact ⟨_, rfl, HR.out, HB.out⟩
set_option maxHeartbeats 400000 in
set_option maxRecDepth 1000000 in
theorem codes_bad (A0 : Option Addr) (c0 : Nat) (l0 : List Int) (w : World) (hT : Tabs w) (hr0 : Kd.C (Kd.int .u8) w A0 l0.length l0) (hc0 : l0.length ≤ c0) (hb : allb l0 = true) (hv : Lib.validD (asB l0) = false) :
    Calls Tryd.prog 18 #[.slice A0 l0.length c0] w fun e w' => e = .returned (.tuple #[.slice none 0 0, .int .i64 6]) ∧ Below w.heap.size w w' := by
  have hf : utf8_Valid.f l0 = some false := by rw [utf8_Valid.f, if_pos hb, hv]
  have cV := utf8_Valid.calls A0 c0 l0 false w ⟨hT⟩ hr0 hc0 hf
  have CV := Lib.hid cV
  clear cV hf hr0 hT hb hv
  go_enter Tryd.func18, Tryd.ntmps18
  go_wp2_with (go_at_call 46; ((with_reducible refine CV.out.mono ?_); rintro e w1 ⟨rfl, hb1⟩; have HB1 := Lib.hid hb1; clear hb1))
  go_ret2
  exact ⟨rfl, HB1.out⟩
theorem code_Codes.calls (A0 : Option Addr) (c0 : Nat) (l0 : List Int) (r1 : List Int) (r2 : Int) (w : World) (HTb_ : Aside0 (Tabs w)) (hr0 : Kd.C (Kd.int .u8) w A0 l0.length l0) (hc0 : l0.length ≤ c0) (h : code_Codes.f l0 = some (r1, r2)) :
    Calls Tryd.prog 18 #[.slice A0 l0.length c0] w fun e w' => ∃ v0_ : Value, e = .returned (.tuple #[v0_, .int .i64 r2]) ∧ Kd.R (Kd.int .u32) 35 w' w.heap.size (fun _ => True) v0_ r1 ∧ Below w.heap.size w w' := by
  unfold code_Codes.f at h
  split at h
  · rename_i hb
    split at h
    · rename_i hv
      split at h
      · rename_i hl
        simp only [Option.some.injEq, Prod.mk.injEq] at h
        obtain ⟨rfl, rfl⟩ := h
        exact codes_good A0 c0 l0 w HTb_.out hr0 hc0 hb hl hv
      · cases h
    · rename_i hv
      simp only [Option.some.injEq, Prod.mk.injEq] at h
      obtain ⟨rfl, rfl⟩ := h
      exact (codes_bad A0 c0 l0 w HTb_.out hr0 hc0 hb (by simpa using hv)).mono fun e w' ⟨he, hb⟩ => ⟨_, he, Kd.R_nil _ _ _ _ _, hb⟩
  · cases h
end Go.Proofs.YtjlhehaagaaihaaDoor.P
