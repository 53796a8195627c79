/- walk.Text: its calls (strings.Join by the library's contract). No condition. -/
import Derived.Test.YtomhpfgibekmfaaProg
import Derived.Shelf.Strings.OnBuilder
import Derived.Test.YtomhpfgibekmfaaPx0
import Derived.Lib.Hide
namespace Go.Proofs.Ytomhpfgibekmfaa.P
open Go.RowKit Go.Lib Go.Shelf Go.Proofs.YtomhpfgibekmfaaW.PrintWords
set_option linter.unusedVariables false
set_option linter.unusedSimpArgs false
def joinRen : Ren := ⟨fun | 156 => 28 | 165 => 35 | 166 => 36 | 169 => 37 | 240 => 41 | 241 => 42 | 276 => 43 | 277 => 44 | n => n, fun | 31 => 22 | 9 => 9 | 3 => 3 | 4 => 4 | 0 => 0 | 20 => 20 | 72 => 60 | 76 => 64 | 70 => 57 | 37 => 58 | 75 => 63 | 127 => 75 | 164 => 77 | 5 => 5 | 80 => 66 | n => n, fun n => n⟩
set_option maxRecDepth 100000 in
theorem joinLays : Lays.n156 Try.prog joinRen where
  mixed := by kernel_rfl
  f156 := Try.func28.trans (congrArg some (by kernel_rfl))
  f165 := Try.func35.trans (congrArg some (by kernel_rfl))
  f166 := Try.func36.trans (congrArg some (by kernel_rfl))
  f169 := Try.func37.trans (congrArg some (by kernel_rfl))
  f240 := Try.func41.trans (congrArg some (by kernel_rfl))
  f241 := Try.func42.trans (congrArg some (by kernel_rfl))
  f276 := Try.func43.trans (congrArg some (by kernel_rfl))
  f277 := Try.func44.trans (congrArg some (by kernel_rfl))
  t0 := Try.underlying0
  a0 := Try.isAgg0
  z0 := Try.sizeOf0
  v0 := Try.zeroValue0
  t3 := Try.underlying3
  a3 := Try.isAgg3
  z3 := Try.sizeOf3
  v3 := Try.zeroValue3
  t4 := Try.underlying4
  a4 := Try.isAgg4
  z4 := Try.sizeOf4
  v4 := Try.zeroValue4
  t9 := Try.underlying9
  a9 := Try.isAgg9
  z9 := Try.sizeOf9
  v9 := Try.zeroValue9
  t20 := Try.underlying20
  a20 := Try.isAgg20
  z20 := Try.sizeOf20
  v20 := Try.zeroValue20
  t31 := Try.underlying22
  a31 := Try.isAgg22
  z31 := Try.sizeOf22
  v31 := Try.zeroValue22
  t37 := Try.underlying58
  a37 := Try.isAgg58
  z37 := Try.sizeOf58
  v37 := Try.zeroValue58
  t70 := Try.underlying57
  a70 := Try.isAgg57
  z70 := Try.sizeOf57
  v70 := Try.zeroValue57
  t72 := Try.underlying60
  a72 := Try.isAgg60
  z72 := Try.sizeOf60
  v72 := Try.zeroValue60
  t75 := Try.underlying63
  a75 := Try.isAgg63
  z75 := Try.sizeOf63
  v75 := Try.zeroValue63
  t76 := Try.underlying64
  a76 := Try.isAgg64
  z76 := Try.sizeOf64
  v76 := Try.zeroValue64
  t127 := Try.underlying75
  a127 := Try.isAgg75
  z127 := Try.sizeOf75
  v127 := Try.zeroValue75
  t164 := Try.underlying77
  a164 := Try.isAgg77
  z164 := Try.sizeOf77
  v164 := Try.zeroValue77
theorem joinExtra : Builder.Extra Try.prog joinRen where
  sizeBuilder := by kernel_rfl
  liesBuilder := by kernel_rfl
  t5 := Try.underlying5
  a5 := Try.isAgg5
  z5 := Try.sizeOf5
  v5 := Try.zeroValue5
  infoByte := by kernel_rfl
  cellsByte := by kernel_rfl
  sizeByte := by kernel_rfl
  neB5 := by decide

/-- The paths' text: all names, each behind a slash. -/
def joined (l : List ByteArray) : List UInt8 := Lib.join (l.map (·.data.toList)) [47]
theorem join_any (A0 : Option Addr) (n0 c0 : Nat) (l : List ByteArray) (w : World) (hn : l.length = n0) (hr : Kd.C Kd.string w A0 n0 l) (hc : n0 ≤ c0) (hN : n0 ≤ 1048576) (hlen : (joined l).length ≤ 140737488355328) :
    Calls Try.prog 28 #[.slice A0 n0 c0, .string ⟨#[47]⟩] w fun e w' => e = .returned (.string ⟨(joined l).toArray⟩) ∧ Below w.heap.size w w' := by
  subst hn
  rcases Nat.eq_zero_or_pos l.length with h0 | h0
  · obtain rfl := List.eq_nil_of_length_eq_zero h0
    refine (Any.strings_Join_none joinLays joinExtra A0 c0 ⟨#[47]⟩ w).mono fun e w' q => ?_
    obtain ⟨rfl, rfl⟩ := q
    exact ⟨rfl, Below.refl _ _⟩
  · obtain ⟨ad, rfl, h1⟩ := (Kd.reads_of_C (d := ByteArray.empty) hr).2.2 h0
    have hsp : ad.spot = none := by
      have h2 := h1 0 h0
      simp only [Addr.add, if_true] at h2
      unfold World.cell? at h2
      split at h2
      · split at h2
        · cases h2
        · rename_i h3
          simpa using h3
      · cases h2
    obtain ⟨b, o, sp⟩ := ad
    simp only at hsp
    subst hsp
    have hb : b < w.heap.size := World.block_lt_of_cell? w _ (h1 0 h0)
    refine (Any.strings_Join joinLays joinExtra b o c0 l ⟨#[47]⟩ w (fun j x hj => ?_) hb (by omega) hc hlen).mono fun e w' q => q
    have hjl := (List.getElem?_eq_some_iff.1 hj).1
    have h2 := h1 j hjl
    rw [add_at, List.getD_eq_getElem?_getD, hj] at h2
    exact h2
def walk_Text.f (l0 : List ByteArray) : Option ByteArray := if l0.length ≤ 1048576 ∧ (joined l0).length ≤ 140737488355328 then some (⟨#[47]⟩ ++ ⟨(joined l0).toArray⟩) else none
set_option maxHeartbeats 1000000 in
theorem walk_Text.calls (A0 : Option Addr) (c0 : Nat) (l0 : List ByteArray) (r : ByteArray) (w : World) (hr0 : Kd.C Kd.string w A0 l0.length l0) (hc0 : l0.length ≤ c0) (h : walk_Text.f l0 = some r) :
    Calls Try.prog 13 #[.slice A0 l0.length c0] w fun e w' => e = .returned (.string r) ∧ Below w.heap.size w w' := by
  unfold walk_Text.f at h
  split at h
  · rename_i hh
    obtain rfl := Option.some.inj h
    obtain ⟨J, hJ⟩ : ∃ J : ByteArray, (⟨(joined l0).toArray⟩ : ByteArray) = J := ⟨_, rfl⟩
    have hs : J.size ≤ 140737488355328 := by
      rw [← hJ]
      have h2 := hh.2
      show (joined l0).toArray.size ≤ _
      rw [List.size_toArray]
      exact h2
    have HR := Lib.hid hr0
    have HH := Lib.hid hh
    have HJ := Lib.hid hJ
    obtain ⟨n0, hn0⟩ : ∃ n0, l0.length = n0 := ⟨_, rfl⟩
    rw [hn0] at HR hc0 ⊢
    have HN := Lib.hid hn0
    rw [hJ]
    have hs2 : ¬ ((1 : Int) + (J.size : Int) > 9223372036854775807) := by omega
    have hs3 : ¬ (9223372036854775807 < (1 : Int) + (J.size : Int)) := by omega
    clear hr0 hh hJ h hn0
    go_enter Try.func13, Try.ntmps13
    go_wp2_with (first
      | (go_at_call 28; ((with_reducible refine (join_any A0 n0 c0 l0 _ HN.out HR.out hc0 (by rw [← HN.out]; exact HH.out.1) HH.out.2).mono ?_); rintro e w1 ⟨rfl, hb⟩; rw [HJ.out]; have HB := Lib.hid hb; clear hb)))
    go_ret
    exact ⟨rfl, HB.out⟩
  · cases h
end Go.Proofs.Ytomhpfgibekmfaa.P
