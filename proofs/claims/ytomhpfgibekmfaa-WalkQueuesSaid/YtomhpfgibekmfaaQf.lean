/- walk.Sorted, as a plain function. No condition. -/
import Derived.Test.YtomhpfgibekmfaaQe
namespace Go.Proofs.Ytomhpfgibekmfaa.P
open Go.RowKit Go.Lib Go.Proofs.YtomhpfgibekmfaaW.PrintWords Go.Proofs.YtomhpfgibekmfaaW.PrintLast Go.Proofs.YtomhpfgibekmfaaW.PrintMore Go.Proofs.Ytomhpfgibekmfaa.Pure
def walk_Sorted.f (l0 : List (List ByteArray)) (a1 : Bool) : Option (List (List ByteArray)) := if l0.length ≤ 1048576 ∧ ∀ x ∈ l0, x.length ≤ 1099511627776 then some (srt a1 [] l0) else none
theorem walk_Sorted.calls (A0 : Option Addr) (c0 : Nat) (l0 : List (List ByteArray)) (a1 : Bool) (r : List (List ByteArray)) (w : World) (hr0 : Kd.C (Kd.slice 9 Kd.string) w A0 l0.length l0) (hc0 : l0.length ≤ c0) (h : walk_Sorted.f l0 a1 = some r) :
    Calls Try.prog 23 #[.slice A0 l0.length c0, .bool a1] w fun e w' => ∃ v0_ : Value, e = .returned (v0_) ∧ Kd.N (Kd.slice 9 Kd.string) 22 w' w.heap.size (fun k_ => (w.heap.size ≤ k_)) v0_ r ∧ Below w.heap.size w w' := by
  unfold walk_Sorted.f at h
  split at h
  · rename_i hh
    obtain rfl := Option.some.inj h
    refine (sorted_any A0 l0.length c0 l0 a1 w rfl hr0 hc0 hh.1 hh.2).mono fun e w' q => ?_
    obtain ⟨A, c, ok, rfl, h1, h2, h3⟩ := q
    exact ⟨_, rfl, Kd.N_mono h1 (fun k hk => (h2 k hk).1), h3⟩
  · cases h
end Go.Proofs.Ytomhpfgibekmfaa.P
