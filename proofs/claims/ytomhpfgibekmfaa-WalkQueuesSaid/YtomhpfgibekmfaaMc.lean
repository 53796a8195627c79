/- Plain facts: paths put in one by one. No condition. -/
import Derived.Test.YtomhpfgibekmfaaMb
namespace Go.Proofs.Ytomhpfgibekmfaa.Pure
/-- One path more, in order. -/
def ins (d : Bool) (x : Pth) : List Pth → List Pth
  | [] => [x]
  | y :: S => if bf d y x = true then y :: ins d x S else x :: y :: S
def srt (d : Bool) : List Pth → List Pth → List Pth
  | S, [] => S
  | S, x :: l => srt d (ins d x S) l
theorem ins_perm' (d : Bool) (x : Pth) : ∀ S, (ins d x S).Perm (x :: S)
  | [] => List.Perm.refl _
  | y :: S => by
    unfold ins
    split
    · exact ((ins_perm' d x S).cons y).trans (List.Perm.swap x y S)
    · exact List.Perm.refl _
theorem ins_sorted' {d : Bool} {x : Pth} : ∀ {S}, S.Pairwise (le d) → (ins d x S).Pairwise (le d)
  | [], _ => List.pairwise_singleton _ _
  | y :: S, h => by
    unfold ins
    obtain ⟨h1, h2⟩ := List.pairwise_cons.1 h
    split
    · rename_i hb
      refine List.pairwise_cons.2 ⟨fun z hz => ?_, ins_sorted' h2⟩
      rcases List.mem_cons.1 ((ins_perm' d x S).mem_iff.1 hz) with rfl | hz
      · exact le_of hb
      · exact h1 z hz
    · rename_i hb
      have hxy : le d x y := by simpa [le] using hb
      exact List.pairwise_cons.2 ⟨fun z hz => by
        rcases List.mem_cons.1 hz with rfl | hz
        · exact hxy
        · exact le_trans hxy (h1 z hz), h⟩
theorem ins_length (d : Bool) (x : Pth) (S : List Pth) : (ins d x S).length = S.length + 1 := (ins_perm' d x S).length_eq
theorem srt_snoc (d : Bool) (x : Pth) : ∀ S l, srt d S (l ++ [x]) = ins d x (srt d S l)
  | _, [] => rfl
  | S, y :: l => srt_snoc d x (ins d y S) l
theorem srt_sorted {d : Bool} : ∀ (l S : List Pth), S.Pairwise (le d) → (srt d S l).Pairwise (le d)
  | [], _, h => h
  | _ :: l, _, h => srt_sorted l _ (ins_sorted' h)
theorem srt_length (d : Bool) : ∀ l S, (srt d S l).length = S.length + l.length
  | [], _ => rfl
  | x :: l, S => by rw [srt, srt_length d l, ins_length, List.length_cons]; omega
theorem srt_perm (d : Bool) : ∀ l S, (srt d S l).Perm (l ++ S)
  | [], _ => List.Perm.refl _
  | x :: l, S => (srt_perm d l (ins d x S)).trans (((ins_perm' d x S).append_left l).trans List.perm_middle)
end Go.Proofs.Ytomhpfgibekmfaa.Pure
