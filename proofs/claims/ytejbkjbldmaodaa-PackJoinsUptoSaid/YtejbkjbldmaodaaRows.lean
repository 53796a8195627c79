/-
  No cell of these rows narrows 'for every input' (looked for: loops, veiled, ifaces, maps, wideKeys, modest, calm, conditions, laid).
  DERIVED. THE GIVEN ROWS OF THIS SEAT. 7 by the template 'for every input the law returns true; each argument reads behind the call as it read before'; 0 by the template 'total and deterministic' (their statements: YtejbkjbldmaodaaTotals.lean).
  GIVEN WITH THE SEED: the statements are not yours to turn. If you find one false, say at which input.
  Laid BY PROGRAM, IN A SANDBOX (cutbox-rows.mjs): the forced cells as the released guide's own fill.sh prints them over the translation 85678c5c6614144b… (all of the seat's roots in one cut). By AI agents, Wed Nov 11 2026. No macro, syntax, notation, axiom, sorry.
-/
import Derived.Test.YtejbkjbldmaodaaChecked
import GoSem.Claim
import GoSem.ClaimJoined
import GoSem.ClaimMapViews
import Derived.JoinedTies
import Derived.KernelRfl
namespace Go.Proofs.Ytejbkjbldmaodaa
/- THE CELL 'sum', in the pinned program and in every row, IS THE sha256 OF THE DUMP (.gsa) THAT YtejbkjbldmaodaaProg.lean LOADS. Nothing in Lean hashes anything: it is a label: what it is worth is what the hold of that sum in a sandbox is worth. -/
noncomputable def Try.pinned : Pinned := { name := "ytejbkjbldmaodaa", sum := "85678c5c6614144bd654a4be0021a7d7cf7462bd37e3d99b589e76923997cb40", checked := Try.checked }
namespace Rows
def none {H : Type} : Left H := { results := [], args := [] }

/-- 'gessolaw11.PackPacks': WHATEVER THE INPUT: true; the input reads as it did. -/
def packPacksSpec : ChangeSpec := { name := "packPacks", fn := fun _ => fun
  | [d] => { results := [.lit (.bool true)], args := [d] }
  | _ => none }
def packPacksRow : OpenClaim := { program := "ytejbkjbldmaodaa", sum := "85678c5c6614144bd654a4be0021a7d7cf7462bd37e3d99b589e76923997cb40", func := "gesso/gessolaw11.PackPacks", spec := "packPacks", unfollowed := true, recurses := true, apart := false }
def PackPacksSaid : Prop := packPacksRow.holds Try.pinned (OpenSpec.ofChange packPacksSpec)

/-- ITS FALSE NEIGHBOUR: 'it returns false'. Refute it at one input. -/
def packPacksWrong : ChangeSpec := { name := "packPacks", fn := fun _ => fun
  | [d] => { results := [.lit (.bool false)], args := [d] }
  | _ => none }
def PackPacksWrongFalsely : Prop := packPacksRow.holds Try.pinned (OpenSpec.ofChange packPacksWrong)

/-- 'gessolaw11.PackNumbers': WHATEVER THE INPUT: true; the input reads as it did. -/
def packNumbersSpec : ChangeSpec := { name := "packNumbers", fn := fun _ => fun
  | [d1, d2] => { results := [.lit (.bool true)], args := [d1, d2] }
  | _ => none }
def packNumbersRow : OpenClaim := { program := "ytejbkjbldmaodaa", sum := "85678c5c6614144bd654a4be0021a7d7cf7462bd37e3d99b589e76923997cb40", func := "gesso/gessolaw11.PackNumbers", spec := "packNumbers", unfollowed := true, recurses := true, apart := false }
def PackNumbersSaid : Prop := packNumbersRow.holds Try.pinned (OpenSpec.ofChange packNumbersSpec)

/-- ITS FALSE NEIGHBOUR: 'it returns false'. Refute it at one input. -/
def packNumbersWrong : ChangeSpec := { name := "packNumbers", fn := fun _ => fun
  | [d1, d2] => { results := [.lit (.bool false)], args := [d1, d2] }
  | _ => none }
def PackNumbersWrongFalsely : Prop := packNumbersRow.holds Try.pinned (OpenSpec.ofChange packNumbersWrong)

/-- 'gessolaw11.PackUnpacks': WHATEVER THE INPUT: true; the input reads as it did. -/
def packUnpacksSpec : ChangeSpec := { name := "packUnpacks", fn := fun _ => fun
  | [d] => { results := [.lit (.bool true)], args := [d] }
  | _ => none }
def packUnpacksRow : OpenClaim := { program := "ytejbkjbldmaodaa", sum := "85678c5c6614144bd654a4be0021a7d7cf7462bd37e3d99b589e76923997cb40", func := "gesso/gessolaw11.PackUnpacks", spec := "packUnpacks", unfollowed := true, recurses := true, apart := false }
def PackUnpacksSaid : Prop := packUnpacksRow.holds Try.pinned (OpenSpec.ofChange packUnpacksSpec)

/-- ITS FALSE NEIGHBOUR: 'it returns false'. Refute it at one input. -/
def packUnpacksWrong : ChangeSpec := { name := "packUnpacks", fn := fun _ => fun
  | [d] => { results := [.lit (.bool false)], args := [d] }
  | _ => none }
def PackUnpacksWrongFalsely : Prop := packUnpacksRow.holds Try.pinned (OpenSpec.ofChange packUnpacksWrong)

/-- 'gessolaw11.PackBack': WHATEVER THE INPUT: true; the input reads as it did. -/
def packBackSpec : ChangeSpec := { name := "packBack", fn := fun _ => fun
  | [d1, d2] => { results := [.lit (.bool true)], args := [d1, d2] }
  | _ => none }
def packBackRow : OpenClaim := { program := "ytejbkjbldmaodaa", sum := "85678c5c6614144bd654a4be0021a7d7cf7462bd37e3d99b589e76923997cb40", func := "gesso/gessolaw11.PackBack", spec := "packBack", unfollowed := true, recurses := true, apart := false }
def PackBackSaid : Prop := packBackRow.holds Try.pinned (OpenSpec.ofChange packBackSpec)

/-- ITS FALSE NEIGHBOUR: 'it returns false'. Refute it at one input. -/
def packBackWrong : ChangeSpec := { name := "packBack", fn := fun _ => fun
  | [d1, d2] => { results := [.lit (.bool false)], args := [d1, d2] }
  | _ => none }
def PackBackWrongFalsely : Prop := packBackRow.holds Try.pinned (OpenSpec.ofChange packBackWrong)

/-- 'gessolaw11.PackJoins': WHATEVER THE INPUT: true; the input reads as it did. -/
def packJoinsSpec : ChangeSpec := { name := "packJoins", fn := fun _ => fun
  | [d1, d2, d3] => { results := [.lit (.bool true)], args := [d1, d2, d3] }
  | _ => none }
def packJoinsRow : OpenClaim := { program := "ytejbkjbldmaodaa", sum := "85678c5c6614144bd654a4be0021a7d7cf7462bd37e3d99b589e76923997cb40", func := "gesso/gessolaw11.PackJoins", spec := "packJoins", unfollowed := true, recurses := true, apart := false }
def PackJoinsSaid : Prop := packJoinsRow.holds Try.pinned (OpenSpec.ofChange packJoinsSpec)

/-- ITS FALSE NEIGHBOUR: 'it returns false'. Refute it at one input. -/
def packJoinsWrong : ChangeSpec := { name := "packJoins", fn := fun _ => fun
  | [d1, d2, d3] => { results := [.lit (.bool false)], args := [d1, d2, d3] }
  | _ => none }
def PackJoinsWrongFalsely : Prop := packJoinsRow.holds Try.pinned (OpenSpec.ofChange packJoinsWrong)

/-- 'gessolaw11.PackTexts': WHATEVER THE INPUT: true; the input reads as it did. -/
def packTextsSpec : ChangeSpec := { name := "packTexts", fn := fun _ => fun
  | [d1, d2] => { results := [.lit (.bool true)], args := [d1, d2] }
  | _ => none }
def packTextsRow : OpenClaim := { program := "ytejbkjbldmaodaa", sum := "85678c5c6614144bd654a4be0021a7d7cf7462bd37e3d99b589e76923997cb40", func := "gesso/gessolaw11.PackTexts", spec := "packTexts", unfollowed := true, recurses := true, apart := false }
def PackTextsSaid : Prop := packTextsRow.holds Try.pinned (OpenSpec.ofChange packTextsSpec)

/-- ITS FALSE NEIGHBOUR: 'it returns false'. Refute it at one input. -/
def packTextsWrong : ChangeSpec := { name := "packTexts", fn := fun _ => fun
  | [d1, d2] => { results := [.lit (.bool false)], args := [d1, d2] }
  | _ => none }
def PackTextsWrongFalsely : Prop := packTextsRow.holds Try.pinned (OpenSpec.ofChange packTextsWrong)

/-- 'gessolaw11.PackOrder': WHATEVER THE INPUT: true; the input reads as it did. -/
def packOrderSpec : ChangeSpec := { name := "packOrder", fn := fun _ => fun
  | [d1, d2, d3] => { results := [.lit (.bool true)], args := [d1, d2, d3] }
  | _ => none }
def packOrderRow : OpenClaim := { program := "ytejbkjbldmaodaa", sum := "85678c5c6614144bd654a4be0021a7d7cf7462bd37e3d99b589e76923997cb40", func := "gesso/gessolaw11.PackOrder", spec := "packOrder", unfollowed := true, recurses := true, apart := false }
def PackOrderSaid : Prop := packOrderRow.holds Try.pinned (OpenSpec.ofChange packOrderSpec)

/-- ITS FALSE NEIGHBOUR: 'it returns false'. Refute it at one input. -/
def packOrderWrong : ChangeSpec := { name := "packOrder", fn := fun _ => fun
  | [d1, d2, d3] => { results := [.lit (.bool false)], args := [d1, d2, d3] }
  | _ => none }
def PackOrderWrongFalsely : Prop := packOrderRow.holds Try.pinned (OpenSpec.ofChange packOrderWrong)

/- THE SECOND FORM. 'bulk': how many values and letters a reading holds, each counted each time it is reached (what is shared counts as often as it is met; a slice's spare places count too). A statement '..UptoSaid' is the law's where the arguments, and the package variables that the reading takes, are together of bulk at most 1048576: NARROWER than '..Said'. Prove '..Said' where nothing that the law and all that it calls make is longer than what came in: it says more and counts as full. Else prove '..UptoSaid'. A law counts once. -/
mutual
def uptoBulk {H : Type} : DataW H → Nat
  | .lit (.string bytes) => bytes.length + 1
  | .lit _ => 1
  | .nil => 1
  | .ptr d => uptoBulk d + 1
  | .slice elems spare => uptoBulkAll elems + uptoBulkAll spare + 1
  | .agg parts => uptoBulkAll parts + 1
  | .iface _ d => uptoBulk d + 1
  | .map entries => uptoBulkEntries entries + 1
  | .held _ => 1
def uptoBulkAll {H : Type} : List (DataW H) → Nat
  | [] => 0
  | d :: r => uptoBulk d + uptoBulkAll r
def uptoBulkEntries {H : Type} : List (Lit × DataW H) → Nat
  | [] => 0
  | x :: r => uptoBulkEntry x + uptoBulkEntries r
def uptoBulkEntry {H : Type} : Lit × DataW H → Nat
  | (.string bytes, d) => bytes.length + uptoBulk d + 1
  | (_, d) => uptoBulk d + 1
 end
def uptoSmall : (H : Type) → List (DataW H) → Bool := fun _ ds => decide (uptoBulkAll ds ≤ 1048576)
def OpenSpec.upto (s : _root_.Go.ChangeSpec) : _root_.Go.OpenSpec := { _root_.Go.OpenSpec.ofChange s with cond := some uptoSmall }

/-- 'gessolaw11.PackPacks', WHERE WHAT IT READS IS OF BULK AT MOST 1048576: true; the input reads as it did. -/
def packPacksUptoRow : OpenClaim := { program := "ytejbkjbldmaodaa", sum := "85678c5c6614144bd654a4be0021a7d7cf7462bd37e3d99b589e76923997cb40", func := "gesso/gessolaw11.PackPacks", spec := "packPacks", unfollowed := true, recurses := true, apart := false, narrowed := true }
def PackPacksUptoSaid : Prop := packPacksUptoRow.holds Try.pinned (OpenSpec.upto packPacksSpec)

/-- 'gessolaw11.PackNumbers', WHERE WHAT IT READS IS OF BULK AT MOST 1048576: true; the input reads as it did. -/
def packNumbersUptoRow : OpenClaim := { program := "ytejbkjbldmaodaa", sum := "85678c5c6614144bd654a4be0021a7d7cf7462bd37e3d99b589e76923997cb40", func := "gesso/gessolaw11.PackNumbers", spec := "packNumbers", unfollowed := true, recurses := true, apart := false, narrowed := true }
def PackNumbersUptoSaid : Prop := packNumbersUptoRow.holds Try.pinned (OpenSpec.upto packNumbersSpec)

/-- 'gessolaw11.PackUnpacks', WHERE WHAT IT READS IS OF BULK AT MOST 1048576: true; the input reads as it did. -/
def packUnpacksUptoRow : OpenClaim := { program := "ytejbkjbldmaodaa", sum := "85678c5c6614144bd654a4be0021a7d7cf7462bd37e3d99b589e76923997cb40", func := "gesso/gessolaw11.PackUnpacks", spec := "packUnpacks", unfollowed := true, recurses := true, apart := false, narrowed := true }
def PackUnpacksUptoSaid : Prop := packUnpacksUptoRow.holds Try.pinned (OpenSpec.upto packUnpacksSpec)

/-- 'gessolaw11.PackBack', WHERE WHAT IT READS IS OF BULK AT MOST 1048576: true; the input reads as it did. -/
def packBackUptoRow : OpenClaim := { program := "ytejbkjbldmaodaa", sum := "85678c5c6614144bd654a4be0021a7d7cf7462bd37e3d99b589e76923997cb40", func := "gesso/gessolaw11.PackBack", spec := "packBack", unfollowed := true, recurses := true, apart := false, narrowed := true }
def PackBackUptoSaid : Prop := packBackUptoRow.holds Try.pinned (OpenSpec.upto packBackSpec)

/-- 'gessolaw11.PackJoins', WHERE WHAT IT READS IS OF BULK AT MOST 1048576: true; the input reads as it did. -/
def packJoinsUptoRow : OpenClaim := { program := "ytejbkjbldmaodaa", sum := "85678c5c6614144bd654a4be0021a7d7cf7462bd37e3d99b589e76923997cb40", func := "gesso/gessolaw11.PackJoins", spec := "packJoins", unfollowed := true, recurses := true, apart := false, narrowed := true }
def PackJoinsUptoSaid : Prop := packJoinsUptoRow.holds Try.pinned (OpenSpec.upto packJoinsSpec)

/-- 'gessolaw11.PackTexts', WHERE WHAT IT READS IS OF BULK AT MOST 1048576: true; the input reads as it did. -/
def packTextsUptoRow : OpenClaim := { program := "ytejbkjbldmaodaa", sum := "85678c5c6614144bd654a4be0021a7d7cf7462bd37e3d99b589e76923997cb40", func := "gesso/gessolaw11.PackTexts", spec := "packTexts", unfollowed := true, recurses := true, apart := false, narrowed := true }
def PackTextsUptoSaid : Prop := packTextsUptoRow.holds Try.pinned (OpenSpec.upto packTextsSpec)

/-- 'gessolaw11.PackOrder', WHERE WHAT IT READS IS OF BULK AT MOST 1048576: true; the input reads as it did. -/
def packOrderUptoRow : OpenClaim := { program := "ytejbkjbldmaodaa", sum := "85678c5c6614144bd654a4be0021a7d7cf7462bd37e3d99b589e76923997cb40", func := "gesso/gessolaw11.PackOrder", spec := "packOrder", unfollowed := true, recurses := true, apart := false, narrowed := true }
def PackOrderUptoSaid : Prop := packOrderUptoRow.holds Try.pinned (OpenSpec.upto packOrderSpec)

end Rows
end Go.Proofs.Ytejbkjbldmaodaa
