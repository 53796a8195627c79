/- What the rows' lists give: the two tables of unicode/utf8 lie in the world; and a world for the witness. No condition. -/
import Derived.Test.YtjlhehaagaaihaaDoorCards
import Derived.Test.YtjlhehaagaaihaaDoorTie
import Derived.Test.YtjlhehaagaaihaaDoorEa
import Derived.Lib.LaidU8T
import Derived.Deep.DeepHandedRow
import Derived.ProofKit
import Derived.KernelRfl
namespace Go.Proofs.YtjlhehaagaaihaaDoor.Door
open Go.Lib Go.Shelf

/-- What the rows list. -/
def list2 : List (String × DataW Unit) := [("unicode/utf8.acceptRanges", Rows.laid_unicode_utf8_acceptRanges), ("unicode/utf8.first", Rows.laid_unicode_utf8_first)]
/-- The numbers of this program beside those of the shelf. -/
def nums : Ren := ⟨fun x => x, fun t => if t = 119 then 87 else if t = 138 then 89 else if t = 139 then 90 else t, fun g => if g = 3 then 0 else 1⟩
theorem first_eq : Rows.laid_unicode_utf8_first = firstData := by kernel_rfl
theorem accept_eq : (Rows.laid_unicode_utf8_acceptRanges : DataW Unit) = acceptData := by kernel_rfl
theorem types : U8Types Tryd.prog nums := ⟨Tryd.underlying5, Tryd.underlying87, Tryd.underlying89, Tryd.underlying90⟩
theorem extra : U8Extra Tryd.prog nums := ⟨by kernel_rfl, by kernel_rfl, by kernel_rfl, by kernel_rfl, by kernel_rfl, by kernel_rfl, by kernel_rfl⟩
theorem tabs {W : World} (h : laidMetH Tryd.prog list2 W) : P.Tabs W := by
  have h3 : VarReads Tryd.prog W "unicode/utf8.first" firstData := by rw [← first_eq]; exact Lib.laidMet.reads h (.tail _ (.head _))
  have h4 : VarReads Tryd.prog W "unicode/utf8.acceptRanges" acceptData := by rw [← accept_eq]; exact Lib.laidMet.reads h (.head _)
  exact utf8Tabs_of_readsT types extra h3 h4

/-- A world for the witness: the settled one, the two tables holding what their initialisers lay. -/
noncomputable def laidWorld (os : Os) : World :=
  { World.holding Tryd.prog os ⟨#[], #[], []⟩ with heap := (((World.holding Tryd.prog os ⟨#[], #[], []⟩).heap.modify 0 fun
      | .cells _ t frozen => .cells (firstTab.map (Value.int .u8)).toArray t frozen
      | o => o).modify 1 fun
      | .cells _ t frozen => .cells ((List.range 16).flatMap fun i => [Value.int .u8 (accLo i), Value.int .u8 (accHi i)]).toArray t frozen
      | o => o) }
end Go.Proofs.YtjlhehaagaaihaaDoor.Door
