/-
  NARROWER THAN 'FOR EVERY INPUT', by the rows' own cells (each row's printed sentence says how): CodeBack: laid · CodeCuts: laid · CodeOnes: laid · CodeJoins: laid · CodePuts: laid · CodeWidths: laid · CodeBytes: laid · ScanOpens: laid · ScanFeeds: laid · ScanStays: laid · ScanBytes: laid · CodeCodes: laid · ScanGoes: laid · ScanCuts: laid.
  DERIVED. THE GIVEN ROWS OF THIS SEAT. 14 by the template 'for every input the law returns true; each argument reads behind the call as it read before'; 0 by the template 'total and deterministic' (their statements: YtjlhehaagaaihaaDoorTotals.lean).
  GIVEN WITH THE SEED: the statements are not yours to turn. If you find one false, say at which input.
  Laid BY PROGRAM, IN A SANDBOX (cutbox-rows.mjs): the forced cells as the released guide's own fill.sh prints them over the translation 76cc6d58e049d907… (all of the seat's roots in one cut). By AI agents, Wed Nov 11 2026. No macro, syntax, notation, axiom, sorry.
-/
import Derived.Test.YtjlhehaagaaihaaDoorChecked
import GoSem.PinnedTables
import GoSem.Claim
import GoSem.ClaimJoined
import GoSem.ClaimMapViews
import Derived.JoinedTies
import Derived.KernelRfl
namespace Go.Proofs.YtjlhehaagaaihaaDoor
/- THE CELL 'sum', in the pinned program and in every row, IS THE sha256 OF THE DUMP (.gsa) THAT YtjlhehaagaaihaaDoorProg.lean LOADS. Nothing in Lean hashes anything: it is a label: what it is worth is what the hold of that sum in a sandbox is worth. -/
noncomputable def Tryd.pinned : Pinned := { name := "ytjlhehaagaaihaadoor", sum := "76cc6d58e049d9072fc697df40d4dc3fec4c33454f0e3bc9cc4ef022a01118de", checked := Tryd.checked }
namespace Rows
def none {H : Type} : Left H := { results := [], args := [] }

/- WHAT THE LISTED PACKAGE-LEVEL VARIABLES READ AS WHEN THE CALL BEGINS. Each datum BY PROGRAM (the guide's laid-datum.mjs) off the statement by which the dump's own 'gosem.cut.vars' lays the variable. In a bare row this is a premise. The card (YtjlhehaagaaihaaDoorCards.lean) ties it to the program's text. -/
def laid_unicode_utf8_acceptRanges {H : Type} : DataW H := .agg [.agg [.lit (.int .u8 128), .lit (.int .u8 191)], .agg [.lit (.int .u8 160), .lit (.int .u8 191)], .agg [.lit (.int .u8 128), .lit (.int .u8 159)], .agg [.lit (.int .u8 144), .lit (.int .u8 191)], .agg [.lit (.int .u8 128), .lit (.int .u8 143)], .agg [.lit (.int .u8 0), .lit (.int .u8 0)], .agg [.lit (.int .u8 0), .lit (.int .u8 0)], .agg [.lit (.int .u8 0), .lit (.int .u8 0)], .agg [.lit (.int .u8 0), .lit (.int .u8 0)], .agg [.lit (.int .u8 0), .lit (.int .u8 0)], .agg [.lit (.int .u8 0), .lit (.int .u8 0)], .agg [.lit (.int .u8 0), .lit (.int .u8 0)], .agg [.lit (.int .u8 0), .lit (.int .u8 0)], .agg [.lit (.int .u8 0), .lit (.int .u8 0)], .agg [.lit (.int .u8 0), .lit (.int .u8 0)], .agg [.lit (.int .u8 0), .lit (.int .u8 0)]]
/-- One of Go's own tables, pinned by name: the form's constant. -/
def laid_unicode_utf8_first : DataW Unit := Go.Pinned.utf8First

/-- 'gessolaw01.CodeBack': WHATEVER THE INPUT: true; the input reads as it did. -/
def codeBackSpec : ChangeSpec := { name := "codeBack", fn := fun _ => fun
  | [d1, d2] => { results := [.lit (.bool true)], args := [d1, d2] }
  | _ => none }
def codeBackRow : OpenClaim := { program := "ytjlhehaagaaihaadoor", sum := "76cc6d58e049d9072fc697df40d4dc3fec4c33454f0e3bc9cc4ef022a01118de", func := "gesso/gessolaw01.CodeBack", spec := "codeBack", named := ["unicode/utf8.first", "unicode/utf8.acceptRanges"], apart := false, laid := [("unicode/utf8.acceptRanges", laid_unicode_utf8_acceptRanges), ("unicode/utf8.first", laid_unicode_utf8_first)] }
def CodeBackSaid : Prop := codeBackRow.holds Tryd.pinned (OpenSpec.ofChange codeBackSpec)

/-- ITS FALSE NEIGHBOUR: 'it returns false'. Refute it at one input. -/
def codeBackWrong : ChangeSpec := { name := "codeBack", fn := fun _ => fun
  | [d1, d2] => { results := [.lit (.bool false)], args := [d1, d2] }
  | _ => none }
def CodeBackWrongFalsely : Prop := codeBackRow.holds Tryd.pinned (OpenSpec.ofChange codeBackWrong)

/-- 'gessolaw01.CodeCuts': WHATEVER THE INPUT: true; the input reads as it did. -/
def codeCutsSpec : ChangeSpec := { name := "codeCuts", fn := fun _ => fun
  | [d1, d2] => { results := [.lit (.bool true)], args := [d1, d2] }
  | _ => none }
def codeCutsRow : OpenClaim := { program := "ytjlhehaagaaihaadoor", sum := "76cc6d58e049d9072fc697df40d4dc3fec4c33454f0e3bc9cc4ef022a01118de", func := "gesso/gessolaw01.CodeCuts", spec := "codeCuts", named := ["unicode/utf8.first", "unicode/utf8.acceptRanges"], apart := false, laid := [("unicode/utf8.acceptRanges", laid_unicode_utf8_acceptRanges), ("unicode/utf8.first", laid_unicode_utf8_first)] }
def CodeCutsSaid : Prop := codeCutsRow.holds Tryd.pinned (OpenSpec.ofChange codeCutsSpec)

/-- ITS FALSE NEIGHBOUR: 'it returns false'. Refute it at one input. -/
def codeCutsWrong : ChangeSpec := { name := "codeCuts", fn := fun _ => fun
  | [d1, d2] => { results := [.lit (.bool false)], args := [d1, d2] }
  | _ => none }
def CodeCutsWrongFalsely : Prop := codeCutsRow.holds Tryd.pinned (OpenSpec.ofChange codeCutsWrong)

/-- 'gessolaw01.CodeOnes': WHATEVER THE INPUT: true; the input reads as it did. -/
def codeOnesSpec : ChangeSpec := { name := "codeOnes", fn := fun _ => fun
  | [d] => { results := [.lit (.bool true)], args := [d] }
  | _ => none }
def codeOnesRow : OpenClaim := { program := "ytjlhehaagaaihaadoor", sum := "76cc6d58e049d9072fc697df40d4dc3fec4c33454f0e3bc9cc4ef022a01118de", func := "gesso/gessolaw01.CodeOnes", spec := "codeOnes", named := ["unicode/utf8.first", "unicode/utf8.acceptRanges"], apart := false, laid := [("unicode/utf8.acceptRanges", laid_unicode_utf8_acceptRanges), ("unicode/utf8.first", laid_unicode_utf8_first)] }
def CodeOnesSaid : Prop := codeOnesRow.holds Tryd.pinned (OpenSpec.ofChange codeOnesSpec)

/-- ITS FALSE NEIGHBOUR: 'it returns false'. Refute it at one input. -/
def codeOnesWrong : ChangeSpec := { name := "codeOnes", fn := fun _ => fun
  | [d] => { results := [.lit (.bool false)], args := [d] }
  | _ => none }
def CodeOnesWrongFalsely : Prop := codeOnesRow.holds Tryd.pinned (OpenSpec.ofChange codeOnesWrong)

/-- 'gessolaw01.CodeJoins': WHATEVER THE INPUT: true; the input reads as it did. -/
def codeJoinsSpec : ChangeSpec := { name := "codeJoins", fn := fun _ => fun
  | [d1, d2] => { results := [.lit (.bool true)], args := [d1, d2] }
  | _ => none }
def codeJoinsRow : OpenClaim := { program := "ytjlhehaagaaihaadoor", sum := "76cc6d58e049d9072fc697df40d4dc3fec4c33454f0e3bc9cc4ef022a01118de", func := "gesso/gessolaw01.CodeJoins", spec := "codeJoins", named := ["unicode/utf8.first", "unicode/utf8.acceptRanges"], apart := false, laid := [("unicode/utf8.acceptRanges", laid_unicode_utf8_acceptRanges), ("unicode/utf8.first", laid_unicode_utf8_first)] }
def CodeJoinsSaid : Prop := codeJoinsRow.holds Tryd.pinned (OpenSpec.ofChange codeJoinsSpec)

/-- ITS FALSE NEIGHBOUR: 'it returns false'. Refute it at one input. -/
def codeJoinsWrong : ChangeSpec := { name := "codeJoins", fn := fun _ => fun
  | [d1, d2] => { results := [.lit (.bool false)], args := [d1, d2] }
  | _ => none }
def CodeJoinsWrongFalsely : Prop := codeJoinsRow.holds Tryd.pinned (OpenSpec.ofChange codeJoinsWrong)

/-- 'gessolaw01.CodePuts': WHATEVER THE INPUT: true; the input reads as it did. -/
def codePutsSpec : ChangeSpec := { name := "codePuts", fn := fun _ => fun
  | [d] => { results := [.lit (.bool true)], args := [d] }
  | _ => none }
def codePutsRow : OpenClaim := { program := "ytjlhehaagaaihaadoor", sum := "76cc6d58e049d9072fc697df40d4dc3fec4c33454f0e3bc9cc4ef022a01118de", func := "gesso/gessolaw01.CodePuts", spec := "codePuts", named := ["unicode/utf8.first", "unicode/utf8.acceptRanges"], apart := false, laid := [("unicode/utf8.acceptRanges", laid_unicode_utf8_acceptRanges), ("unicode/utf8.first", laid_unicode_utf8_first)] }
def CodePutsSaid : Prop := codePutsRow.holds Tryd.pinned (OpenSpec.ofChange codePutsSpec)

/-- ITS FALSE NEIGHBOUR: 'it returns false'. Refute it at one input. -/
def codePutsWrong : ChangeSpec := { name := "codePuts", fn := fun _ => fun
  | [d] => { results := [.lit (.bool false)], args := [d] }
  | _ => none }
def CodePutsWrongFalsely : Prop := codePutsRow.holds Tryd.pinned (OpenSpec.ofChange codePutsWrong)

/-- 'gessolaw01.CodeWidths': WHATEVER THE INPUT: true; the input reads as it did. -/
def codeWidthsSpec : ChangeSpec := { name := "codeWidths", fn := fun _ => fun
  | [d1, d2] => { results := [.lit (.bool true)], args := [d1, d2] }
  | _ => none }
def codeWidthsRow : OpenClaim := { program := "ytjlhehaagaaihaadoor", sum := "76cc6d58e049d9072fc697df40d4dc3fec4c33454f0e3bc9cc4ef022a01118de", func := "gesso/gessolaw01.CodeWidths", spec := "codeWidths", named := ["unicode/utf8.first", "unicode/utf8.acceptRanges"], apart := false, laid := [("unicode/utf8.acceptRanges", laid_unicode_utf8_acceptRanges), ("unicode/utf8.first", laid_unicode_utf8_first)] }
def CodeWidthsSaid : Prop := codeWidthsRow.holds Tryd.pinned (OpenSpec.ofChange codeWidthsSpec)

/-- ITS FALSE NEIGHBOUR: 'it returns false'. Refute it at one input. -/
def codeWidthsWrong : ChangeSpec := { name := "codeWidths", fn := fun _ => fun
  | [d1, d2] => { results := [.lit (.bool false)], args := [d1, d2] }
  | _ => none }
def CodeWidthsWrongFalsely : Prop := codeWidthsRow.holds Tryd.pinned (OpenSpec.ofChange codeWidthsWrong)

/-- 'gessolaw01.CodeBytes': WHATEVER THE INPUT: true; the input reads as it did. -/
def codeBytesSpec : ChangeSpec := { name := "codeBytes", fn := fun _ => fun
  | [d] => { results := [.lit (.bool true)], args := [d] }
  | _ => none }
def codeBytesRow : OpenClaim := { program := "ytjlhehaagaaihaadoor", sum := "76cc6d58e049d9072fc697df40d4dc3fec4c33454f0e3bc9cc4ef022a01118de", func := "gesso/gessolaw01.CodeBytes", spec := "codeBytes", named := ["unicode/utf8.first", "unicode/utf8.acceptRanges"], apart := false, laid := [("unicode/utf8.acceptRanges", laid_unicode_utf8_acceptRanges), ("unicode/utf8.first", laid_unicode_utf8_first)] }
def CodeBytesSaid : Prop := codeBytesRow.holds Tryd.pinned (OpenSpec.ofChange codeBytesSpec)

/-- ITS FALSE NEIGHBOUR: 'it returns false'. Refute it at one input. -/
def codeBytesWrong : ChangeSpec := { name := "codeBytes", fn := fun _ => fun
  | [d] => { results := [.lit (.bool false)], args := [d] }
  | _ => none }
def CodeBytesWrongFalsely : Prop := codeBytesRow.holds Tryd.pinned (OpenSpec.ofChange codeBytesWrong)

/-- 'gessolaw02.ScanOpens': WHATEVER THE INPUT: true; the input reads as it did. -/
def scanOpensSpec : ChangeSpec := { name := "scanOpens", fn := fun _ => fun
  | [d] => { results := [.lit (.bool true)], args := [d] }
  | _ => none }
def scanOpensRow : OpenClaim := { program := "ytjlhehaagaaihaadoor", sum := "76cc6d58e049d9072fc697df40d4dc3fec4c33454f0e3bc9cc4ef022a01118de", func := "gesso/gessolaw02.ScanOpens", spec := "scanOpens", unfollowed := true, recurses := true, named := ["unicode/utf8.first", "unicode/utf8.acceptRanges"], apart := false, laid := [("unicode/utf8.acceptRanges", laid_unicode_utf8_acceptRanges), ("unicode/utf8.first", laid_unicode_utf8_first)] }
def ScanOpensSaid : Prop := scanOpensRow.holds Tryd.pinned (OpenSpec.ofChange scanOpensSpec)

/-- ITS FALSE NEIGHBOUR: 'it returns false'. Refute it at one input. -/
def scanOpensWrong : ChangeSpec := { name := "scanOpens", fn := fun _ => fun
  | [d] => { results := [.lit (.bool false)], args := [d] }
  | _ => none }
def ScanOpensWrongFalsely : Prop := scanOpensRow.holds Tryd.pinned (OpenSpec.ofChange scanOpensWrong)

/-- 'gessolaw02.ScanFeeds': WHATEVER THE INPUT: true; the input reads as it did. -/
def scanFeedsSpec : ChangeSpec := { name := "scanFeeds", fn := fun _ => fun
  | [d] => { results := [.lit (.bool true)], args := [d] }
  | _ => none }
def scanFeedsRow : OpenClaim := { program := "ytjlhehaagaaihaadoor", sum := "76cc6d58e049d9072fc697df40d4dc3fec4c33454f0e3bc9cc4ef022a01118de", func := "gesso/gessolaw02.ScanFeeds", spec := "scanFeeds", unfollowed := true, recurses := true, named := ["unicode/utf8.first", "unicode/utf8.acceptRanges"], apart := false, laid := [("unicode/utf8.acceptRanges", laid_unicode_utf8_acceptRanges), ("unicode/utf8.first", laid_unicode_utf8_first)] }
def ScanFeedsSaid : Prop := scanFeedsRow.holds Tryd.pinned (OpenSpec.ofChange scanFeedsSpec)

/-- ITS FALSE NEIGHBOUR: 'it returns false'. Refute it at one input. -/
def scanFeedsWrong : ChangeSpec := { name := "scanFeeds", fn := fun _ => fun
  | [d] => { results := [.lit (.bool false)], args := [d] }
  | _ => none }
def ScanFeedsWrongFalsely : Prop := scanFeedsRow.holds Tryd.pinned (OpenSpec.ofChange scanFeedsWrong)

/-- 'gessolaw02.ScanStays': WHATEVER THE INPUT: true; the input reads as it did. -/
def scanStaysSpec : ChangeSpec := { name := "scanStays", fn := fun _ => fun
  | [d1, d2] => { results := [.lit (.bool true)], args := [d1, d2] }
  | _ => none }
def scanStaysRow : OpenClaim := { program := "ytjlhehaagaaihaadoor", sum := "76cc6d58e049d9072fc697df40d4dc3fec4c33454f0e3bc9cc4ef022a01118de", func := "gesso/gessolaw02.ScanStays", spec := "scanStays", unfollowed := true, recurses := true, named := ["unicode/utf8.first", "unicode/utf8.acceptRanges"], apart := false, laid := [("unicode/utf8.acceptRanges", laid_unicode_utf8_acceptRanges), ("unicode/utf8.first", laid_unicode_utf8_first)] }
def ScanStaysSaid : Prop := scanStaysRow.holds Tryd.pinned (OpenSpec.ofChange scanStaysSpec)

/-- ITS FALSE NEIGHBOUR: 'it returns false'. Refute it at one input. -/
def scanStaysWrong : ChangeSpec := { name := "scanStays", fn := fun _ => fun
  | [d1, d2] => { results := [.lit (.bool false)], args := [d1, d2] }
  | _ => none }
def ScanStaysWrongFalsely : Prop := scanStaysRow.holds Tryd.pinned (OpenSpec.ofChange scanStaysWrong)

/-- 'gessolaw02.ScanBytes': WHATEVER THE INPUT: true; the input reads as it did. -/
def scanBytesSpec : ChangeSpec := { name := "scanBytes", fn := fun _ => fun
  | [d] => { results := [.lit (.bool true)], args := [d] }
  | _ => none }
def scanBytesRow : OpenClaim := { program := "ytjlhehaagaaihaadoor", sum := "76cc6d58e049d9072fc697df40d4dc3fec4c33454f0e3bc9cc4ef022a01118de", func := "gesso/gessolaw02.ScanBytes", spec := "scanBytes", unfollowed := true, recurses := true, named := ["unicode/utf8.first", "unicode/utf8.acceptRanges"], apart := false, laid := [("unicode/utf8.acceptRanges", laid_unicode_utf8_acceptRanges), ("unicode/utf8.first", laid_unicode_utf8_first)] }
def ScanBytesSaid : Prop := scanBytesRow.holds Tryd.pinned (OpenSpec.ofChange scanBytesSpec)

/-- ITS FALSE NEIGHBOUR: 'it returns false'. Refute it at one input. -/
def scanBytesWrong : ChangeSpec := { name := "scanBytes", fn := fun _ => fun
  | [d] => { results := [.lit (.bool false)], args := [d] }
  | _ => none }
def ScanBytesWrongFalsely : Prop := scanBytesRow.holds Tryd.pinned (OpenSpec.ofChange scanBytesWrong)

/-- 'gessolaw01.CodeCodes': WHATEVER THE INPUT: true; the input reads as it did. -/
def codeCodesSpec : ChangeSpec := { name := "codeCodes", fn := fun _ => fun
  | [d] => { results := [.lit (.bool true)], args := [d] }
  | _ => none }
def codeCodesRow : OpenClaim := { program := "ytjlhehaagaaihaadoor", sum := "76cc6d58e049d9072fc697df40d4dc3fec4c33454f0e3bc9cc4ef022a01118de", func := "gesso/gessolaw01.CodeCodes", spec := "codeCodes", named := ["unicode/utf8.first", "unicode/utf8.acceptRanges"], apart := false, laid := [("unicode/utf8.acceptRanges", laid_unicode_utf8_acceptRanges), ("unicode/utf8.first", laid_unicode_utf8_first)] }
def CodeCodesSaid : Prop := codeCodesRow.holds Tryd.pinned (OpenSpec.ofChange codeCodesSpec)

/-- ITS FALSE NEIGHBOUR: 'it returns false'. Refute it at one input. -/
def codeCodesWrong : ChangeSpec := { name := "codeCodes", fn := fun _ => fun
  | [d] => { results := [.lit (.bool false)], args := [d] }
  | _ => none }
def CodeCodesWrongFalsely : Prop := codeCodesRow.holds Tryd.pinned (OpenSpec.ofChange codeCodesWrong)

/-- 'gessolaw02.ScanGoes': WHATEVER THE INPUT: true; the input reads as it did. -/
def scanGoesSpec : ChangeSpec := { name := "scanGoes", fn := fun _ => fun
  | [d1, d2] => { results := [.lit (.bool true)], args := [d1, d2] }
  | _ => none }
def scanGoesRow : OpenClaim := { program := "ytjlhehaagaaihaadoor", sum := "76cc6d58e049d9072fc697df40d4dc3fec4c33454f0e3bc9cc4ef022a01118de", func := "gesso/gessolaw02.ScanGoes", spec := "scanGoes", unfollowed := true, recurses := true, named := ["unicode/utf8.first", "unicode/utf8.acceptRanges"], apart := false, laid := [("unicode/utf8.acceptRanges", laid_unicode_utf8_acceptRanges), ("unicode/utf8.first", laid_unicode_utf8_first)] }
def ScanGoesSaid : Prop := scanGoesRow.holds Tryd.pinned (OpenSpec.ofChange scanGoesSpec)

/-- ITS FALSE NEIGHBOUR: 'it returns false'. Refute it at one input. -/
def scanGoesWrong : ChangeSpec := { name := "scanGoes", fn := fun _ => fun
  | [d1, d2] => { results := [.lit (.bool false)], args := [d1, d2] }
  | _ => none }
def ScanGoesWrongFalsely : Prop := scanGoesRow.holds Tryd.pinned (OpenSpec.ofChange scanGoesWrong)

/-- 'gessolaw02.ScanCuts': WHATEVER THE INPUT: true; the input reads as it did. -/
def scanCutsSpec : ChangeSpec := { name := "scanCuts", fn := fun _ => fun
  | [d1, d2] => { results := [.lit (.bool true)], args := [d1, d2] }
  | _ => none }
def scanCutsRow : OpenClaim := { program := "ytjlhehaagaaihaadoor", sum := "76cc6d58e049d9072fc697df40d4dc3fec4c33454f0e3bc9cc4ef022a01118de", func := "gesso/gessolaw02.ScanCuts", spec := "scanCuts", unfollowed := true, recurses := true, named := ["unicode/utf8.first", "unicode/utf8.acceptRanges"], apart := false, laid := [("unicode/utf8.acceptRanges", laid_unicode_utf8_acceptRanges), ("unicode/utf8.first", laid_unicode_utf8_first)] }
def ScanCutsSaid : Prop := scanCutsRow.holds Tryd.pinned (OpenSpec.ofChange scanCutsSpec)

/-- ITS FALSE NEIGHBOUR: 'it returns false'. Refute it at one input. -/
def scanCutsWrong : ChangeSpec := { name := "scanCuts", fn := fun _ => fun
  | [d1, d2] => { results := [.lit (.bool false)], args := [d1, d2] }
  | _ => none }
def ScanCutsWrongFalsely : Prop := scanCutsRow.holds Tryd.pinned (OpenSpec.ofChange scanCutsWrong)

/- THE SECOND FORM. 'bulk': how many values and letters a reading holds, each counted each time it is reached (what is shared counts as often as it is met; a slice's spare places count too). A statement '..UptoSaid' is the law's where the arguments, and the package variables that the reading takes, are together of bulk at most 1048576: NARROWER than '..Said'. Prove '..Said' where nothing that the law and all that it calls make is longer than what came in: it says more and counts as full. Else prove '..UptoSaid'. A law counts once. -/
mutual
def uptoBulk {H : Type} : DataW H → Nat
  | .lit (.string bytes) => bytes.length + 1
  | .lit _ => 1
  | .nil => 1
  | .ptr d => uptoBulk d + 1
  | .slice elems spare => uptoBulkAll elems + uptoBulkAll spare + 1
  | .agg parts => uptoBulkAll parts + 1
  | .iface _ d => uptoBulk d + 1
  | .map entries => uptoBulkEntries entries + 1
  | .held _ => 1
def uptoBulkAll {H : Type} : List (DataW H) → Nat
  | [] => 0
  | d :: r => uptoBulk d + uptoBulkAll r
def uptoBulkEntries {H : Type} : List (Lit × DataW H) → Nat
  | [] => 0
  | x :: r => uptoBulkEntry x + uptoBulkEntries r
def uptoBulkEntry {H : Type} : Lit × DataW H → Nat
  | (.string bytes, d) => bytes.length + uptoBulk d + 1
  | (_, d) => uptoBulk d + 1
 end
def uptoSmall : (H : Type) → List (DataW H) → Bool := fun _ ds => decide (uptoBulkAll ds ≤ 1048576)
def OpenSpec.upto (s : _root_.Go.ChangeSpec) : _root_.Go.OpenSpec := { _root_.Go.OpenSpec.ofChange s with cond := some uptoSmall }

/-- 'gessolaw01.CodeBack', WHERE WHAT IT READS IS OF BULK AT MOST 1048576: true; the input reads as it did. -/
def codeBackUptoRow : OpenClaim := { program := "ytjlhehaagaaihaadoor", sum := "76cc6d58e049d9072fc697df40d4dc3fec4c33454f0e3bc9cc4ef022a01118de", func := "gesso/gessolaw01.CodeBack", spec := "codeBack", named := ["unicode/utf8.first", "unicode/utf8.acceptRanges"], apart := false, laid := [("unicode/utf8.acceptRanges", laid_unicode_utf8_acceptRanges), ("unicode/utf8.first", laid_unicode_utf8_first)], narrowed := true }
def CodeBackUptoSaid : Prop := codeBackUptoRow.holds Tryd.pinned (OpenSpec.upto codeBackSpec)

/-- 'gessolaw01.CodeCuts', WHERE WHAT IT READS IS OF BULK AT MOST 1048576: true; the input reads as it did. -/
def codeCutsUptoRow : OpenClaim := { program := "ytjlhehaagaaihaadoor", sum := "76cc6d58e049d9072fc697df40d4dc3fec4c33454f0e3bc9cc4ef022a01118de", func := "gesso/gessolaw01.CodeCuts", spec := "codeCuts", named := ["unicode/utf8.first", "unicode/utf8.acceptRanges"], apart := false, laid := [("unicode/utf8.acceptRanges", laid_unicode_utf8_acceptRanges), ("unicode/utf8.first", laid_unicode_utf8_first)], narrowed := true }
def CodeCutsUptoSaid : Prop := codeCutsUptoRow.holds Tryd.pinned (OpenSpec.upto codeCutsSpec)

/-- 'gessolaw01.CodeOnes', WHERE WHAT IT READS IS OF BULK AT MOST 1048576: true; the input reads as it did. -/
def codeOnesUptoRow : OpenClaim := { program := "ytjlhehaagaaihaadoor", sum := "76cc6d58e049d9072fc697df40d4dc3fec4c33454f0e3bc9cc4ef022a01118de", func := "gesso/gessolaw01.CodeOnes", spec := "codeOnes", named := ["unicode/utf8.first", "unicode/utf8.acceptRanges"], apart := false, laid := [("unicode/utf8.acceptRanges", laid_unicode_utf8_acceptRanges), ("unicode/utf8.first", laid_unicode_utf8_first)], narrowed := true }
def CodeOnesUptoSaid : Prop := codeOnesUptoRow.holds Tryd.pinned (OpenSpec.upto codeOnesSpec)

/-- 'gessolaw01.CodeJoins', WHERE WHAT IT READS IS OF BULK AT MOST 1048576: true; the input reads as it did. -/
def codeJoinsUptoRow : OpenClaim := { program := "ytjlhehaagaaihaadoor", sum := "76cc6d58e049d9072fc697df40d4dc3fec4c33454f0e3bc9cc4ef022a01118de", func := "gesso/gessolaw01.CodeJoins", spec := "codeJoins", named := ["unicode/utf8.first", "unicode/utf8.acceptRanges"], apart := false, laid := [("unicode/utf8.acceptRanges", laid_unicode_utf8_acceptRanges), ("unicode/utf8.first", laid_unicode_utf8_first)], narrowed := true }
def CodeJoinsUptoSaid : Prop := codeJoinsUptoRow.holds Tryd.pinned (OpenSpec.upto codeJoinsSpec)

/-- 'gessolaw01.CodePuts', WHERE WHAT IT READS IS OF BULK AT MOST 1048576: true; the input reads as it did. -/
def codePutsUptoRow : OpenClaim := { program := "ytjlhehaagaaihaadoor", sum := "76cc6d58e049d9072fc697df40d4dc3fec4c33454f0e3bc9cc4ef022a01118de", func := "gesso/gessolaw01.CodePuts", spec := "codePuts", named := ["unicode/utf8.first", "unicode/utf8.acceptRanges"], apart := false, laid := [("unicode/utf8.acceptRanges", laid_unicode_utf8_acceptRanges), ("unicode/utf8.first", laid_unicode_utf8_first)], narrowed := true }
def CodePutsUptoSaid : Prop := codePutsUptoRow.holds Tryd.pinned (OpenSpec.upto codePutsSpec)

/-- 'gessolaw01.CodeWidths', WHERE WHAT IT READS IS OF BULK AT MOST 1048576: true; the input reads as it did. -/
def codeWidthsUptoRow : OpenClaim := { program := "ytjlhehaagaaihaadoor", sum := "76cc6d58e049d9072fc697df40d4dc3fec4c33454f0e3bc9cc4ef022a01118de", func := "gesso/gessolaw01.CodeWidths", spec := "codeWidths", named := ["unicode/utf8.first", "unicode/utf8.acceptRanges"], apart := false, laid := [("unicode/utf8.acceptRanges", laid_unicode_utf8_acceptRanges), ("unicode/utf8.first", laid_unicode_utf8_first)], narrowed := true }
def CodeWidthsUptoSaid : Prop := codeWidthsUptoRow.holds Tryd.pinned (OpenSpec.upto codeWidthsSpec)

/-- 'gessolaw01.CodeBytes', WHERE WHAT IT READS IS OF BULK AT MOST 1048576: true; the input reads as it did. -/
def codeBytesUptoRow : OpenClaim := { program := "ytjlhehaagaaihaadoor", sum := "76cc6d58e049d9072fc697df40d4dc3fec4c33454f0e3bc9cc4ef022a01118de", func := "gesso/gessolaw01.CodeBytes", spec := "codeBytes", named := ["unicode/utf8.first", "unicode/utf8.acceptRanges"], apart := false, laid := [("unicode/utf8.acceptRanges", laid_unicode_utf8_acceptRanges), ("unicode/utf8.first", laid_unicode_utf8_first)], narrowed := true }
def CodeBytesUptoSaid : Prop := codeBytesUptoRow.holds Tryd.pinned (OpenSpec.upto codeBytesSpec)

/-- 'gessolaw02.ScanOpens', WHERE WHAT IT READS IS OF BULK AT MOST 1048576: true; the input reads as it did. -/
def scanOpensUptoRow : OpenClaim := { program := "ytjlhehaagaaihaadoor", sum := "76cc6d58e049d9072fc697df40d4dc3fec4c33454f0e3bc9cc4ef022a01118de", func := "gesso/gessolaw02.ScanOpens", spec := "scanOpens", unfollowed := true, recurses := true, named := ["unicode/utf8.first", "unicode/utf8.acceptRanges"], apart := false, laid := [("unicode/utf8.acceptRanges", laid_unicode_utf8_acceptRanges), ("unicode/utf8.first", laid_unicode_utf8_first)], narrowed := true }
def ScanOpensUptoSaid : Prop := scanOpensUptoRow.holds Tryd.pinned (OpenSpec.upto scanOpensSpec)

/-- 'gessolaw02.ScanFeeds', WHERE WHAT IT READS IS OF BULK AT MOST 1048576: true; the input reads as it did. -/
def scanFeedsUptoRow : OpenClaim := { program := "ytjlhehaagaaihaadoor", sum := "76cc6d58e049d9072fc697df40d4dc3fec4c33454f0e3bc9cc4ef022a01118de", func := "gesso/gessolaw02.ScanFeeds", spec := "scanFeeds", unfollowed := true, recurses := true, named := ["unicode/utf8.first", "unicode/utf8.acceptRanges"], apart := false, laid := [("unicode/utf8.acceptRanges", laid_unicode_utf8_acceptRanges), ("unicode/utf8.first", laid_unicode_utf8_first)], narrowed := true }
def ScanFeedsUptoSaid : Prop := scanFeedsUptoRow.holds Tryd.pinned (OpenSpec.upto scanFeedsSpec)

/-- 'gessolaw02.ScanStays', WHERE WHAT IT READS IS OF BULK AT MOST 1048576: true; the input reads as it did. -/
def scanStaysUptoRow : OpenClaim := { program := "ytjlhehaagaaihaadoor", sum := "76cc6d58e049d9072fc697df40d4dc3fec4c33454f0e3bc9cc4ef022a01118de", func := "gesso/gessolaw02.ScanStays", spec := "scanStays", unfollowed := true, recurses := true, named := ["unicode/utf8.first", "unicode/utf8.acceptRanges"], apart := false, laid := [("unicode/utf8.acceptRanges", laid_unicode_utf8_acceptRanges), ("unicode/utf8.first", laid_unicode_utf8_first)], narrowed := true }
def ScanStaysUptoSaid : Prop := scanStaysUptoRow.holds Tryd.pinned (OpenSpec.upto scanStaysSpec)

/-- 'gessolaw02.ScanBytes', WHERE WHAT IT READS IS OF BULK AT MOST 1048576: true; the input reads as it did. -/
def scanBytesUptoRow : OpenClaim := { program := "ytjlhehaagaaihaadoor", sum := "76cc6d58e049d9072fc697df40d4dc3fec4c33454f0e3bc9cc4ef022a01118de", func := "gesso/gessolaw02.ScanBytes", spec := "scanBytes", unfollowed := true, recurses := true, named := ["unicode/utf8.first", "unicode/utf8.acceptRanges"], apart := false, laid := [("unicode/utf8.acceptRanges", laid_unicode_utf8_acceptRanges), ("unicode/utf8.first", laid_unicode_utf8_first)], narrowed := true }
def ScanBytesUptoSaid : Prop := scanBytesUptoRow.holds Tryd.pinned (OpenSpec.upto scanBytesSpec)

/-- 'gessolaw01.CodeCodes', WHERE WHAT IT READS IS OF BULK AT MOST 1048576: true; the input reads as it did. -/
def codeCodesUptoRow : OpenClaim := { program := "ytjlhehaagaaihaadoor", sum := "76cc6d58e049d9072fc697df40d4dc3fec4c33454f0e3bc9cc4ef022a01118de", func := "gesso/gessolaw01.CodeCodes", spec := "codeCodes", named := ["unicode/utf8.first", "unicode/utf8.acceptRanges"], apart := false, laid := [("unicode/utf8.acceptRanges", laid_unicode_utf8_acceptRanges), ("unicode/utf8.first", laid_unicode_utf8_first)], narrowed := true }
def CodeCodesUptoSaid : Prop := codeCodesUptoRow.holds Tryd.pinned (OpenSpec.upto codeCodesSpec)

/-- 'gessolaw02.ScanGoes', WHERE WHAT IT READS IS OF BULK AT MOST 1048576: true; the input reads as it did. -/
def scanGoesUptoRow : OpenClaim := { program := "ytjlhehaagaaihaadoor", sum := "76cc6d58e049d9072fc697df40d4dc3fec4c33454f0e3bc9cc4ef022a01118de", func := "gesso/gessolaw02.ScanGoes", spec := "scanGoes", unfollowed := true, recurses := true, named := ["unicode/utf8.first", "unicode/utf8.acceptRanges"], apart := false, laid := [("unicode/utf8.acceptRanges", laid_unicode_utf8_acceptRanges), ("unicode/utf8.first", laid_unicode_utf8_first)], narrowed := true }
def ScanGoesUptoSaid : Prop := scanGoesUptoRow.holds Tryd.pinned (OpenSpec.upto scanGoesSpec)

/-- 'gessolaw02.ScanCuts', WHERE WHAT IT READS IS OF BULK AT MOST 1048576: true; the input reads as it did. -/
def scanCutsUptoRow : OpenClaim := { program := "ytjlhehaagaaihaadoor", sum := "76cc6d58e049d9072fc697df40d4dc3fec4c33454f0e3bc9cc4ef022a01118de", func := "gesso/gessolaw02.ScanCuts", spec := "scanCuts", unfollowed := true, recurses := true, named := ["unicode/utf8.first", "unicode/utf8.acceptRanges"], apart := false, laid := [("unicode/utf8.acceptRanges", laid_unicode_utf8_acceptRanges), ("unicode/utf8.first", laid_unicode_utf8_first)], narrowed := true }
def ScanCutsUptoSaid : Prop := scanCutsUptoRow.holds Tryd.pinned (OpenSpec.upto scanCutsSpec)

end Rows
end Go.Proofs.YtjlhehaagaaihaaDoor
