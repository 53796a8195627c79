/-
  DERIVED. GIVEN WITH THE SEED: THE CARDS: each row of YtjlhehaagaaihaaDoorRows.lean that lists a variable, with what it lists TIED to the program's text (the seventh form; the later family's looks); each row that meets fmt, with fmt's text TOLD by the authors' own Lean function (tested against real Go, not proved from fmt's source: count such statements apart). THE CARD IS WHAT COUNTS. Prove the row's statement (the work); the ties are given (YtjlhehaagaaihaaDoorTie.lean); close each card by the builder's one call (the guide's Derived/Test/ToyasCard.lean, 'card_holds'). Laid BY PROGRAM, IN A SANDBOX (cutbox-door.mjs). By AI agents, Wed Nov 11 2026. No macro, syntax, notation, axiom, sorry.
-/
import Derived.Test.YtjlhehaagaaihaaDoorRows
import GoSem.ClaimSeven
namespace Go.Proofs.YtjlhehaagaaihaaDoor
namespace Rows

/-- THE TIED CARD OF 'gessolaw01.CodeBack'. -/
def codeBackCard : Claim7 := { stood := { row := codeBackRow, standIns := [], harness := (true, "4ad118b2959401cd9004446ce9838962d2346b3a407135fe2a15122a4382532e"), looks := false }, kinds := [], alts := [], laidByText := true, laidKinds := [.data, .pinned], laidTests := true, laidLooks := .later }
def CodeBackCardSaid : Prop := Claim7.holds Tryd.pinned (.plain (OpenSpec.ofChange codeBackSpec)) codeBackCard

/-- THE TIED CARD OF 'gessolaw01.CodeCuts'. -/
def codeCutsCard : Claim7 := { stood := { row := codeCutsRow, standIns := [], harness := (true, "4ad118b2959401cd9004446ce9838962d2346b3a407135fe2a15122a4382532e"), looks := false }, kinds := [], alts := [], laidByText := true, laidKinds := [.data, .pinned], laidTests := true, laidLooks := .later }
def CodeCutsCardSaid : Prop := Claim7.holds Tryd.pinned (.plain (OpenSpec.ofChange codeCutsSpec)) codeCutsCard

/-- THE TIED CARD OF 'gessolaw01.CodeOnes'. -/
def codeOnesCard : Claim7 := { stood := { row := codeOnesRow, standIns := [], harness := (true, "4ad118b2959401cd9004446ce9838962d2346b3a407135fe2a15122a4382532e"), looks := false }, kinds := [], alts := [], laidByText := true, laidKinds := [.data, .pinned], laidTests := true, laidLooks := .later }
def CodeOnesCardSaid : Prop := Claim7.holds Tryd.pinned (.plain (OpenSpec.ofChange codeOnesSpec)) codeOnesCard

/-- THE TIED CARD OF 'gessolaw01.CodeJoins'. -/
def codeJoinsCard : Claim7 := { stood := { row := codeJoinsRow, standIns := [], harness := (true, "4ad118b2959401cd9004446ce9838962d2346b3a407135fe2a15122a4382532e"), looks := false }, kinds := [], alts := [], laidByText := true, laidKinds := [.data, .pinned], laidTests := true, laidLooks := .later }
def CodeJoinsCardSaid : Prop := Claim7.holds Tryd.pinned (.plain (OpenSpec.ofChange codeJoinsSpec)) codeJoinsCard

/-- THE TIED CARD OF 'gessolaw01.CodePuts'. -/
def codePutsCard : Claim7 := { stood := { row := codePutsRow, standIns := [], harness := (true, "4ad118b2959401cd9004446ce9838962d2346b3a407135fe2a15122a4382532e"), looks := false }, kinds := [], alts := [], laidByText := true, laidKinds := [.data, .pinned], laidTests := true, laidLooks := .later }
def CodePutsCardSaid : Prop := Claim7.holds Tryd.pinned (.plain (OpenSpec.ofChange codePutsSpec)) codePutsCard

/-- THE TIED CARD OF 'gessolaw01.CodeWidths'. -/
def codeWidthsCard : Claim7 := { stood := { row := codeWidthsRow, standIns := [], harness := (true, "4ad118b2959401cd9004446ce9838962d2346b3a407135fe2a15122a4382532e"), looks := false }, kinds := [], alts := [], laidByText := true, laidKinds := [.data, .pinned], laidTests := true, laidLooks := .later }
def CodeWidthsCardSaid : Prop := Claim7.holds Tryd.pinned (.plain (OpenSpec.ofChange codeWidthsSpec)) codeWidthsCard

/-- THE TIED CARD OF 'gessolaw01.CodeBytes'. -/
def codeBytesCard : Claim7 := { stood := { row := codeBytesRow, standIns := [], harness := (true, "4ad118b2959401cd9004446ce9838962d2346b3a407135fe2a15122a4382532e"), looks := false }, kinds := [], alts := [], laidByText := true, laidKinds := [.data, .pinned], laidTests := true, laidLooks := .later }
def CodeBytesCardSaid : Prop := Claim7.holds Tryd.pinned (.plain (OpenSpec.ofChange codeBytesSpec)) codeBytesCard

/-- THE TIED CARD OF 'gessolaw02.ScanOpens'. -/
def scanOpensCard : Claim7 := { stood := { row := scanOpensRow, standIns := [], harness := (true, "4ad118b2959401cd9004446ce9838962d2346b3a407135fe2a15122a4382532e"), looks := false }, kinds := [], alts := [], laidByText := true, laidKinds := [.data, .pinned], laidTests := true, laidLooks := .later }
def ScanOpensCardSaid : Prop := Claim7.holds Tryd.pinned (.plain (OpenSpec.ofChange scanOpensSpec)) scanOpensCard

/-- THE TIED CARD OF 'gessolaw02.ScanFeeds'. -/
def scanFeedsCard : Claim7 := { stood := { row := scanFeedsRow, standIns := [], harness := (true, "4ad118b2959401cd9004446ce9838962d2346b3a407135fe2a15122a4382532e"), looks := false }, kinds := [], alts := [], laidByText := true, laidKinds := [.data, .pinned], laidTests := true, laidLooks := .later }
def ScanFeedsCardSaid : Prop := Claim7.holds Tryd.pinned (.plain (OpenSpec.ofChange scanFeedsSpec)) scanFeedsCard

/-- THE TIED CARD OF 'gessolaw02.ScanStays'. -/
def scanStaysCard : Claim7 := { stood := { row := scanStaysRow, standIns := [], harness := (true, "4ad118b2959401cd9004446ce9838962d2346b3a407135fe2a15122a4382532e"), looks := false }, kinds := [], alts := [], laidByText := true, laidKinds := [.data, .pinned], laidTests := true, laidLooks := .later }
def ScanStaysCardSaid : Prop := Claim7.holds Tryd.pinned (.plain (OpenSpec.ofChange scanStaysSpec)) scanStaysCard

/-- THE TIED CARD OF 'gessolaw02.ScanBytes'. -/
def scanBytesCard : Claim7 := { stood := { row := scanBytesRow, standIns := [], harness := (true, "4ad118b2959401cd9004446ce9838962d2346b3a407135fe2a15122a4382532e"), looks := false }, kinds := [], alts := [], laidByText := true, laidKinds := [.data, .pinned], laidTests := true, laidLooks := .later }
def ScanBytesCardSaid : Prop := Claim7.holds Tryd.pinned (.plain (OpenSpec.ofChange scanBytesSpec)) scanBytesCard

/-- THE TIED CARD OF 'gessolaw01.CodeCodes'. -/
def codeCodesCard : Claim7 := { stood := { row := codeCodesRow, standIns := [], harness := (true, "4ad118b2959401cd9004446ce9838962d2346b3a407135fe2a15122a4382532e"), looks := false }, kinds := [], alts := [], laidByText := true, laidKinds := [.data, .pinned], laidTests := true, laidLooks := .later }
def CodeCodesCardSaid : Prop := Claim7.holds Tryd.pinned (.plain (OpenSpec.ofChange codeCodesSpec)) codeCodesCard

/-- THE TIED CARD OF 'gessolaw02.ScanGoes'. -/
def scanGoesCard : Claim7 := { stood := { row := scanGoesRow, standIns := [], harness := (true, "4ad118b2959401cd9004446ce9838962d2346b3a407135fe2a15122a4382532e"), looks := false }, kinds := [], alts := [], laidByText := true, laidKinds := [.data, .pinned], laidTests := true, laidLooks := .later }
def ScanGoesCardSaid : Prop := Claim7.holds Tryd.pinned (.plain (OpenSpec.ofChange scanGoesSpec)) scanGoesCard

/-- THE TIED CARD OF 'gessolaw02.ScanCuts'. -/
def scanCutsCard : Claim7 := { stood := { row := scanCutsRow, standIns := [], harness := (true, "4ad118b2959401cd9004446ce9838962d2346b3a407135fe2a15122a4382532e"), looks := false }, kinds := [], alts := [], laidByText := true, laidKinds := [.data, .pinned], laidTests := true, laidLooks := .later }
def ScanCutsCardSaid : Prop := Claim7.holds Tryd.pinned (.plain (OpenSpec.ofChange scanCutsSpec)) scanCutsCard

/-- THE SECOND FORM's CARD OF 'gessolaw01.CodeBack'. -/
def codeBackUptoCard : Claim7 := { stood := { row := codeBackUptoRow, standIns := [], harness := (true, "4ad118b2959401cd9004446ce9838962d2346b3a407135fe2a15122a4382532e"), looks := false }, kinds := [], alts := [], laidByText := true, laidKinds := [.data, .pinned], laidTests := true, laidLooks := .later }
def CodeBackUptoCardSaid : Prop := Claim7.holds Tryd.pinned (.plain (OpenSpec.upto codeBackSpec)) codeBackUptoCard

/-- THE SECOND FORM's CARD OF 'gessolaw01.CodeCuts'. -/
def codeCutsUptoCard : Claim7 := { stood := { row := codeCutsUptoRow, standIns := [], harness := (true, "4ad118b2959401cd9004446ce9838962d2346b3a407135fe2a15122a4382532e"), looks := false }, kinds := [], alts := [], laidByText := true, laidKinds := [.data, .pinned], laidTests := true, laidLooks := .later }
def CodeCutsUptoCardSaid : Prop := Claim7.holds Tryd.pinned (.plain (OpenSpec.upto codeCutsSpec)) codeCutsUptoCard

/-- THE SECOND FORM's CARD OF 'gessolaw01.CodeOnes'. -/
def codeOnesUptoCard : Claim7 := { stood := { row := codeOnesUptoRow, standIns := [], harness := (true, "4ad118b2959401cd9004446ce9838962d2346b3a407135fe2a15122a4382532e"), looks := false }, kinds := [], alts := [], laidByText := true, laidKinds := [.data, .pinned], laidTests := true, laidLooks := .later }
def CodeOnesUptoCardSaid : Prop := Claim7.holds Tryd.pinned (.plain (OpenSpec.upto codeOnesSpec)) codeOnesUptoCard

/-- THE SECOND FORM's CARD OF 'gessolaw01.CodeJoins'. -/
def codeJoinsUptoCard : Claim7 := { stood := { row := codeJoinsUptoRow, standIns := [], harness := (true, "4ad118b2959401cd9004446ce9838962d2346b3a407135fe2a15122a4382532e"), looks := false }, kinds := [], alts := [], laidByText := true, laidKinds := [.data, .pinned], laidTests := true, laidLooks := .later }
def CodeJoinsUptoCardSaid : Prop := Claim7.holds Tryd.pinned (.plain (OpenSpec.upto codeJoinsSpec)) codeJoinsUptoCard

/-- THE SECOND FORM's CARD OF 'gessolaw01.CodePuts'. -/
def codePutsUptoCard : Claim7 := { stood := { row := codePutsUptoRow, standIns := [], harness := (true, "4ad118b2959401cd9004446ce9838962d2346b3a407135fe2a15122a4382532e"), looks := false }, kinds := [], alts := [], laidByText := true, laidKinds := [.data, .pinned], laidTests := true, laidLooks := .later }
def CodePutsUptoCardSaid : Prop := Claim7.holds Tryd.pinned (.plain (OpenSpec.upto codePutsSpec)) codePutsUptoCard

/-- THE SECOND FORM's CARD OF 'gessolaw01.CodeWidths'. -/
def codeWidthsUptoCard : Claim7 := { stood := { row := codeWidthsUptoRow, standIns := [], harness := (true, "4ad118b2959401cd9004446ce9838962d2346b3a407135fe2a15122a4382532e"), looks := false }, kinds := [], alts := [], laidByText := true, laidKinds := [.data, .pinned], laidTests := true, laidLooks := .later }
def CodeWidthsUptoCardSaid : Prop := Claim7.holds Tryd.pinned (.plain (OpenSpec.upto codeWidthsSpec)) codeWidthsUptoCard

/-- THE SECOND FORM's CARD OF 'gessolaw01.CodeBytes'. -/
def codeBytesUptoCard : Claim7 := { stood := { row := codeBytesUptoRow, standIns := [], harness := (true, "4ad118b2959401cd9004446ce9838962d2346b3a407135fe2a15122a4382532e"), looks := false }, kinds := [], alts := [], laidByText := true, laidKinds := [.data, .pinned], laidTests := true, laidLooks := .later }
def CodeBytesUptoCardSaid : Prop := Claim7.holds Tryd.pinned (.plain (OpenSpec.upto codeBytesSpec)) codeBytesUptoCard

/-- THE SECOND FORM's CARD OF 'gessolaw02.ScanOpens'. -/
def scanOpensUptoCard : Claim7 := { stood := { row := scanOpensUptoRow, standIns := [], harness := (true, "4ad118b2959401cd9004446ce9838962d2346b3a407135fe2a15122a4382532e"), looks := false }, kinds := [], alts := [], laidByText := true, laidKinds := [.data, .pinned], laidTests := true, laidLooks := .later }
def ScanOpensUptoCardSaid : Prop := Claim7.holds Tryd.pinned (.plain (OpenSpec.upto scanOpensSpec)) scanOpensUptoCard

/-- THE SECOND FORM's CARD OF 'gessolaw02.ScanFeeds'. -/
def scanFeedsUptoCard : Claim7 := { stood := { row := scanFeedsUptoRow, standIns := [], harness := (true, "4ad118b2959401cd9004446ce9838962d2346b3a407135fe2a15122a4382532e"), looks := false }, kinds := [], alts := [], laidByText := true, laidKinds := [.data, .pinned], laidTests := true, laidLooks := .later }
def ScanFeedsUptoCardSaid : Prop := Claim7.holds Tryd.pinned (.plain (OpenSpec.upto scanFeedsSpec)) scanFeedsUptoCard

/-- THE SECOND FORM's CARD OF 'gessolaw02.ScanStays'. -/
def scanStaysUptoCard : Claim7 := { stood := { row := scanStaysUptoRow, standIns := [], harness := (true, "4ad118b2959401cd9004446ce9838962d2346b3a407135fe2a15122a4382532e"), looks := false }, kinds := [], alts := [], laidByText := true, laidKinds := [.data, .pinned], laidTests := true, laidLooks := .later }
def ScanStaysUptoCardSaid : Prop := Claim7.holds Tryd.pinned (.plain (OpenSpec.upto scanStaysSpec)) scanStaysUptoCard

/-- THE SECOND FORM's CARD OF 'gessolaw02.ScanBytes'. -/
def scanBytesUptoCard : Claim7 := { stood := { row := scanBytesUptoRow, standIns := [], harness := (true, "4ad118b2959401cd9004446ce9838962d2346b3a407135fe2a15122a4382532e"), looks := false }, kinds := [], alts := [], laidByText := true, laidKinds := [.data, .pinned], laidTests := true, laidLooks := .later }
def ScanBytesUptoCardSaid : Prop := Claim7.holds Tryd.pinned (.plain (OpenSpec.upto scanBytesSpec)) scanBytesUptoCard

/-- THE SECOND FORM's CARD OF 'gessolaw01.CodeCodes'. -/
def codeCodesUptoCard : Claim7 := { stood := { row := codeCodesUptoRow, standIns := [], harness := (true, "4ad118b2959401cd9004446ce9838962d2346b3a407135fe2a15122a4382532e"), looks := false }, kinds := [], alts := [], laidByText := true, laidKinds := [.data, .pinned], laidTests := true, laidLooks := .later }
def CodeCodesUptoCardSaid : Prop := Claim7.holds Tryd.pinned (.plain (OpenSpec.upto codeCodesSpec)) codeCodesUptoCard

/-- THE SECOND FORM's CARD OF 'gessolaw02.ScanGoes'. -/
def scanGoesUptoCard : Claim7 := { stood := { row := scanGoesUptoRow, standIns := [], harness := (true, "4ad118b2959401cd9004446ce9838962d2346b3a407135fe2a15122a4382532e"), looks := false }, kinds := [], alts := [], laidByText := true, laidKinds := [.data, .pinned], laidTests := true, laidLooks := .later }
def ScanGoesUptoCardSaid : Prop := Claim7.holds Tryd.pinned (.plain (OpenSpec.upto scanGoesSpec)) scanGoesUptoCard

/-- THE SECOND FORM's CARD OF 'gessolaw02.ScanCuts'. -/
def scanCutsUptoCard : Claim7 := { stood := { row := scanCutsUptoRow, standIns := [], harness := (true, "4ad118b2959401cd9004446ce9838962d2346b3a407135fe2a15122a4382532e"), looks := false }, kinds := [], alts := [], laidByText := true, laidKinds := [.data, .pinned], laidTests := true, laidLooks := .later }
def ScanCutsUptoCardSaid : Prop := Claim7.holds Tryd.pinned (.plain (OpenSpec.upto scanCutsSpec)) scanCutsUptoCard
end Rows
end Go.Proofs.YtjlhehaagaaihaaDoor
