/-
  DERIVED. GIVEN WITH THE SEED: THE CARDS: each row of YtkfbnldpidojeaaDoorRows.lean that lists a variable, with what it lists TIED to the program's text (the seventh form; the later family's looks); each row that meets fmt, with fmt's text TOLD by the authors' own Lean function (tested against real Go, not proved from fmt's source: count such statements apart). THE CARD IS WHAT COUNTS. Prove the row's statement (the work); the ties are given (YtkfbnldpidojeaaDoorTie.lean); close each card by the builder's one call (the guide's Derived/Test/ToyasCard.lean, 'card_holds'). Laid BY PROGRAM, IN A SANDBOX (cutbox-door.mjs). By AI agents, Wed Nov 11 2026. No macro, syntax, notation, axiom, sorry.
-/
import Derived.Test.YtkfbnldpidojeaaDoorRows
import GoSem.ClaimSeven
namespace Go.Proofs.YtkfbnldpidojeaaDoor
namespace Rows

/-- THE TIED CARD OF 'laws.FnClientKeyEcdheWrite'. -/
def fnClientKeyEcdheWriteCard : Claim7 := { stood := { row := fnClientKeyEcdheWriteRow, standIns := [], harness := (true, "dbcc22dd92c0e3c42d89f92366a0b0c5b44486c43064837111ff93de06a332f3"), looks := false }, kinds := [], alts := [], laidByText := true, laidKinds := [.sentinel, .sentinel], laidTests := true, laidLooks := .later }
def FnClientKeyEcdheWriteCardSaid : Prop := Claim7.holds Tryd.pinned (.plain (OpenSpec.ofChange fnClientKeyEcdheWriteSpec)) fnClientKeyEcdheWriteCard

/-- THE TIED CARD OF 'laws.FnHeaderShort'. -/
def fnHeaderShortCard : Claim7 := { stood := { row := fnHeaderShortRow, standIns := [], harness := (true, "dbcc22dd92c0e3c42d89f92366a0b0c5b44486c43064837111ff93de06a332f3"), looks := false }, kinds := [], alts := [], laidByText := true, laidKinds := [.data, .data, .sentinel, .sentinel], laidTests := true, laidLooks := .later }
def FnHeaderShortCardSaid : Prop := Claim7.holds Tryd.pinned (.plain (OpenSpec.ofChange fnHeaderShortSpec)) fnHeaderShortCard

/-- THE TIED CARD OF 'laws.FnSRTPWrite'. -/
def fnSRTPWriteCard : Claim7 := { stood := { row := fnSRTPWriteRow, standIns := [], harness := (true, "dbcc22dd92c0e3c42d89f92366a0b0c5b44486c43064837111ff93de06a332f3"), looks := false }, kinds := [], alts := [], laidByText := true, laidKinds := [.sentinel, .sentinel], laidTests := true, laidLooks := .later }
def FnSRTPWriteCardSaid : Prop := Claim7.holds Tryd.pinned (.plain (OpenSpec.ofChange fnSRTPWriteSpec)) fnSRTPWriteCard

/-- THE TIED CARD OF 'laws.FnCertificateWrite'. -/
def fnCertificateWriteCard : Claim7 := { stood := { row := fnCertificateWriteRow, standIns := [], harness := (true, "dbcc22dd92c0e3c42d89f92366a0b0c5b44486c43064837111ff93de06a332f3"), looks := false }, kinds := [], alts := [], laidByText := true, laidKinds := [.sentinel], laidTests := true, laidLooks := .later }
def FnCertificateWriteCardSaid : Prop := Claim7.holds Tryd.pinned (.plain (OpenSpec.ofChange fnCertificateWriteSpec)) fnCertificateWriteCard

/-- THE TIED CARD OF 'laws.FnExtendedMaster'. -/
def fnExtendedMasterCard : Claim7 := { stood := { row := fnExtendedMasterRow, standIns := [], harness := (true, "dbcc22dd92c0e3c42d89f92366a0b0c5b44486c43064837111ff93de06a332f3"), looks := false }, kinds := [], alts := [], laidByText := true, laidKinds := [.sentinel, .sentinel, .sentinel], laidTests := true, laidLooks := .later }
def FnExtendedMasterCardSaid : Prop := Claim7.holds Tryd.pinned (.plain (OpenSpec.ofChange fnExtendedMasterSpec)) fnExtendedMasterCard

/-- THE TIED CARD OF 'laws.FnALPNBack'. -/
def fnALPNBackCard : Claim7 := { stood := { row := fnALPNBackRow, standIns := [], harness := (true, "dbcc22dd92c0e3c42d89f92366a0b0c5b44486c43064837111ff93de06a332f3"), looks := false }, kinds := [], alts := [], laidByText := true, laidKinds := [.sentinel, .sentinel, .sentinel], laidTests := true, laidLooks := .later }
def FnALPNBackCardSaid : Prop := Claim7.holds Tryd.pinned (.plain (OpenSpec.ofChange fnALPNBackSpec)) fnALPNBackCard

/-- THE TIED CARD OF 'laws.FnAuthoritiesBack'. -/
def fnAuthoritiesBackCard : Claim7 := { stood := { row := fnAuthoritiesBackRow, standIns := [], harness := (true, "dbcc22dd92c0e3c42d89f92366a0b0c5b44486c43064837111ff93de06a332f3"), looks := false }, kinds := [], alts := [], laidByText := true, laidKinds := [.sentinel, .sentinel, .sentinel, .sentinel], laidTests := true, laidLooks := .later }
def FnAuthoritiesBackCardSaid : Prop := Claim7.holds Tryd.pinned (.plain (OpenSpec.ofChange fnAuthoritiesBackSpec)) fnAuthoritiesBackCard

/-- THE TIED CARD OF 'laws.FnOIDFiltersCut'. -/
def fnOIDFiltersCutCard : Claim7 := { stood := { row := fnOIDFiltersCutRow, standIns := [], harness := (true, "dbcc22dd92c0e3c42d89f92366a0b0c5b44486c43064837111ff93de06a332f3"), looks := false }, kinds := [], alts := [], laidByText := true, laidKinds := [.sentinel, .sentinel, .sentinel, .sentinel, .sentinel], laidTests := true, laidLooks := .later }
def FnOIDFiltersCutCardSaid : Prop := Claim7.holds Tryd.pinned (.plain (OpenSpec.ofChange fnOIDFiltersCutSpec)) fnOIDFiltersCutCard

/-- THE TIED CARD OF 'laws.FnPreSharedKeyBack'. -/
def fnPreSharedKeyBackCard : Claim7 := { stood := { row := fnPreSharedKeyBackRow, standIns := [], harness := (true, "dbcc22dd92c0e3c42d89f92366a0b0c5b44486c43064837111ff93de06a332f3"), looks := false }, kinds := [], alts := [], laidByText := true, laidKinds := [.sentinel, .sentinel, .sentinel, .sentinel], laidTests := true, laidLooks := .later }
def FnPreSharedKeyBackCardSaid : Prop := Claim7.holds Tryd.pinned (.plain (OpenSpec.ofChange fnPreSharedKeyBackSpec)) fnPreSharedKeyBackCard

/-- THE TIED CARD OF 'laws.FnPreSharedKeySelectedCut'. -/
def fnPreSharedKeySelectedCutCard : Claim7 := { stood := { row := fnPreSharedKeySelectedCutRow, standIns := [], harness := (true, "dbcc22dd92c0e3c42d89f92366a0b0c5b44486c43064837111ff93de06a332f3"), looks := false }, kinds := [], alts := [], laidByText := true, laidKinds := [.sentinel, .sentinel, .sentinel, .sentinel], laidTests := true, laidLooks := .later }
def FnPreSharedKeySelectedCutCardSaid : Prop := Claim7.holds Tryd.pinned (.plain (OpenSpec.ofChange fnPreSharedKeySelectedCutSpec)) fnPreSharedKeySelectedCutCard

/-- THE TIED CARD OF 'laws.FnKeyShareBack'. -/
def fnKeyShareBackCard : Claim7 := { stood := { row := fnKeyShareBackRow, standIns := [], harness := (true, "dbcc22dd92c0e3c42d89f92366a0b0c5b44486c43064837111ff93de06a332f3"), looks := false }, kinds := [], alts := [], laidByText := true, laidKinds := [.sentinel, .sentinel, .sentinel, .sentinel], laidTests := true, laidLooks := .later }
def FnKeyShareBackCardSaid : Prop := Claim7.holds Tryd.pinned (.plain (OpenSpec.ofChange fnKeyShareBackSpec)) fnKeyShareBackCard

/-- THE TIED CARD OF 'laws.FnKeyShareServerCut'. -/
def fnKeyShareServerCutCard : Claim7 := { stood := { row := fnKeyShareServerCutRow, standIns := [], harness := (true, "dbcc22dd92c0e3c42d89f92366a0b0c5b44486c43064837111ff93de06a332f3"), looks := false }, kinds := [], alts := [], laidByText := true, laidKinds := [.sentinel, .sentinel, .sentinel, .sentinel], laidTests := true, laidLooks := .later }
def FnKeyShareServerCutCardSaid : Prop := Claim7.holds Tryd.pinned (.plain (OpenSpec.ofChange fnKeyShareServerCutSpec)) fnKeyShareServerCutCard

/-- THE SECOND FORM's CARD OF 'laws.FnClientKeyEcdheWrite'. -/
def fnClientKeyEcdheWriteUptoCard : Claim7 := { stood := { row := fnClientKeyEcdheWriteUptoRow, standIns := [], harness := (true, "dbcc22dd92c0e3c42d89f92366a0b0c5b44486c43064837111ff93de06a332f3"), looks := false }, kinds := [], alts := [], laidByText := true, laidKinds := [.sentinel, .sentinel], laidTests := true, laidLooks := .later }
def FnClientKeyEcdheWriteUptoCardSaid : Prop := Claim7.holds Tryd.pinned (.plain (OpenSpec.upto fnClientKeyEcdheWriteSpec)) fnClientKeyEcdheWriteUptoCard

/-- THE SECOND FORM's CARD OF 'laws.FnHeaderShort'. -/
def fnHeaderShortUptoCard : Claim7 := { stood := { row := fnHeaderShortUptoRow, standIns := [], harness := (true, "dbcc22dd92c0e3c42d89f92366a0b0c5b44486c43064837111ff93de06a332f3"), looks := false }, kinds := [], alts := [], laidByText := true, laidKinds := [.data, .data, .sentinel, .sentinel], laidTests := true, laidLooks := .later }
def FnHeaderShortUptoCardSaid : Prop := Claim7.holds Tryd.pinned (.plain (OpenSpec.upto fnHeaderShortSpec)) fnHeaderShortUptoCard

/-- THE SECOND FORM's CARD OF 'laws.FnSRTPWrite'. -/
def fnSRTPWriteUptoCard : Claim7 := { stood := { row := fnSRTPWriteUptoRow, standIns := [], harness := (true, "dbcc22dd92c0e3c42d89f92366a0b0c5b44486c43064837111ff93de06a332f3"), looks := false }, kinds := [], alts := [], laidByText := true, laidKinds := [.sentinel, .sentinel], laidTests := true, laidLooks := .later }
def FnSRTPWriteUptoCardSaid : Prop := Claim7.holds Tryd.pinned (.plain (OpenSpec.upto fnSRTPWriteSpec)) fnSRTPWriteUptoCard

/-- THE SECOND FORM's CARD OF 'laws.FnCertificateWrite'. -/
def fnCertificateWriteUptoCard : Claim7 := { stood := { row := fnCertificateWriteUptoRow, standIns := [], harness := (true, "dbcc22dd92c0e3c42d89f92366a0b0c5b44486c43064837111ff93de06a332f3"), looks := false }, kinds := [], alts := [], laidByText := true, laidKinds := [.sentinel], laidTests := true, laidLooks := .later }
def FnCertificateWriteUptoCardSaid : Prop := Claim7.holds Tryd.pinned (.plain (OpenSpec.upto fnCertificateWriteSpec)) fnCertificateWriteUptoCard

/-- THE SECOND FORM's CARD OF 'laws.FnExtendedMaster'. -/
def fnExtendedMasterUptoCard : Claim7 := { stood := { row := fnExtendedMasterUptoRow, standIns := [], harness := (true, "dbcc22dd92c0e3c42d89f92366a0b0c5b44486c43064837111ff93de06a332f3"), looks := false }, kinds := [], alts := [], laidByText := true, laidKinds := [.sentinel, .sentinel, .sentinel], laidTests := true, laidLooks := .later }
def FnExtendedMasterUptoCardSaid : Prop := Claim7.holds Tryd.pinned (.plain (OpenSpec.upto fnExtendedMasterSpec)) fnExtendedMasterUptoCard

/-- THE SECOND FORM's CARD OF 'laws.FnALPNBack'. -/
def fnALPNBackUptoCard : Claim7 := { stood := { row := fnALPNBackUptoRow, standIns := [], harness := (true, "dbcc22dd92c0e3c42d89f92366a0b0c5b44486c43064837111ff93de06a332f3"), looks := false }, kinds := [], alts := [], laidByText := true, laidKinds := [.sentinel, .sentinel, .sentinel], laidTests := true, laidLooks := .later }
def FnALPNBackUptoCardSaid : Prop := Claim7.holds Tryd.pinned (.plain (OpenSpec.upto fnALPNBackSpec)) fnALPNBackUptoCard

/-- THE SECOND FORM's CARD OF 'laws.FnAuthoritiesBack'. -/
def fnAuthoritiesBackUptoCard : Claim7 := { stood := { row := fnAuthoritiesBackUptoRow, standIns := [], harness := (true, "dbcc22dd92c0e3c42d89f92366a0b0c5b44486c43064837111ff93de06a332f3"), looks := false }, kinds := [], alts := [], laidByText := true, laidKinds := [.sentinel, .sentinel, .sentinel, .sentinel], laidTests := true, laidLooks := .later }
def FnAuthoritiesBackUptoCardSaid : Prop := Claim7.holds Tryd.pinned (.plain (OpenSpec.upto fnAuthoritiesBackSpec)) fnAuthoritiesBackUptoCard

/-- THE SECOND FORM's CARD OF 'laws.FnOIDFiltersCut'. -/
def fnOIDFiltersCutUptoCard : Claim7 := { stood := { row := fnOIDFiltersCutUptoRow, standIns := [], harness := (true, "dbcc22dd92c0e3c42d89f92366a0b0c5b44486c43064837111ff93de06a332f3"), looks := false }, kinds := [], alts := [], laidByText := true, laidKinds := [.sentinel, .sentinel, .sentinel, .sentinel, .sentinel], laidTests := true, laidLooks := .later }
def FnOIDFiltersCutUptoCardSaid : Prop := Claim7.holds Tryd.pinned (.plain (OpenSpec.upto fnOIDFiltersCutSpec)) fnOIDFiltersCutUptoCard

/-- THE SECOND FORM's CARD OF 'laws.FnPreSharedKeyBack'. -/
def fnPreSharedKeyBackUptoCard : Claim7 := { stood := { row := fnPreSharedKeyBackUptoRow, standIns := [], harness := (true, "dbcc22dd92c0e3c42d89f92366a0b0c5b44486c43064837111ff93de06a332f3"), looks := false }, kinds := [], alts := [], laidByText := true, laidKinds := [.sentinel, .sentinel, .sentinel, .sentinel], laidTests := true, laidLooks := .later }
def FnPreSharedKeyBackUptoCardSaid : Prop := Claim7.holds Tryd.pinned (.plain (OpenSpec.upto fnPreSharedKeyBackSpec)) fnPreSharedKeyBackUptoCard

/-- THE SECOND FORM's CARD OF 'laws.FnPreSharedKeySelectedCut'. -/
def fnPreSharedKeySelectedCutUptoCard : Claim7 := { stood := { row := fnPreSharedKeySelectedCutUptoRow, standIns := [], harness := (true, "dbcc22dd92c0e3c42d89f92366a0b0c5b44486c43064837111ff93de06a332f3"), looks := false }, kinds := [], alts := [], laidByText := true, laidKinds := [.sentinel, .sentinel, .sentinel, .sentinel], laidTests := true, laidLooks := .later }
def FnPreSharedKeySelectedCutUptoCardSaid : Prop := Claim7.holds Tryd.pinned (.plain (OpenSpec.upto fnPreSharedKeySelectedCutSpec)) fnPreSharedKeySelectedCutUptoCard

/-- THE SECOND FORM's CARD OF 'laws.FnKeyShareBack'. -/
def fnKeyShareBackUptoCard : Claim7 := { stood := { row := fnKeyShareBackUptoRow, standIns := [], harness := (true, "dbcc22dd92c0e3c42d89f92366a0b0c5b44486c43064837111ff93de06a332f3"), looks := false }, kinds := [], alts := [], laidByText := true, laidKinds := [.sentinel, .sentinel, .sentinel, .sentinel], laidTests := true, laidLooks := .later }
def FnKeyShareBackUptoCardSaid : Prop := Claim7.holds Tryd.pinned (.plain (OpenSpec.upto fnKeyShareBackSpec)) fnKeyShareBackUptoCard

/-- THE SECOND FORM's CARD OF 'laws.FnKeyShareServerCut'. -/
def fnKeyShareServerCutUptoCard : Claim7 := { stood := { row := fnKeyShareServerCutUptoRow, standIns := [], harness := (true, "dbcc22dd92c0e3c42d89f92366a0b0c5b44486c43064837111ff93de06a332f3"), looks := false }, kinds := [], alts := [], laidByText := true, laidKinds := [.sentinel, .sentinel, .sentinel, .sentinel], laidTests := true, laidLooks := .later }
def FnKeyShareServerCutUptoCardSaid : Prop := Claim7.holds Tryd.pinned (.plain (OpenSpec.upto fnKeyShareServerCutSpec)) fnKeyShareServerCutUptoCard
end Rows
end Go.Proofs.YtkfbnldpidojeaaDoor
