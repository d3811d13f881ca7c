/-
  DERIVED. GIVEN WITH THE SEED: THE CARDS: each row of YthfpfakdchhodaaDoorRows.lean that lists a variable, with what it lists TIED to the program's text (the seventh form; the later family's looks); each row that meets fmt, with fmt's text TOLD by the authors' own Lean function (tested against real Go, not proved from fmt's source: count such statements apart). THE CARD IS WHAT COUNTS. Prove the row's statement (the work); the ties are given (YthfpfakdchhodaaDoorTie.lean); close each card by the builder's one call (the guide's Derived/Test/ToyasCard.lean, 'card_holds'). Laid BY PROGRAM, IN A SANDBOX (cutbox-door.mjs). By AI agents, Wed Nov 11 2026. No macro, syntax, notation, axiom, sorry.
-/
import Derived.Test.YthfpfakdchhodaaDoorRows
import GoSem.ClaimSeven
namespace Go.Proofs.YthfpfakdchhodaaDoor
namespace Rows

/-- THE TIED CARD OF 'laws.FnHeaderShort'. -/
def fnHeaderShortCard : Claim7 := { stood := { row := fnHeaderShortRow, standIns := [], harness := (true, "20b3b98fcc8707e4b2223a6ae671195b166d92b4110cce829ed6e3bbef5fa288"), looks := false }, kinds := [], alts := [], laidByText := true, laidKinds := [.data, .data, .sentinel, .sentinel], laidTests := true, laidLooks := .later }
def FnHeaderShortCardSaid : Prop := Claim7.holds Tryd.pinned (.plain (OpenSpec.ofChange fnHeaderShortSpec)) fnHeaderShortCard

/-- THE TIED CARD OF 'laws.FnSRTPWrite'. -/
def fnSRTPWriteCard : Claim7 := { stood := { row := fnSRTPWriteRow, standIns := [], harness := (true, "20b3b98fcc8707e4b2223a6ae671195b166d92b4110cce829ed6e3bbef5fa288"), looks := false }, kinds := [], alts := [], laidByText := true, laidKinds := [.sentinel, .sentinel], laidTests := true, laidLooks := .later }
def FnSRTPWriteCardSaid : Prop := Claim7.holds Tryd.pinned (.plain (OpenSpec.ofChange fnSRTPWriteSpec)) fnSRTPWriteCard

/-- THE TIED CARD OF 'laws.FnCertificateWrite'. -/
def fnCertificateWriteCard : Claim7 := { stood := { row := fnCertificateWriteRow, standIns := [], harness := (true, "20b3b98fcc8707e4b2223a6ae671195b166d92b4110cce829ed6e3bbef5fa288"), looks := false }, kinds := [], alts := [], laidByText := true, laidKinds := [.sentinel], laidTests := true, laidLooks := .later }
def FnCertificateWriteCardSaid : Prop := Claim7.holds Tryd.pinned (.plain (OpenSpec.ofChange fnCertificateWriteSpec)) fnCertificateWriteCard

/-- THE TIED CARD OF 'laws.FnALPNBack'. -/
def fnALPNBackCard : Claim7 := { stood := { row := fnALPNBackRow, standIns := [], harness := (true, "20b3b98fcc8707e4b2223a6ae671195b166d92b4110cce829ed6e3bbef5fa288"), looks := false }, kinds := [], alts := [], laidByText := true, laidKinds := [.sentinel, .sentinel, .sentinel], laidTests := true, laidLooks := .later }
def FnALPNBackCardSaid : Prop := Claim7.holds Tryd.pinned (.plain (OpenSpec.ofChange fnALPNBackSpec)) fnALPNBackCard

/-- THE TIED CARD OF 'laws.FnAuthoritiesBack'. -/
def fnAuthoritiesBackCard : Claim7 := { stood := { row := fnAuthoritiesBackRow, standIns := [], harness := (true, "20b3b98fcc8707e4b2223a6ae671195b166d92b4110cce829ed6e3bbef5fa288"), looks := false }, kinds := [], alts := [], laidByText := true, laidKinds := [.sentinel, .sentinel, .sentinel, .sentinel], laidTests := true, laidLooks := .later }
def FnAuthoritiesBackCardSaid : Prop := Claim7.holds Tryd.pinned (.plain (OpenSpec.ofChange fnAuthoritiesBackSpec)) fnAuthoritiesBackCard

/-- THE TIED CARD OF 'laws.FnPreSharedKeyBack'. -/
def fnPreSharedKeyBackCard : Claim7 := { stood := { row := fnPreSharedKeyBackRow, standIns := [], harness := (true, "20b3b98fcc8707e4b2223a6ae671195b166d92b4110cce829ed6e3bbef5fa288"), looks := false }, kinds := [], alts := [], laidByText := true, laidKinds := [.sentinel, .sentinel, .sentinel, .sentinel], laidTests := true, laidLooks := .later }
def FnPreSharedKeyBackCardSaid : Prop := Claim7.holds Tryd.pinned (.plain (OpenSpec.ofChange fnPreSharedKeyBackSpec)) fnPreSharedKeyBackCard

/-- THE TIED CARD OF 'laws.FnPreSharedKeySelectedCut'. -/
def fnPreSharedKeySelectedCutCard : Claim7 := { stood := { row := fnPreSharedKeySelectedCutRow, standIns := [], harness := (true, "20b3b98fcc8707e4b2223a6ae671195b166d92b4110cce829ed6e3bbef5fa288"), looks := false }, kinds := [], alts := [], laidByText := true, laidKinds := [.sentinel, .sentinel, .sentinel, .sentinel], laidTests := true, laidLooks := .later }
def FnPreSharedKeySelectedCutCardSaid : Prop := Claim7.holds Tryd.pinned (.plain (OpenSpec.ofChange fnPreSharedKeySelectedCutSpec)) fnPreSharedKeySelectedCutCard

/-- THE TIED CARD OF 'laws.FnKeyShareServerCut'. -/
def fnKeyShareServerCutCard : Claim7 := { stood := { row := fnKeyShareServerCutRow, standIns := [], harness := (true, "20b3b98fcc8707e4b2223a6ae671195b166d92b4110cce829ed6e3bbef5fa288"), looks := false }, kinds := [], alts := [], laidByText := true, laidKinds := [.sentinel, .sentinel, .sentinel, .sentinel], laidTests := true, laidLooks := .later }
def FnKeyShareServerCutCardSaid : Prop := Claim7.holds Tryd.pinned (.plain (OpenSpec.ofChange fnKeyShareServerCutSpec)) fnKeyShareServerCutCard

/-- THE TIED CARD OF 'laws.FnClientKeyBothBack'. -/
def fnClientKeyBothBackCard : Claim7 := { stood := { row := fnClientKeyBothBackRow, standIns := [], harness := (true, "20b3b98fcc8707e4b2223a6ae671195b166d92b4110cce829ed6e3bbef5fa288"), looks := false }, kinds := [], alts := [], laidByText := true, laidKinds := [.sentinel, .sentinel], laidTests := true, laidLooks := .later }
def FnClientKeyBothBackCardSaid : Prop := Claim7.holds Tryd.pinned (.plain (OpenSpec.ofChange fnClientKeyBothBackSpec)) fnClientKeyBothBackCard

/-- THE TIED CARD OF 'laws.FnPointFormatsBack'. -/
def fnPointFormatsBackCard : Claim7 := { stood := { row := fnPointFormatsBackRow, standIns := [], harness := (true, "20b3b98fcc8707e4b2223a6ae671195b166d92b4110cce829ed6e3bbef5fa288"), looks := false }, kinds := [], alts := [], laidByText := true, laidKinds := [.sentinel, .sentinel, .sentinel], laidTests := true, laidLooks := .later }
def FnPointFormatsBackCardSaid : Prop := Claim7.holds Tryd.pinned (.plain (OpenSpec.ofChange fnPointFormatsBackSpec)) fnPointFormatsBackCard

/-- THE TIED CARD OF 'laws.FnSuitesCut'. -/
def fnSuitesCutCard : Claim7 := { stood := { row := fnSuitesCutRow, standIns := [], harness := (true, "20b3b98fcc8707e4b2223a6ae671195b166d92b4110cce829ed6e3bbef5fa288"), looks := false }, kinds := [], alts := [], laidByText := true, laidKinds := [.sentinel], laidTests := true, laidLooks := .later }
def FnSuitesCutCardSaid : Prop := Claim7.holds Tryd.pinned (.plain (OpenSpec.ofChange fnSuitesCutSpec)) fnSuitesCutCard

/-- THE TIED CARD OF 'laws.FnDatagramCut'. -/
def fnDatagramCutCard : Claim7 := { stood := { row := fnDatagramCutRow, standIns := [], harness := (true, "20b3b98fcc8707e4b2223a6ae671195b166d92b4110cce829ed6e3bbef5fa288"), looks := false }, kinds := [], alts := [], laidByText := true, laidKinds := [.sentinel], laidTests := true, laidLooks := .later }
def FnDatagramCutCardSaid : Prop := Claim7.holds Tryd.pinned (.plain (OpenSpec.ofChange fnDatagramCutSpec)) fnDatagramCutCard

/-- THE SECOND FORM's CARD OF 'laws.FnHeaderShort'. -/
def fnHeaderShortUptoCard : Claim7 := { stood := { row := fnHeaderShortUptoRow, standIns := [], harness := (true, "20b3b98fcc8707e4b2223a6ae671195b166d92b4110cce829ed6e3bbef5fa288"), looks := false }, kinds := [], alts := [], laidByText := true, laidKinds := [.data, .data, .sentinel, .sentinel], laidTests := true, laidLooks := .later }
def FnHeaderShortUptoCardSaid : Prop := Claim7.holds Tryd.pinned (.plain (OpenSpec.upto fnHeaderShortSpec)) fnHeaderShortUptoCard

/-- THE SECOND FORM's CARD OF 'laws.FnSRTPWrite'. -/
def fnSRTPWriteUptoCard : Claim7 := { stood := { row := fnSRTPWriteUptoRow, standIns := [], harness := (true, "20b3b98fcc8707e4b2223a6ae671195b166d92b4110cce829ed6e3bbef5fa288"), looks := false }, kinds := [], alts := [], laidByText := true, laidKinds := [.sentinel, .sentinel], laidTests := true, laidLooks := .later }
def FnSRTPWriteUptoCardSaid : Prop := Claim7.holds Tryd.pinned (.plain (OpenSpec.upto fnSRTPWriteSpec)) fnSRTPWriteUptoCard

/-- THE SECOND FORM's CARD OF 'laws.FnCertificateWrite'. -/
def fnCertificateWriteUptoCard : Claim7 := { stood := { row := fnCertificateWriteUptoRow, standIns := [], harness := (true, "20b3b98fcc8707e4b2223a6ae671195b166d92b4110cce829ed6e3bbef5fa288"), looks := false }, kinds := [], alts := [], laidByText := true, laidKinds := [.sentinel], laidTests := true, laidLooks := .later }
def FnCertificateWriteUptoCardSaid : Prop := Claim7.holds Tryd.pinned (.plain (OpenSpec.upto fnCertificateWriteSpec)) fnCertificateWriteUptoCard

/-- THE SECOND FORM's CARD OF 'laws.FnALPNBack'. -/
def fnALPNBackUptoCard : Claim7 := { stood := { row := fnALPNBackUptoRow, standIns := [], harness := (true, "20b3b98fcc8707e4b2223a6ae671195b166d92b4110cce829ed6e3bbef5fa288"), looks := false }, kinds := [], alts := [], laidByText := true, laidKinds := [.sentinel, .sentinel, .sentinel], laidTests := true, laidLooks := .later }
def FnALPNBackUptoCardSaid : Prop := Claim7.holds Tryd.pinned (.plain (OpenSpec.upto fnALPNBackSpec)) fnALPNBackUptoCard

/-- THE SECOND FORM's CARD OF 'laws.FnAuthoritiesBack'. -/
def fnAuthoritiesBackUptoCard : Claim7 := { stood := { row := fnAuthoritiesBackUptoRow, standIns := [], harness := (true, "20b3b98fcc8707e4b2223a6ae671195b166d92b4110cce829ed6e3bbef5fa288"), looks := false }, kinds := [], alts := [], laidByText := true, laidKinds := [.sentinel, .sentinel, .sentinel, .sentinel], laidTests := true, laidLooks := .later }
def FnAuthoritiesBackUptoCardSaid : Prop := Claim7.holds Tryd.pinned (.plain (OpenSpec.upto fnAuthoritiesBackSpec)) fnAuthoritiesBackUptoCard

/-- THE SECOND FORM's CARD OF 'laws.FnPreSharedKeyBack'. -/
def fnPreSharedKeyBackUptoCard : Claim7 := { stood := { row := fnPreSharedKeyBackUptoRow, standIns := [], harness := (true, "20b3b98fcc8707e4b2223a6ae671195b166d92b4110cce829ed6e3bbef5fa288"), looks := false }, kinds := [], alts := [], laidByText := true, laidKinds := [.sentinel, .sentinel, .sentinel, .sentinel], laidTests := true, laidLooks := .later }
def FnPreSharedKeyBackUptoCardSaid : Prop := Claim7.holds Tryd.pinned (.plain (OpenSpec.upto fnPreSharedKeyBackSpec)) fnPreSharedKeyBackUptoCard

/-- THE SECOND FORM's CARD OF 'laws.FnPreSharedKeySelectedCut'. -/
def fnPreSharedKeySelectedCutUptoCard : Claim7 := { stood := { row := fnPreSharedKeySelectedCutUptoRow, standIns := [], harness := (true, "20b3b98fcc8707e4b2223a6ae671195b166d92b4110cce829ed6e3bbef5fa288"), looks := false }, kinds := [], alts := [], laidByText := true, laidKinds := [.sentinel, .sentinel, .sentinel, .sentinel], laidTests := true, laidLooks := .later }
def FnPreSharedKeySelectedCutUptoCardSaid : Prop := Claim7.holds Tryd.pinned (.plain (OpenSpec.upto fnPreSharedKeySelectedCutSpec)) fnPreSharedKeySelectedCutUptoCard

/-- THE SECOND FORM's CARD OF 'laws.FnKeyShareServerCut'. -/
def fnKeyShareServerCutUptoCard : Claim7 := { stood := { row := fnKeyShareServerCutUptoRow, standIns := [], harness := (true, "20b3b98fcc8707e4b2223a6ae671195b166d92b4110cce829ed6e3bbef5fa288"), looks := false }, kinds := [], alts := [], laidByText := true, laidKinds := [.sentinel, .sentinel, .sentinel, .sentinel], laidTests := true, laidLooks := .later }
def FnKeyShareServerCutUptoCardSaid : Prop := Claim7.holds Tryd.pinned (.plain (OpenSpec.upto fnKeyShareServerCutSpec)) fnKeyShareServerCutUptoCard

/-- THE SECOND FORM's CARD OF 'laws.FnClientKeyBothBack'. -/
def fnClientKeyBothBackUptoCard : Claim7 := { stood := { row := fnClientKeyBothBackUptoRow, standIns := [], harness := (true, "20b3b98fcc8707e4b2223a6ae671195b166d92b4110cce829ed6e3bbef5fa288"), looks := false }, kinds := [], alts := [], laidByText := true, laidKinds := [.sentinel, .sentinel], laidTests := true, laidLooks := .later }
def FnClientKeyBothBackUptoCardSaid : Prop := Claim7.holds Tryd.pinned (.plain (OpenSpec.upto fnClientKeyBothBackSpec)) fnClientKeyBothBackUptoCard

/-- THE SECOND FORM's CARD OF 'laws.FnPointFormatsBack'. -/
def fnPointFormatsBackUptoCard : Claim7 := { stood := { row := fnPointFormatsBackUptoRow, standIns := [], harness := (true, "20b3b98fcc8707e4b2223a6ae671195b166d92b4110cce829ed6e3bbef5fa288"), looks := false }, kinds := [], alts := [], laidByText := true, laidKinds := [.sentinel, .sentinel, .sentinel], laidTests := true, laidLooks := .later }
def FnPointFormatsBackUptoCardSaid : Prop := Claim7.holds Tryd.pinned (.plain (OpenSpec.upto fnPointFormatsBackSpec)) fnPointFormatsBackUptoCard

/-- THE SECOND FORM's CARD OF 'laws.FnSuitesCut'. -/
def fnSuitesCutUptoCard : Claim7 := { stood := { row := fnSuitesCutUptoRow, standIns := [], harness := (true, "20b3b98fcc8707e4b2223a6ae671195b166d92b4110cce829ed6e3bbef5fa288"), looks := false }, kinds := [], alts := [], laidByText := true, laidKinds := [.sentinel], laidTests := true, laidLooks := .later }
def FnSuitesCutUptoCardSaid : Prop := Claim7.holds Tryd.pinned (.plain (OpenSpec.upto fnSuitesCutSpec)) fnSuitesCutUptoCard

/-- THE SECOND FORM's CARD OF 'laws.FnDatagramCut'. -/
def fnDatagramCutUptoCard : Claim7 := { stood := { row := fnDatagramCutUptoRow, standIns := [], harness := (true, "20b3b98fcc8707e4b2223a6ae671195b166d92b4110cce829ed6e3bbef5fa288"), looks := false }, kinds := [], alts := [], laidByText := true, laidKinds := [.sentinel], laidTests := true, laidLooks := .later }
def FnDatagramCutUptoCardSaid : Prop := Claim7.holds Tryd.pinned (.plain (OpenSpec.upto fnDatagramCutSpec)) fnDatagramCutUptoCard
end Rows
end Go.Proofs.YthfpfakdchhodaaDoor
