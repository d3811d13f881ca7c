/-
  DERIVED. GIVEN WITH THE SEED: THE CARDS: each row of YtlofkkmonkdjjaaDoorRows.lean that lists a variable, with what it lists TIED to the program's text (the seventh form; the later family's looks); each row that meets fmt, with fmt's text TOLD by the authors' own Lean function (tested against real Go, not proved from fmt's source: count such statements apart). THE CARD IS WHAT COUNTS. Prove the row's statement (the work); the ties are given (YtlofkkmonkdjjaaDoorTie.lean); close each card by the builder's one call (the guide's Derived/Test/ToyasCard.lean, 'card_holds'). Laid BY PROGRAM, IN A SANDBOX (cutbox-door.mjs). By AI agents, Wed Nov 11 2026. No macro, syntax, notation, axiom, sorry.
-/
import Derived.Test.YtlofkkmonkdjjaaDoorRows
import GoSem.ClaimSeven
namespace Go.Proofs.YtlofkkmonkdjjaaDoor
namespace Rows

/-- THE TIED CARD OF 'laws.FnVersions'. -/
def fnVersionsCard : Claim7 := { stood := { row := fnVersionsRow, standIns := [], harness := (true, "312c705599dff8e1b66b31ff244df6cdee9f20dfac1ec51796f1c787a488a9af"), looks := false }, kinds := [], alts := [], laidByText := true, laidKinds := [.data], laidTests := true, laidLooks := .later }
def FnVersionsCardSaid : Prop := Claim7.holds Tryd.pinned (.plain (OpenSpec.ofChange fnVersionsSpec)) fnVersionsCard

/-- THE TIED CARD OF 'laws.FnInnerRead'. -/
def fnInnerReadCard : Claim7 := { stood := { row := fnInnerReadRow, standIns := [], harness := (true, "312c705599dff8e1b66b31ff244df6cdee9f20dfac1ec51796f1c787a488a9af"), looks := false }, kinds := [], alts := [], laidByText := true, laidKinds := [.sentinel], laidTests := true, laidLooks := .later }
def FnInnerReadCardSaid : Prop := Claim7.holds Tryd.pinned (.plain (OpenSpec.ofChange fnInnerReadSpec)) fnInnerReadCard

/-- THE TIED CARD OF 'laws.FnRenegotiationCut'. -/
def fnRenegotiationCutCard : Claim7 := { stood := { row := fnRenegotiationCutRow, standIns := [], harness := (true, "312c705599dff8e1b66b31ff244df6cdee9f20dfac1ec51796f1c787a488a9af"), looks := false }, kinds := [], alts := [], laidByText := true, laidKinds := [.sentinel, .sentinel, .sentinel], laidTests := true, laidLooks := .later }
def FnRenegotiationCutCardSaid : Prop := Claim7.holds Tryd.pinned (.plain (OpenSpec.ofChange fnRenegotiationCutSpec)) fnRenegotiationCutCard

/-- THE TIED CARD OF 'laws.FnDatagramCut'. -/
def fnDatagramCutCard : Claim7 := { stood := { row := fnDatagramCutRow, standIns := [], harness := (true, "312c705599dff8e1b66b31ff244df6cdee9f20dfac1ec51796f1c787a488a9af"), looks := false }, kinds := [], alts := [], laidByText := true, laidKinds := [.sentinel], laidTests := true, laidLooks := .later }
def FnDatagramCutCardSaid : Prop := Claim7.holds Tryd.pinned (.plain (OpenSpec.ofChange fnDatagramCutSpec)) fnDatagramCutCard

/-- THE TIED CARD OF 'laws.FnSuitesCut'. -/
def fnSuitesCutCard : Claim7 := { stood := { row := fnSuitesCutRow, standIns := [], harness := (true, "312c705599dff8e1b66b31ff244df6cdee9f20dfac1ec51796f1c787a488a9af"), looks := false }, kinds := [], alts := [], laidByText := true, laidKinds := [.sentinel], laidTests := true, laidLooks := .later }
def FnSuitesCutCardSaid : Prop := Claim7.holds Tryd.pinned (.plain (OpenSpec.ofChange fnSuitesCutSpec)) fnSuitesCutCard

/-- THE TIED CARD OF 'laws.FnPointFormatsBack'. -/
def fnPointFormatsBackCard : Claim7 := { stood := { row := fnPointFormatsBackRow, standIns := [], harness := (true, "312c705599dff8e1b66b31ff244df6cdee9f20dfac1ec51796f1c787a488a9af"), looks := false }, kinds := [], alts := [], laidByText := true, laidKinds := [.sentinel, .sentinel, .sentinel], laidTests := true, laidLooks := .later }
def FnPointFormatsBackCardSaid : Prop := Claim7.holds Tryd.pinned (.plain (OpenSpec.ofChange fnPointFormatsBackSpec)) fnPointFormatsBackCard

/-- THE TIED CARD OF 'laws.FnClientKeyBothBack'. -/
def fnClientKeyBothBackCard : Claim7 := { stood := { row := fnClientKeyBothBackRow, standIns := [], harness := (true, "312c705599dff8e1b66b31ff244df6cdee9f20dfac1ec51796f1c787a488a9af"), looks := false }, kinds := [], alts := [], laidByText := true, laidKinds := [.sentinel, .sentinel], laidTests := true, laidLooks := .later }
def FnClientKeyBothBackCardSaid : Prop := Claim7.holds Tryd.pinned (.plain (OpenSpec.ofChange fnClientKeyBothBackSpec)) fnClientKeyBothBackCard

/-- THE SECOND FORM's CARD OF 'laws.FnVersions'. -/
def fnVersionsUptoCard : Claim7 := { stood := { row := fnVersionsUptoRow, standIns := [], harness := (true, "312c705599dff8e1b66b31ff244df6cdee9f20dfac1ec51796f1c787a488a9af"), looks := false }, kinds := [], alts := [], laidByText := true, laidKinds := [.data], laidTests := true, laidLooks := .later }
def FnVersionsUptoCardSaid : Prop := Claim7.holds Tryd.pinned (.plain (OpenSpec.upto fnVersionsSpec)) fnVersionsUptoCard

/-- THE SECOND FORM's CARD OF 'laws.FnInnerRead'. -/
def fnInnerReadUptoCard : Claim7 := { stood := { row := fnInnerReadUptoRow, standIns := [], harness := (true, "312c705599dff8e1b66b31ff244df6cdee9f20dfac1ec51796f1c787a488a9af"), looks := false }, kinds := [], alts := [], laidByText := true, laidKinds := [.sentinel], laidTests := true, laidLooks := .later }
def FnInnerReadUptoCardSaid : Prop := Claim7.holds Tryd.pinned (.plain (OpenSpec.upto fnInnerReadSpec)) fnInnerReadUptoCard

/-- THE SECOND FORM's CARD OF 'laws.FnRenegotiationCut'. -/
def fnRenegotiationCutUptoCard : Claim7 := { stood := { row := fnRenegotiationCutUptoRow, standIns := [], harness := (true, "312c705599dff8e1b66b31ff244df6cdee9f20dfac1ec51796f1c787a488a9af"), looks := false }, kinds := [], alts := [], laidByText := true, laidKinds := [.sentinel, .sentinel, .sentinel], laidTests := true, laidLooks := .later }
def FnRenegotiationCutUptoCardSaid : Prop := Claim7.holds Tryd.pinned (.plain (OpenSpec.upto fnRenegotiationCutSpec)) fnRenegotiationCutUptoCard

/-- THE SECOND FORM's CARD OF 'laws.FnDatagramCut'. -/
def fnDatagramCutUptoCard : Claim7 := { stood := { row := fnDatagramCutUptoRow, standIns := [], harness := (true, "312c705599dff8e1b66b31ff244df6cdee9f20dfac1ec51796f1c787a488a9af"), looks := false }, kinds := [], alts := [], laidByText := true, laidKinds := [.sentinel], laidTests := true, laidLooks := .later }
def FnDatagramCutUptoCardSaid : Prop := Claim7.holds Tryd.pinned (.plain (OpenSpec.upto fnDatagramCutSpec)) fnDatagramCutUptoCard

/-- THE SECOND FORM's CARD OF 'laws.FnSuitesCut'. -/
def fnSuitesCutUptoCard : Claim7 := { stood := { row := fnSuitesCutUptoRow, standIns := [], harness := (true, "312c705599dff8e1b66b31ff244df6cdee9f20dfac1ec51796f1c787a488a9af"), looks := false }, kinds := [], alts := [], laidByText := true, laidKinds := [.sentinel], laidTests := true, laidLooks := .later }
def FnSuitesCutUptoCardSaid : Prop := Claim7.holds Tryd.pinned (.plain (OpenSpec.upto fnSuitesCutSpec)) fnSuitesCutUptoCard

/-- THE SECOND FORM's CARD OF 'laws.FnPointFormatsBack'. -/
def fnPointFormatsBackUptoCard : Claim7 := { stood := { row := fnPointFormatsBackUptoRow, standIns := [], harness := (true, "312c705599dff8e1b66b31ff244df6cdee9f20dfac1ec51796f1c787a488a9af"), looks := false }, kinds := [], alts := [], laidByText := true, laidKinds := [.sentinel, .sentinel, .sentinel], laidTests := true, laidLooks := .later }
def FnPointFormatsBackUptoCardSaid : Prop := Claim7.holds Tryd.pinned (.plain (OpenSpec.upto fnPointFormatsBackSpec)) fnPointFormatsBackUptoCard

/-- THE SECOND FORM's CARD OF 'laws.FnClientKeyBothBack'. -/
def fnClientKeyBothBackUptoCard : Claim7 := { stood := { row := fnClientKeyBothBackUptoRow, standIns := [], harness := (true, "312c705599dff8e1b66b31ff244df6cdee9f20dfac1ec51796f1c787a488a9af"), looks := false }, kinds := [], alts := [], laidByText := true, laidKinds := [.sentinel, .sentinel], laidTests := true, laidLooks := .later }
def FnClientKeyBothBackUptoCardSaid : Prop := Claim7.holds Tryd.pinned (.plain (OpenSpec.upto fnClientKeyBothBackSpec)) fnClientKeyBothBackUptoCard
end Rows
end Go.Proofs.YtlofkkmonkdjjaaDoor
