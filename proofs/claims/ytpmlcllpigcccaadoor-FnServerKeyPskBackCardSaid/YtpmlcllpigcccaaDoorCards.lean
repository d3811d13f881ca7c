/-
  DERIVED. GIVEN WITH THE SEED: THE CARDS: each row of YtpmlcllpigcccaaDoorRows.lean that lists a variable, with what it lists TIED to the program's text (the seventh form; the later family's looks); each row that meets fmt, with fmt's text TOLD by the authors' own Lean function (tested against real Go, not proved from fmt's source: count such statements apart). THE CARD IS WHAT COUNTS. Prove the row's statement (the work); the ties are given (YtpmlcllpigcccaaDoorTie.lean); close each card by the builder's one call (the guide's Derived/Test/ToyasCard.lean, 'card_holds'). Laid BY PROGRAM, IN A SANDBOX (cutbox-door.mjs). By AI agents, Wed Nov 11 2026. No macro, syntax, notation, axiom, sorry.
-/
import Derived.Test.YtpmlcllpigcccaaDoorRows
import GoSem.ClaimSeven
namespace Go.Proofs.YtpmlcllpigcccaaDoor
namespace Rows

/-- THE TIED CARD OF 'laws.FnCertificateVerifyCut'. -/
def fnCertificateVerifyCutCard : Claim7 := { stood := { row := fnCertificateVerifyCutRow, standIns := [], harness := (true, "95981ff32050a1d63004a96526c910ed9d53212958c496c55a23d95c015f7d7c"), looks := true }, kinds := [], alts := [], laidByText := true, laidKinds := [.sentinel, .sentinel, .sentinel, .sentinel], laidTests := true, laidLooks := .later }
def FnCertificateVerifyCutCardSaid : Prop := Claim7.holds Tryd.pinned (.plain (OpenSpec.ofChange fnCertificateVerifyCutSpec)) fnCertificateVerifyCutCard

/-- THE TIED CARD OF 'laws.FnSchemeBack'. -/
def fnSchemeBackCard : Claim7 := { stood := { row := fnSchemeBackRow, standIns := [], harness := (true, "95981ff32050a1d63004a96526c910ed9d53212958c496c55a23d95c015f7d7c"), looks := true }, kinds := [], alts := [], laidByText := true, laidKinds := [.sentinel, .sentinel], laidTests := true, laidLooks := .later }
def FnSchemeBackCardSaid : Prop := Claim7.holds Tryd.pinned (.plain (OpenSpec.ofChange fnSchemeBackSpec)) fnSchemeBackCard

/-- THE TIED CARD OF 'laws.FnCertificateRefused'. -/
def fnCertificateRefusedCard : Claim7 := { stood := { row := fnCertificateRefusedRow, standIns := [], harness := (true, "95981ff32050a1d63004a96526c910ed9d53212958c496c55a23d95c015f7d7c"), looks := true }, kinds := [], alts := [], laidByText := true, laidKinds := [.sentinel, .sentinel], laidTests := true, laidLooks := .later }
def FnCertificateRefusedCardSaid : Prop := Claim7.holds Tryd.pinned (.plain (OpenSpec.ofChange fnCertificateRefusedSpec)) fnCertificateRefusedCard

/-- THE TIED CARD OF 'laws.FnSchemesInsecure'. -/
def fnSchemesInsecureCard : Claim7 := { stood := { row := fnSchemesInsecureRow, standIns := [], harness := (true, "95981ff32050a1d63004a96526c910ed9d53212958c496c55a23d95c015f7d7c"), looks := true }, kinds := [], alts := [], laidByText := true, laidKinds := [.sentinel, .sentinel, .sentinel], laidTests := true, laidLooks := .later }
def FnSchemesInsecureCardSaid : Prop := Claim7.holds Tryd.pinned (.plain (OpenSpec.ofChange fnSchemesInsecureSpec)) fnSchemesInsecureCard

/-- THE TIED CARD OF 'laws.FnSignatureAlgorithmsCut'. -/
def fnSignatureAlgorithmsCutCard : Claim7 := { stood := { row := fnSignatureAlgorithmsCutRow, standIns := [], harness := (true, "95981ff32050a1d63004a96526c910ed9d53212958c496c55a23d95c015f7d7c"), looks := true }, kinds := [], alts := [], laidByText := true, laidKinds := [.sentinel, .sentinel, .sentinel, .sentinel, .sentinel], laidTests := true, laidLooks := .later }
def FnSignatureAlgorithmsCutCardSaid : Prop := Claim7.holds Tryd.pinned (.plain (OpenSpec.ofChange fnSignatureAlgorithmsCutSpec)) fnSignatureAlgorithmsCutCard

/-- THE TIED CARD OF 'laws.FnRequestBack'. -/
def fnRequestBackCard : Claim7 := { stood := { row := fnRequestBackRow, standIns := [], harness := (true, "95981ff32050a1d63004a96526c910ed9d53212958c496c55a23d95c015f7d7c"), looks := true }, kinds := [], alts := [], laidByText := true, laidKinds := [.sentinel, .sentinel, .sentinel], laidTests := true, laidLooks := .later }
def FnRequestBackCardSaid : Prop := Claim7.holds Tryd.pinned (.plain (OpenSpec.ofChange fnRequestBackSpec)) fnRequestBackCard

/-- THE TIED CARD OF 'laws.FnCookieWrite'. -/
def fnCookieWriteCard : Claim7 := { stood := { row := fnCookieWriteRow, standIns := [], harness := (true, "95981ff32050a1d63004a96526c910ed9d53212958c496c55a23d95c015f7d7c"), looks := true }, kinds := [], alts := [], laidByText := true, laidKinds := [.sentinel], laidTests := true, laidLooks := .later }
def FnCookieWriteCardSaid : Prop := Claim7.holds Tryd.pinned (.plain (OpenSpec.ofChange fnCookieWriteSpec)) fnCookieWriteCard

/-- THE TIED CARD OF 'laws.FnServerKeyEcdheCut'. -/
def fnServerKeyEcdheCutCard : Claim7 := { stood := { row := fnServerKeyEcdheCutRow, standIns := [], harness := (true, "95981ff32050a1d63004a96526c910ed9d53212958c496c55a23d95c015f7d7c"), looks := true }, kinds := [], alts := [], laidByText := true, laidKinds := [.sentinel, .sentinel, .sentinel, .sentinel, .sentinel, .sentinel, .sentinel, .sentinel], laidTests := true, laidLooks := .later }
def FnServerKeyEcdheCutCardSaid : Prop := Claim7.holds Tryd.pinned (.plain (OpenSpec.ofChange fnServerKeyEcdheCutSpec)) fnServerKeyEcdheCutCard

/-- THE TIED CARD OF 'laws.FnServerKeyPskBack'. -/
def fnServerKeyPskBackCard : Claim7 := { stood := { row := fnServerKeyPskBackRow, standIns := [], harness := (true, "95981ff32050a1d63004a96526c910ed9d53212958c496c55a23d95c015f7d7c"), looks := true }, kinds := [], alts := [], laidByText := true, laidKinds := [.sentinel, .sentinel, .sentinel, .sentinel, .sentinel, .sentinel, .sentinel, .sentinel], laidTests := true, laidLooks := .later }
def FnServerKeyPskBackCardSaid : Prop := Claim7.holds Tryd.pinned (.plain (OpenSpec.ofChange fnServerKeyPskBackSpec)) fnServerKeyPskBackCard

/-- THE TIED CARD OF 'laws.FnPskModesWrite'. -/
def fnPskModesWriteCard : Claim7 := { stood := { row := fnPskModesWriteRow, standIns := [], harness := (true, "95981ff32050a1d63004a96526c910ed9d53212958c496c55a23d95c015f7d7c"), looks := true }, kinds := [], alts := [], laidByText := true, laidKinds := [.sentinel], laidTests := true, laidLooks := .later }
def FnPskModesWriteCardSaid : Prop := Claim7.holds Tryd.pinned (.plain (OpenSpec.ofChange fnPskModesWriteSpec)) fnPskModesWriteCard

/-- THE TIED CARD OF 'laws.FnOIDFiltersRefused'. -/
def fnOIDFiltersRefusedCard : Claim7 := { stood := { row := fnOIDFiltersRefusedRow, standIns := [], harness := (true, "95981ff32050a1d63004a96526c910ed9d53212958c496c55a23d95c015f7d7c"), looks := true }, kinds := [], alts := [], laidByText := true, laidKinds := [.sentinel, .sentinel], laidTests := true, laidLooks := .later }
def FnOIDFiltersRefusedCardSaid : Prop := Claim7.holds Tryd.pinned (.plain (OpenSpec.ofChange fnOIDFiltersRefusedSpec)) fnOIDFiltersRefusedCard

/-- THE SECOND FORM's CARD OF 'laws.FnCertificateVerifyCut'. -/
def fnCertificateVerifyCutUptoCard : Claim7 := { stood := { row := fnCertificateVerifyCutUptoRow, standIns := [], harness := (true, "95981ff32050a1d63004a96526c910ed9d53212958c496c55a23d95c015f7d7c"), looks := true }, kinds := [], alts := [], laidByText := true, laidKinds := [.sentinel, .sentinel, .sentinel, .sentinel], laidTests := true, laidLooks := .later }
def FnCertificateVerifyCutUptoCardSaid : Prop := Claim7.holds Tryd.pinned (.plain (OpenSpec.upto fnCertificateVerifyCutSpec)) fnCertificateVerifyCutUptoCard

/-- THE SECOND FORM's CARD OF 'laws.FnSchemeBack'. -/
def fnSchemeBackUptoCard : Claim7 := { stood := { row := fnSchemeBackUptoRow, standIns := [], harness := (true, "95981ff32050a1d63004a96526c910ed9d53212958c496c55a23d95c015f7d7c"), looks := true }, kinds := [], alts := [], laidByText := true, laidKinds := [.sentinel, .sentinel], laidTests := true, laidLooks := .later }
def FnSchemeBackUptoCardSaid : Prop := Claim7.holds Tryd.pinned (.plain (OpenSpec.upto fnSchemeBackSpec)) fnSchemeBackUptoCard

/-- THE SECOND FORM's CARD OF 'laws.FnCertificateRefused'. -/
def fnCertificateRefusedUptoCard : Claim7 := { stood := { row := fnCertificateRefusedUptoRow, standIns := [], harness := (true, "95981ff32050a1d63004a96526c910ed9d53212958c496c55a23d95c015f7d7c"), looks := true }, kinds := [], alts := [], laidByText := true, laidKinds := [.sentinel, .sentinel], laidTests := true, laidLooks := .later }
def FnCertificateRefusedUptoCardSaid : Prop := Claim7.holds Tryd.pinned (.plain (OpenSpec.upto fnCertificateRefusedSpec)) fnCertificateRefusedUptoCard

/-- THE SECOND FORM's CARD OF 'laws.FnSchemesInsecure'. -/
def fnSchemesInsecureUptoCard : Claim7 := { stood := { row := fnSchemesInsecureUptoRow, standIns := [], harness := (true, "95981ff32050a1d63004a96526c910ed9d53212958c496c55a23d95c015f7d7c"), looks := true }, kinds := [], alts := [], laidByText := true, laidKinds := [.sentinel, .sentinel, .sentinel], laidTests := true, laidLooks := .later }
def FnSchemesInsecureUptoCardSaid : Prop := Claim7.holds Tryd.pinned (.plain (OpenSpec.upto fnSchemesInsecureSpec)) fnSchemesInsecureUptoCard

/-- THE SECOND FORM's CARD OF 'laws.FnSignatureAlgorithmsCut'. -/
def fnSignatureAlgorithmsCutUptoCard : Claim7 := { stood := { row := fnSignatureAlgorithmsCutUptoRow, standIns := [], harness := (true, "95981ff32050a1d63004a96526c910ed9d53212958c496c55a23d95c015f7d7c"), looks := true }, kinds := [], alts := [], laidByText := true, laidKinds := [.sentinel, .sentinel, .sentinel, .sentinel, .sentinel], laidTests := true, laidLooks := .later }
def FnSignatureAlgorithmsCutUptoCardSaid : Prop := Claim7.holds Tryd.pinned (.plain (OpenSpec.upto fnSignatureAlgorithmsCutSpec)) fnSignatureAlgorithmsCutUptoCard

/-- THE SECOND FORM's CARD OF 'laws.FnRequestBack'. -/
def fnRequestBackUptoCard : Claim7 := { stood := { row := fnRequestBackUptoRow, standIns := [], harness := (true, "95981ff32050a1d63004a96526c910ed9d53212958c496c55a23d95c015f7d7c"), looks := true }, kinds := [], alts := [], laidByText := true, laidKinds := [.sentinel, .sentinel, .sentinel], laidTests := true, laidLooks := .later }
def FnRequestBackUptoCardSaid : Prop := Claim7.holds Tryd.pinned (.plain (OpenSpec.upto fnRequestBackSpec)) fnRequestBackUptoCard

/-- THE SECOND FORM's CARD OF 'laws.FnCookieWrite'. -/
def fnCookieWriteUptoCard : Claim7 := { stood := { row := fnCookieWriteUptoRow, standIns := [], harness := (true, "95981ff32050a1d63004a96526c910ed9d53212958c496c55a23d95c015f7d7c"), looks := true }, kinds := [], alts := [], laidByText := true, laidKinds := [.sentinel], laidTests := true, laidLooks := .later }
def FnCookieWriteUptoCardSaid : Prop := Claim7.holds Tryd.pinned (.plain (OpenSpec.upto fnCookieWriteSpec)) fnCookieWriteUptoCard

/-- THE SECOND FORM's CARD OF 'laws.FnServerKeyEcdheCut'. -/
def fnServerKeyEcdheCutUptoCard : Claim7 := { stood := { row := fnServerKeyEcdheCutUptoRow, standIns := [], harness := (true, "95981ff32050a1d63004a96526c910ed9d53212958c496c55a23d95c015f7d7c"), looks := true }, kinds := [], alts := [], laidByText := true, laidKinds := [.sentinel, .sentinel, .sentinel, .sentinel, .sentinel, .sentinel, .sentinel, .sentinel], laidTests := true, laidLooks := .later }
def FnServerKeyEcdheCutUptoCardSaid : Prop := Claim7.holds Tryd.pinned (.plain (OpenSpec.upto fnServerKeyEcdheCutSpec)) fnServerKeyEcdheCutUptoCard

/-- THE SECOND FORM's CARD OF 'laws.FnServerKeyPskBack'. -/
def fnServerKeyPskBackUptoCard : Claim7 := { stood := { row := fnServerKeyPskBackUptoRow, standIns := [], harness := (true, "95981ff32050a1d63004a96526c910ed9d53212958c496c55a23d95c015f7d7c"), looks := true }, kinds := [], alts := [], laidByText := true, laidKinds := [.sentinel, .sentinel, .sentinel, .sentinel, .sentinel, .sentinel, .sentinel, .sentinel], laidTests := true, laidLooks := .later }
def FnServerKeyPskBackUptoCardSaid : Prop := Claim7.holds Tryd.pinned (.plain (OpenSpec.upto fnServerKeyPskBackSpec)) fnServerKeyPskBackUptoCard

/-- THE SECOND FORM's CARD OF 'laws.FnPskModesWrite'. -/
def fnPskModesWriteUptoCard : Claim7 := { stood := { row := fnPskModesWriteUptoRow, standIns := [], harness := (true, "95981ff32050a1d63004a96526c910ed9d53212958c496c55a23d95c015f7d7c"), looks := true }, kinds := [], alts := [], laidByText := true, laidKinds := [.sentinel], laidTests := true, laidLooks := .later }
def FnPskModesWriteUptoCardSaid : Prop := Claim7.holds Tryd.pinned (.plain (OpenSpec.upto fnPskModesWriteSpec)) fnPskModesWriteUptoCard

/-- THE SECOND FORM's CARD OF 'laws.FnOIDFiltersRefused'. -/
def fnOIDFiltersRefusedUptoCard : Claim7 := { stood := { row := fnOIDFiltersRefusedUptoRow, standIns := [], harness := (true, "95981ff32050a1d63004a96526c910ed9d53212958c496c55a23d95c015f7d7c"), looks := true }, kinds := [], alts := [], laidByText := true, laidKinds := [.sentinel, .sentinel], laidTests := true, laidLooks := .later }
def FnOIDFiltersRefusedUptoCardSaid : Prop := Claim7.holds Tryd.pinned (.plain (OpenSpec.upto fnOIDFiltersRefusedSpec)) fnOIDFiltersRefusedUptoCard
end Rows
end Go.Proofs.YtpmlcllpigcccaaDoor
