/-
  NARROWER THAN 'FOR EVERY INPUT', by the rows' own cells (each row's printed sentence says how): FnHeaderShort: laid · FnSRTPWrite: laid · FnCertificateWrite: laid · FnALPNBack: laid · FnAuthoritiesBack: laid · FnPreSharedKeyBack: laid · FnPreSharedKeySelectedCut: laid · FnKeyShareServerCut: laid · FnClientKeyBothBack: laid · FnPointFormatsBack: laid · FnSuitesCut: laid · FnDatagramCut: laid.
  DERIVED. THE GIVEN ROWS OF THIS SEAT. 12 by the template 'for every input the law returns true; each argument reads behind the call as it read before'; 0 by the template 'total and deterministic' (their statements: YthfpfakdchhodaaDoorTotals.lean).
  GIVEN WITH THE SEED: the statements are not yours to turn. If you find one false, say at which input.
  Laid BY PROGRAM, IN A SANDBOX (cutbox-rows.mjs): the forced cells as the released guide's own fill.sh prints them over the translation 5cc3bfdc8cbe1449… (all of the seat's roots in one cut). By AI agents, Wed Nov 11 2026. No macro, syntax, notation, axiom, sorry.
-/
import Derived.Test.YthfpfakdchhodaaDoorChecked
import GoSem.Claim
import GoSem.ClaimJoined
import GoSem.ClaimMapViews
import Derived.JoinedTies
import Derived.KernelRfl
namespace Go.Proofs.YthfpfakdchhodaaDoor
/- THE CELL 'sum', in the pinned program and in every row, IS THE sha256 OF THE DUMP (.gsa) THAT YthfpfakdchhodaaDoorProg.lean LOADS. Nothing in Lean hashes anything: it is a label: what it is worth is what the hold of that sum in a sandbox is worth. -/
noncomputable def Tryd.pinned : Pinned := { name := "ythfpfakdchhodaadoor", sum := "5cc3bfdc8cbe14493b0cb85394c466bf272a4e174d94e6ba4100b97486121e8c", checked := Tryd.checked }
namespace Rows
def none {H : Type} : Left H := { results := [], args := [] }

/- WHAT THE LISTED PACKAGE-LEVEL VARIABLES READ AS WHEN THE CALL BEGINS. Each datum BY PROGRAM (the guide's laid-datum.mjs) off the statement by which the dump's own 'gosem.cut.vars' lays the variable. In a bare row this is a premise. The card (YthfpfakdchhodaaDoorCards.lean) ties it to the program's text. -/
def laid_pub_convoy_pub_dtls_pkg_protocol_Version1_0 {H : Type} : DataW H := .agg [.lit (.int .u8 254), .lit (.int .u8 255)]
def laid_pub_convoy_pub_dtls_pkg_protocol_Version1_2 {H : Type} : DataW H := .agg [.lit (.int .u8 254), .lit (.int .u8 253)]
def laid_pub_convoy_pub_dtls_pkg_protocol_recordlayer_errBufferTooSmall {H : Type} : DataW H := .iface "*errors.errorString" (.ptr (.agg [.lit (.string [98, 117, 102, 102, 101, 114, 32, 105, 115, 32, 116, 111, 111, 32, 115, 109, 97, 108, 108])]))
def laid_pub_convoy_pub_dtls_pkg_protocol_recordlayer_errUnsupportedProtocolVersion {H : Type} : DataW H := .iface "*errors.errorString" (.ptr (.agg [.lit (.string [117, 110, 115, 117, 112, 112, 111, 114, 116, 101, 100, 32, 112, 114, 111, 116, 111, 99, 111, 108, 32, 118, 101, 114, 115, 105, 111, 110])]))
def laid_pub_convoy_pub_dtls_pkg_protocol_extension_errMasterKeyIdentifierTooLarge {H : Type} : DataW H := .iface "*errors.errorString" (.ptr (.agg [.lit (.string [109, 97, 115, 116, 101, 114, 32, 107, 101, 121, 32, 105, 100, 101, 110, 116, 105, 102, 105, 101, 114, 32, 105, 115, 32, 111, 118, 101, 114, 32, 50, 53, 53, 32, 98, 121, 116, 101, 115])]))
def laid_pub_convoy_pub_dtls_pkg_protocol_extension_errUseSRTPDataTooLarge {H : Type} : DataW H := .iface "*errors.errorString" (.ptr (.agg [.lit (.string [117, 115, 101, 95, 115, 114, 116, 112, 32, 101, 120, 116, 101, 110, 115, 105, 111, 110, 32, 100, 97, 116, 97, 32, 101, 120, 99, 101, 101, 100, 115, 32, 117, 105, 110, 116, 49, 54, 32, 108, 101, 110, 103, 116, 104])]))
def laid_pub_convoy_pub_dtls_pkg_protocol_handshake_errLengthMismatch {H : Type} : DataW H := .iface "*errors.errorString" (.ptr (.agg [.lit (.string [100, 97, 116, 97, 32, 108, 101, 110, 103, 116, 104, 32, 97, 110, 100, 32, 100, 101, 99, 108, 97, 114, 101, 100, 32, 108, 101, 110, 103, 116, 104, 32, 100, 111, 32, 110, 111, 116, 32, 109, 97, 116, 99, 104])]))
def laid_pub_convoy_pub_dtls_pkg_protocol_extension_ErrALPNInvalidFormat {H : Type} : DataW H := .iface "*errors.errorString" (.ptr (.agg [.lit (.string [105, 110, 118, 97, 108, 105, 100, 32, 97, 108, 112, 110, 32, 102, 111, 114, 109, 97, 116])]))
def laid_pub_convoy_pub_dtls_pkg_protocol_extension_errInvalidExtensionType {H : Type} : DataW H := .iface "*errors.errorString" (.ptr (.agg [.lit (.string [105, 110, 118, 97, 108, 105, 100, 32, 101, 120, 116, 101, 110, 115, 105, 111, 110, 32, 116, 121, 112, 101])]))
def laid_pub_convoy_pub_dtls_pkg_protocol_extension_errLengthMismatch {H : Type} : DataW H := .iface "*errors.errorString" (.ptr (.agg [.lit (.string [100, 97, 116, 97, 32, 108, 101, 110, 103, 116, 104, 32, 97, 110, 100, 32, 100, 101, 99, 108, 97, 114, 101, 100, 32, 108, 101, 110, 103, 116, 104, 32, 100, 111, 32, 110, 111, 116, 32, 109, 97, 116, 99, 104])]))
def laid_pub_convoy_pub_dtls_pkg_protocol_extension_errBufferTooSmall {H : Type} : DataW H := .iface "*errors.errorString" (.ptr (.agg [.lit (.string [98, 117, 102, 102, 101, 114, 32, 105, 115, 32, 116, 111, 111, 32, 115, 109, 97, 108, 108])]))
def laid_pub_convoy_pub_dtls_pkg_protocol_extension_errInvalidCertificateAuthFormat {H : Type} : DataW H := .iface "*errors.errorString" (.ptr (.agg [.lit (.string [105, 110, 118, 97, 108, 105, 100, 32, 67, 101, 114, 116, 105, 102, 105, 99, 97, 116, 101, 32, 65, 117, 116, 104, 111, 114, 105, 116, 105, 101, 115, 32, 101, 120, 116, 101, 110, 115, 105, 111, 110, 32, 102, 111, 114, 109, 97, 116])]))
def laid_pub_convoy_pub_dtls_pkg_protocol_extension_errPreSharedKeyFormat {H : Type} : DataW H := .iface "*errors.errorString" (.ptr (.agg [.lit (.string [105, 110, 118, 97, 108, 105, 100, 32, 80, 114, 101, 45, 83, 104, 97, 114, 101, 100, 32, 75, 101, 121, 32, 101, 120, 116, 101, 110, 115, 105, 111, 110, 32, 102, 111, 114, 109, 97, 116])]))
def laid_pub_convoy_pub_dtls_pkg_protocol_extension_errInvalidKeyShareFormat {H : Type} : DataW H := .iface "*errors.errorString" (.ptr (.agg [.lit (.string [105, 110, 118, 97, 108, 105, 100, 32, 107, 101, 121, 95, 115, 104, 97, 114, 101, 32, 102, 111, 114, 109, 97, 116])]))
def laid_pub_convoy_pub_dtls_pkg_protocol_extension_errDuplicateKeyShare {H : Type} : DataW H := .iface "*errors.errorString" (.ptr (.agg [.lit (.string [100, 117, 112, 108, 105, 99, 97, 116, 101, 32, 107, 101, 121, 95, 115, 104, 97, 114, 101, 32, 103, 114, 111, 117, 112])]))
def laid_pub_convoy_pub_dtls_pkg_protocol_handshake_errBufferTooSmall {H : Type} : DataW H := .iface "*errors.errorString" (.ptr (.agg [.lit (.string [98, 117, 102, 102, 101, 114, 32, 105, 115, 32, 116, 111, 111, 32, 115, 109, 97, 108, 108])]))
def laid_pub_convoy_pub_dtls_pkg_protocol_handshake_errCipherSuiteUnset {H : Type} : DataW H := .iface "*errors.errorString" (.ptr (.agg [.lit (.string [115, 101, 114, 118, 101, 114, 32, 104, 101, 108, 108, 111, 32, 99, 97, 110, 32, 110, 111, 116, 32, 98, 101, 32, 99, 114, 101, 97, 116, 101, 100, 32, 119, 105, 116, 104, 111, 117, 116, 32, 97, 32, 99, 105, 112, 104, 101, 114, 32, 115, 117, 105, 116, 101])]))
def laid_pub_convoy_pub_dtls_pkg_protocol_recordlayer_ErrInvalidPacketLength {H : Type} : DataW H := .iface "*errors.errorString" (.ptr (.agg [.lit (.string [112, 97, 99, 107, 101, 116, 32, 108, 101, 110, 103, 116, 104, 32, 97, 110, 100, 32, 100, 101, 99, 108, 97, 114, 101, 100, 32, 108, 101, 110, 103, 116, 104, 32, 100, 111, 32, 110, 111, 116, 32, 109, 97, 116, 99, 104])]))

/-- 'laws.FnHeaderShort': WHATEVER THE INPUT: true; the input reads as it did. -/
def fnHeaderShortSpec : ChangeSpec := { name := "fnHeaderShort", fn := fun _ => fun
  | [d1, d2] => { results := [.lit (.bool true)], args := [d1, d2] }
  | _ => none }
def fnHeaderShortRow : OpenClaim := { program := "ythfpfakdchhodaadoor", sum := "5cc3bfdc8cbe14493b0cb85394c466bf272a4e174d94e6ba4100b97486121e8c", func := "pub-convoy/laws.FnHeaderShort", spec := "fnHeaderShort", named := ["pub-convoy/pub/dtls/pkg/protocol/recordlayer.errBufferTooSmall", "encoding/binary.BigEndian", "pub-convoy/pub/dtls/pkg/protocol.Version1_0", "pub-convoy/pub/dtls/pkg/protocol.Version1_2", "pub-convoy/pub/dtls/pkg/protocol/recordlayer.errUnsupportedProtocolVersion"], apart := false, laid := [("pub-convoy/pub/dtls/pkg/protocol.Version1_0", laid_pub_convoy_pub_dtls_pkg_protocol_Version1_0), ("pub-convoy/pub/dtls/pkg/protocol.Version1_2", laid_pub_convoy_pub_dtls_pkg_protocol_Version1_2), ("pub-convoy/pub/dtls/pkg/protocol/recordlayer.errBufferTooSmall", laid_pub_convoy_pub_dtls_pkg_protocol_recordlayer_errBufferTooSmall), ("pub-convoy/pub/dtls/pkg/protocol/recordlayer.errUnsupportedProtocolVersion", laid_pub_convoy_pub_dtls_pkg_protocol_recordlayer_errUnsupportedProtocolVersion)] }
def FnHeaderShortSaid : Prop := fnHeaderShortRow.holds Tryd.pinned (OpenSpec.ofChange fnHeaderShortSpec)

/-- ITS FALSE NEIGHBOUR: 'it returns false'. Refute it at one input. -/
def fnHeaderShortWrong : ChangeSpec := { name := "fnHeaderShort", fn := fun _ => fun
  | [d1, d2] => { results := [.lit (.bool false)], args := [d1, d2] }
  | _ => none }
def FnHeaderShortWrongFalsely : Prop := fnHeaderShortRow.holds Tryd.pinned (OpenSpec.ofChange fnHeaderShortWrong)

/-- 'laws.FnSRTPWrite': WHATEVER THE INPUT: true; the input reads as it did. -/
def fnSRTPWriteSpec : ChangeSpec := { name := "fnSRTPWrite", fn := fun _ => fun
  | [d1, d2] => { results := [.lit (.bool true)], args := [d1, d2] }
  | _ => none }
def fnSRTPWriteRow : OpenClaim := { program := "ythfpfakdchhodaadoor", sum := "5cc3bfdc8cbe14493b0cb85394c466bf272a4e174d94e6ba4100b97486121e8c", func := "pub-convoy/laws.FnSRTPWrite", spec := "fnSRTPWrite", named := ["pub-convoy/pub/dtls/pkg/protocol/extension.errMasterKeyIdentifierTooLarge", "pub-convoy/pub/dtls/pkg/protocol/extension.errUseSRTPDataTooLarge", "encoding/binary.BigEndian"], apart := false, laid := [("pub-convoy/pub/dtls/pkg/protocol/extension.errMasterKeyIdentifierTooLarge", laid_pub_convoy_pub_dtls_pkg_protocol_extension_errMasterKeyIdentifierTooLarge), ("pub-convoy/pub/dtls/pkg/protocol/extension.errUseSRTPDataTooLarge", laid_pub_convoy_pub_dtls_pkg_protocol_extension_errUseSRTPDataTooLarge)] }
def FnSRTPWriteSaid : Prop := fnSRTPWriteRow.holds Tryd.pinned (OpenSpec.ofChange fnSRTPWriteSpec)

/-- ITS FALSE NEIGHBOUR: 'it returns false'. Refute it at one input. -/
def fnSRTPWriteWrong : ChangeSpec := { name := "fnSRTPWrite", fn := fun _ => fun
  | [d1, d2] => { results := [.lit (.bool false)], args := [d1, d2] }
  | _ => none }
def FnSRTPWriteWrongFalsely : Prop := fnSRTPWriteRow.holds Tryd.pinned (OpenSpec.ofChange fnSRTPWriteWrong)

/-- 'laws.FnCertificateWrite': WHATEVER THE INPUT: true; the input reads as it did. -/
def fnCertificateWriteSpec : ChangeSpec := { name := "fnCertificateWrite", fn := fun _ => fun
  | [d] => { results := [.lit (.bool true)], args := [d] }
  | _ => none }
def fnCertificateWriteRow : OpenClaim := { program := "ythfpfakdchhodaadoor", sum := "5cc3bfdc8cbe14493b0cb85394c466bf272a4e174d94e6ba4100b97486121e8c", func := "pub-convoy/laws.FnCertificateWrite", spec := "fnCertificateWrite", named := ["pub-convoy/pub/dtls/pkg/protocol/handshake.errLengthMismatch", "encoding/binary.BigEndian"], apart := false, laid := [("pub-convoy/pub/dtls/pkg/protocol/handshake.errLengthMismatch", laid_pub_convoy_pub_dtls_pkg_protocol_handshake_errLengthMismatch)] }
def FnCertificateWriteSaid : Prop := fnCertificateWriteRow.holds Tryd.pinned (OpenSpec.ofChange fnCertificateWriteSpec)

/-- ITS FALSE NEIGHBOUR: 'it returns false'. Refute it at one input. -/
def fnCertificateWriteWrong : ChangeSpec := { name := "fnCertificateWrite", fn := fun _ => fun
  | [d] => { results := [.lit (.bool false)], args := [d] }
  | _ => none }
def FnCertificateWriteWrongFalsely : Prop := fnCertificateWriteRow.holds Tryd.pinned (OpenSpec.ofChange fnCertificateWriteWrong)

/-- 'laws.FnALPNBack': WHATEVER THE INPUT: true; the input reads as it did. -/
def fnALPNBackSpec : ChangeSpec := { name := "fnALPNBack", fn := fun _ => fun
  | [d] => { results := [.lit (.bool true)], args := [d] }
  | _ => none }
def fnALPNBackRow : OpenClaim := { program := "ythfpfakdchhodaadoor", sum := "5cc3bfdc8cbe14493b0cb85394c466bf272a4e174d94e6ba4100b97486121e8c", func := "pub-convoy/laws.FnALPNBack", spec := "fnALPNBack", unfollowed := true, recurses := true, named := ["pub-convoy/pub/dtls/pkg/protocol/extension.errInvalidExtensionType", "pub-convoy/pub/dtls/pkg/protocol/extension.errLengthMismatch", "pub-convoy/pub/dtls/pkg/protocol/extension.ErrALPNInvalidFormat"], apart := false, laid := [("pub-convoy/pub/dtls/pkg/protocol/extension.ErrALPNInvalidFormat", laid_pub_convoy_pub_dtls_pkg_protocol_extension_ErrALPNInvalidFormat), ("pub-convoy/pub/dtls/pkg/protocol/extension.errInvalidExtensionType", laid_pub_convoy_pub_dtls_pkg_protocol_extension_errInvalidExtensionType), ("pub-convoy/pub/dtls/pkg/protocol/extension.errLengthMismatch", laid_pub_convoy_pub_dtls_pkg_protocol_extension_errLengthMismatch)] }
def FnALPNBackSaid : Prop := fnALPNBackRow.holds Tryd.pinned (OpenSpec.ofChange fnALPNBackSpec)

/-- ITS FALSE NEIGHBOUR: 'it returns false'. Refute it at one input. -/
def fnALPNBackWrong : ChangeSpec := { name := "fnALPNBack", fn := fun _ => fun
  | [d] => { results := [.lit (.bool false)], args := [d] }
  | _ => none }
def FnALPNBackWrongFalsely : Prop := fnALPNBackRow.holds Tryd.pinned (OpenSpec.ofChange fnALPNBackWrong)

/-- 'laws.FnAuthoritiesBack': WHATEVER THE INPUT: true; the input reads as it did. -/
def fnAuthoritiesBackSpec : ChangeSpec := { name := "fnAuthoritiesBack", fn := fun _ => fun
  | [d] => { results := [.lit (.bool true)], args := [d] }
  | _ => none }
def fnAuthoritiesBackRow : OpenClaim := { program := "ythfpfakdchhodaadoor", sum := "5cc3bfdc8cbe14493b0cb85394c466bf272a4e174d94e6ba4100b97486121e8c", func := "pub-convoy/laws.FnAuthoritiesBack", spec := "fnAuthoritiesBack", unfollowed := true, recurses := true, named := ["pub-convoy/pub/dtls/pkg/protocol/extension.errInvalidExtensionType", "pub-convoy/pub/dtls/pkg/protocol/extension.errBufferTooSmall", "pub-convoy/pub/dtls/pkg/protocol/extension.errInvalidCertificateAuthFormat", "pub-convoy/pub/dtls/pkg/protocol/extension.errLengthMismatch"], apart := false, laid := [("pub-convoy/pub/dtls/pkg/protocol/extension.errBufferTooSmall", laid_pub_convoy_pub_dtls_pkg_protocol_extension_errBufferTooSmall), ("pub-convoy/pub/dtls/pkg/protocol/extension.errInvalidExtensionType", laid_pub_convoy_pub_dtls_pkg_protocol_extension_errInvalidExtensionType), ("pub-convoy/pub/dtls/pkg/protocol/extension.errLengthMismatch", laid_pub_convoy_pub_dtls_pkg_protocol_extension_errLengthMismatch), ("pub-convoy/pub/dtls/pkg/protocol/extension.errInvalidCertificateAuthFormat", laid_pub_convoy_pub_dtls_pkg_protocol_extension_errInvalidCertificateAuthFormat)] }
def FnAuthoritiesBackSaid : Prop := fnAuthoritiesBackRow.holds Tryd.pinned (OpenSpec.ofChange fnAuthoritiesBackSpec)

/-- ITS FALSE NEIGHBOUR: 'it returns false'. Refute it at one input. -/
def fnAuthoritiesBackWrong : ChangeSpec := { name := "fnAuthoritiesBack", fn := fun _ => fun
  | [d] => { results := [.lit (.bool false)], args := [d] }
  | _ => none }
def FnAuthoritiesBackWrongFalsely : Prop := fnAuthoritiesBackRow.holds Tryd.pinned (OpenSpec.ofChange fnAuthoritiesBackWrong)

/-- 'laws.FnPreSharedKeyBack': WHATEVER THE INPUT: true; the input reads as it did. -/
def fnPreSharedKeyBackSpec : ChangeSpec := { name := "fnPreSharedKeyBack", fn := fun _ => fun
  | [d1, d2] => { results := [.lit (.bool true)], args := [d1, d2] }
  | _ => none }
def fnPreSharedKeyBackRow : OpenClaim := { program := "ythfpfakdchhodaadoor", sum := "5cc3bfdc8cbe14493b0cb85394c466bf272a4e174d94e6ba4100b97486121e8c", func := "pub-convoy/laws.FnPreSharedKeyBack", spec := "fnPreSharedKeyBack", unfollowed := true, recurses := true, named := ["pub-convoy/pub/dtls/pkg/protocol/extension.errInvalidExtensionType", "pub-convoy/pub/dtls/pkg/protocol/extension.errBufferTooSmall", "pub-convoy/pub/dtls/pkg/protocol/extension.errPreSharedKeyFormat", "pub-convoy/pub/dtls/pkg/protocol/extension.errLengthMismatch"], apart := false, laid := [("pub-convoy/pub/dtls/pkg/protocol/extension.errBufferTooSmall", laid_pub_convoy_pub_dtls_pkg_protocol_extension_errBufferTooSmall), ("pub-convoy/pub/dtls/pkg/protocol/extension.errInvalidExtensionType", laid_pub_convoy_pub_dtls_pkg_protocol_extension_errInvalidExtensionType), ("pub-convoy/pub/dtls/pkg/protocol/extension.errLengthMismatch", laid_pub_convoy_pub_dtls_pkg_protocol_extension_errLengthMismatch), ("pub-convoy/pub/dtls/pkg/protocol/extension.errPreSharedKeyFormat", laid_pub_convoy_pub_dtls_pkg_protocol_extension_errPreSharedKeyFormat)] }
def FnPreSharedKeyBackSaid : Prop := fnPreSharedKeyBackRow.holds Tryd.pinned (OpenSpec.ofChange fnPreSharedKeyBackSpec)

/-- ITS FALSE NEIGHBOUR: 'it returns false'. Refute it at one input. -/
def fnPreSharedKeyBackWrong : ChangeSpec := { name := "fnPreSharedKeyBack", fn := fun _ => fun
  | [d1, d2] => { results := [.lit (.bool false)], args := [d1, d2] }
  | _ => none }
def FnPreSharedKeyBackWrongFalsely : Prop := fnPreSharedKeyBackRow.holds Tryd.pinned (OpenSpec.ofChange fnPreSharedKeyBackWrong)

/-- 'laws.FnPreSharedKeySelectedCut': WHATEVER THE INPUT: true; the input reads as it did. -/
def fnPreSharedKeySelectedCutSpec : ChangeSpec := { name := "fnPreSharedKeySelectedCut", fn := fun _ => fun
  | [d1, d2] => { results := [.lit (.bool true)], args := [d1, d2] }
  | _ => none }
def fnPreSharedKeySelectedCutRow : OpenClaim := { program := "ythfpfakdchhodaadoor", sum := "5cc3bfdc8cbe14493b0cb85394c466bf272a4e174d94e6ba4100b97486121e8c", func := "pub-convoy/laws.FnPreSharedKeySelectedCut", spec := "fnPreSharedKeySelectedCut", named := ["pub-convoy/pub/dtls/pkg/protocol/extension.errInvalidExtensionType", "pub-convoy/pub/dtls/pkg/protocol/extension.errBufferTooSmall", "pub-convoy/pub/dtls/pkg/protocol/extension.errPreSharedKeyFormat", "pub-convoy/pub/dtls/pkg/protocol/extension.errLengthMismatch"], apart := false, laid := [("pub-convoy/pub/dtls/pkg/protocol/extension.errBufferTooSmall", laid_pub_convoy_pub_dtls_pkg_protocol_extension_errBufferTooSmall), ("pub-convoy/pub/dtls/pkg/protocol/extension.errInvalidExtensionType", laid_pub_convoy_pub_dtls_pkg_protocol_extension_errInvalidExtensionType), ("pub-convoy/pub/dtls/pkg/protocol/extension.errLengthMismatch", laid_pub_convoy_pub_dtls_pkg_protocol_extension_errLengthMismatch), ("pub-convoy/pub/dtls/pkg/protocol/extension.errPreSharedKeyFormat", laid_pub_convoy_pub_dtls_pkg_protocol_extension_errPreSharedKeyFormat)] }
def FnPreSharedKeySelectedCutSaid : Prop := fnPreSharedKeySelectedCutRow.holds Tryd.pinned (OpenSpec.ofChange fnPreSharedKeySelectedCutSpec)

/-- ITS FALSE NEIGHBOUR: 'it returns false'. Refute it at one input. -/
def fnPreSharedKeySelectedCutWrong : ChangeSpec := { name := "fnPreSharedKeySelectedCut", fn := fun _ => fun
  | [d1, d2] => { results := [.lit (.bool false)], args := [d1, d2] }
  | _ => none }
def FnPreSharedKeySelectedCutWrongFalsely : Prop := fnPreSharedKeySelectedCutRow.holds Tryd.pinned (OpenSpec.ofChange fnPreSharedKeySelectedCutWrong)

/-- 'laws.FnKeyShareServerCut': WHATEVER THE INPUT: true; the input reads as it did. -/
def fnKeyShareServerCutSpec : ChangeSpec := { name := "fnKeyShareServerCut", fn := fun _ => fun
  | [d1, d2] => { results := [.lit (.bool true)], args := [d1, d2] }
  | _ => none }
def fnKeyShareServerCutRow : OpenClaim := { program := "ythfpfakdchhodaadoor", sum := "5cc3bfdc8cbe14493b0cb85394c466bf272a4e174d94e6ba4100b97486121e8c", func := "pub-convoy/laws.FnKeyShareServerCut", spec := "fnKeyShareServerCut", named := ["pub-convoy/pub/dtls/pkg/protocol/extension.errInvalidExtensionType", "pub-convoy/pub/dtls/pkg/protocol/extension.errBufferTooSmall", "pub-convoy/pub/dtls/pkg/protocol/extension.errInvalidKeyShareFormat", "pub-convoy/pub/dtls/pkg/protocol/extension.errDuplicateKeyShare"], apart := false, laid := [("pub-convoy/pub/dtls/pkg/protocol/extension.errBufferTooSmall", laid_pub_convoy_pub_dtls_pkg_protocol_extension_errBufferTooSmall), ("pub-convoy/pub/dtls/pkg/protocol/extension.errInvalidExtensionType", laid_pub_convoy_pub_dtls_pkg_protocol_extension_errInvalidExtensionType), ("pub-convoy/pub/dtls/pkg/protocol/extension.errInvalidKeyShareFormat", laid_pub_convoy_pub_dtls_pkg_protocol_extension_errInvalidKeyShareFormat), ("pub-convoy/pub/dtls/pkg/protocol/extension.errDuplicateKeyShare", laid_pub_convoy_pub_dtls_pkg_protocol_extension_errDuplicateKeyShare)] }
def FnKeyShareServerCutSaid : Prop := fnKeyShareServerCutRow.holds Tryd.pinned (OpenSpec.ofChange fnKeyShareServerCutSpec)

/-- ITS FALSE NEIGHBOUR: 'it returns false'. Refute it at one input. -/
def fnKeyShareServerCutWrong : ChangeSpec := { name := "fnKeyShareServerCut", fn := fun _ => fun
  | [d1, d2] => { results := [.lit (.bool false)], args := [d1, d2] }
  | _ => none }
def FnKeyShareServerCutWrongFalsely : Prop := fnKeyShareServerCutRow.holds Tryd.pinned (OpenSpec.ofChange fnKeyShareServerCutWrong)

/-- 'laws.FnClientKeyBothBack': WHATEVER THE INPUT: true; the input reads as it did. -/
def fnClientKeyBothBackSpec : ChangeSpec := { name := "fnClientKeyBothBack", fn := fun _ => fun
  | [d1, d2] => { results := [.lit (.bool true)], args := [d1, d2] }
  | _ => none }
def fnClientKeyBothBackRow : OpenClaim := { program := "ythfpfakdchhodaadoor", sum := "5cc3bfdc8cbe14493b0cb85394c466bf272a4e174d94e6ba4100b97486121e8c", func := "pub-convoy/laws.FnClientKeyBothBack", spec := "fnClientKeyBothBack", unfollowed := true, recurses := true, named := ["pub-convoy/pub/dtls/pkg/protocol/handshake.errBufferTooSmall", "pub-convoy/pub/dtls/pkg/protocol/handshake.errCipherSuiteUnset", "encoding/binary.BigEndian"], apart := false, laid := [("pub-convoy/pub/dtls/pkg/protocol/handshake.errBufferTooSmall", laid_pub_convoy_pub_dtls_pkg_protocol_handshake_errBufferTooSmall), ("pub-convoy/pub/dtls/pkg/protocol/handshake.errCipherSuiteUnset", laid_pub_convoy_pub_dtls_pkg_protocol_handshake_errCipherSuiteUnset)] }
def FnClientKeyBothBackSaid : Prop := fnClientKeyBothBackRow.holds Tryd.pinned (OpenSpec.ofChange fnClientKeyBothBackSpec)

/-- ITS FALSE NEIGHBOUR: 'it returns false'. Refute it at one input. -/
def fnClientKeyBothBackWrong : ChangeSpec := { name := "fnClientKeyBothBack", fn := fun _ => fun
  | [d1, d2] => { results := [.lit (.bool false)], args := [d1, d2] }
  | _ => none }
def FnClientKeyBothBackWrongFalsely : Prop := fnClientKeyBothBackRow.holds Tryd.pinned (OpenSpec.ofChange fnClientKeyBothBackWrong)

/-- 'laws.FnPointFormatsBack': WHATEVER THE INPUT: true; the input reads as it did. -/
def fnPointFormatsBackSpec : ChangeSpec := { name := "fnPointFormatsBack", fn := fun _ => fun
  | [d] => { results := [.lit (.bool true)], args := [d] }
  | _ => none }
def fnPointFormatsBackRow : OpenClaim := { program := "ythfpfakdchhodaadoor", sum := "5cc3bfdc8cbe14493b0cb85394c466bf272a4e174d94e6ba4100b97486121e8c", func := "pub-convoy/laws.FnPointFormatsBack", spec := "fnPointFormatsBack", unfollowed := true, recurses := true, named := ["pub-convoy/pub/dtls/pkg/protocol/extension.errBufferTooSmall", "encoding/binary.BigEndian", "pub-convoy/pub/dtls/pkg/protocol/extension.errInvalidExtensionType", "pub-convoy/pub/dtls/pkg/protocol/extension.errLengthMismatch"], apart := false, laid := [("pub-convoy/pub/dtls/pkg/protocol/extension.errBufferTooSmall", laid_pub_convoy_pub_dtls_pkg_protocol_extension_errBufferTooSmall), ("pub-convoy/pub/dtls/pkg/protocol/extension.errInvalidExtensionType", laid_pub_convoy_pub_dtls_pkg_protocol_extension_errInvalidExtensionType), ("pub-convoy/pub/dtls/pkg/protocol/extension.errLengthMismatch", laid_pub_convoy_pub_dtls_pkg_protocol_extension_errLengthMismatch)] }
def FnPointFormatsBackSaid : Prop := fnPointFormatsBackRow.holds Tryd.pinned (OpenSpec.ofChange fnPointFormatsBackSpec)

/-- ITS FALSE NEIGHBOUR: 'it returns false'. Refute it at one input. -/
def fnPointFormatsBackWrong : ChangeSpec := { name := "fnPointFormatsBack", fn := fun _ => fun
  | [d] => { results := [.lit (.bool false)], args := [d] }
  | _ => none }
def FnPointFormatsBackWrongFalsely : Prop := fnPointFormatsBackRow.holds Tryd.pinned (OpenSpec.ofChange fnPointFormatsBackWrong)

/-- 'laws.FnSuitesCut': WHATEVER THE INPUT: true; the input reads as it did. -/
def fnSuitesCutSpec : ChangeSpec := { name := "fnSuitesCut", fn := fun _ => fun
  | [d1, d2] => { results := [.lit (.bool true)], args := [d1, d2] }
  | _ => none }
def fnSuitesCutRow : OpenClaim := { program := "ythfpfakdchhodaadoor", sum := "5cc3bfdc8cbe14493b0cb85394c466bf272a4e174d94e6ba4100b97486121e8c", func := "pub-convoy/laws.FnSuitesCut", spec := "fnSuitesCut", named := ["encoding/binary.BigEndian", "pub-convoy/pub/dtls/pkg/protocol/handshake.errBufferTooSmall"], apart := false, laid := [("pub-convoy/pub/dtls/pkg/protocol/handshake.errBufferTooSmall", laid_pub_convoy_pub_dtls_pkg_protocol_handshake_errBufferTooSmall)] }
def FnSuitesCutSaid : Prop := fnSuitesCutRow.holds Tryd.pinned (OpenSpec.ofChange fnSuitesCutSpec)

/-- ITS FALSE NEIGHBOUR: 'it returns false'. Refute it at one input. -/
def fnSuitesCutWrong : ChangeSpec := { name := "fnSuitesCut", fn := fun _ => fun
  | [d1, d2] => { results := [.lit (.bool false)], args := [d1, d2] }
  | _ => none }
def FnSuitesCutWrongFalsely : Prop := fnSuitesCutRow.holds Tryd.pinned (OpenSpec.ofChange fnSuitesCutWrong)

/-- 'laws.FnDatagramCut': WHATEVER THE INPUT: true; the input reads as it did. -/
def fnDatagramCutSpec : ChangeSpec := { name := "fnDatagramCut", fn := fun _ => fun
  | [d1, d2, d3, d4] => { results := [.lit (.bool true)], args := [d1, d2, d3, d4] }
  | _ => none }
def fnDatagramCutRow : OpenClaim := { program := "ythfpfakdchhodaadoor", sum := "5cc3bfdc8cbe14493b0cb85394c466bf272a4e174d94e6ba4100b97486121e8c", func := "pub-convoy/laws.FnDatagramCut", spec := "fnDatagramCut", named := ["pub-convoy/pub/dtls/pkg/protocol/recordlayer.ErrInvalidPacketLength", "encoding/binary.BigEndian"], apart := false, laid := [("pub-convoy/pub/dtls/pkg/protocol/recordlayer.ErrInvalidPacketLength", laid_pub_convoy_pub_dtls_pkg_protocol_recordlayer_ErrInvalidPacketLength)] }
def FnDatagramCutSaid : Prop := fnDatagramCutRow.holds Tryd.pinned (OpenSpec.ofChange fnDatagramCutSpec)

/-- ITS FALSE NEIGHBOUR: 'it returns false'. Refute it at one input. -/
def fnDatagramCutWrong : ChangeSpec := { name := "fnDatagramCut", fn := fun _ => fun
  | [d1, d2, d3, d4] => { results := [.lit (.bool false)], args := [d1, d2, d3, d4] }
  | _ => none }
def FnDatagramCutWrongFalsely : Prop := fnDatagramCutRow.holds Tryd.pinned (OpenSpec.ofChange fnDatagramCutWrong)

/- THE SECOND FORM. 'bulk': how many values and letters a reading holds, each counted each time it is reached (what is shared counts as often as it is met; a slice's spare places count too). A statement '..UptoSaid' is the law's where the arguments, and the package variables that the reading takes, are together of bulk at most 1048576: NARROWER than '..Said'. Prove '..Said' where nothing that the law and all that it calls make is longer than what came in: it says more and counts as full. Else prove '..UptoSaid'. A law counts once. -/
mutual
def uptoBulk {H : Type} : DataW H → Nat
  | .lit (.string bytes) => bytes.length + 1
  | .lit _ => 1
  | .nil => 1
  | .ptr d => uptoBulk d + 1
  | .slice elems spare => uptoBulkAll elems + uptoBulkAll spare + 1
  | .agg parts => uptoBulkAll parts + 1
  | .iface _ d => uptoBulk d + 1
  | .map entries => uptoBulkEntries entries + 1
  | .held _ => 1
def uptoBulkAll {H : Type} : List (DataW H) → Nat
  | [] => 0
  | d :: r => uptoBulk d + uptoBulkAll r
def uptoBulkEntries {H : Type} : List (Lit × DataW H) → Nat
  | [] => 0
  | x :: r => uptoBulkEntry x + uptoBulkEntries r
def uptoBulkEntry {H : Type} : Lit × DataW H → Nat
  | (.string bytes, d) => bytes.length + uptoBulk d + 1
  | (_, d) => uptoBulk d + 1
 end
def uptoSmall : (H : Type) → List (DataW H) → Bool := fun _ ds => decide (uptoBulkAll ds ≤ 1048576)
def OpenSpec.upto (s : _root_.Go.ChangeSpec) : _root_.Go.OpenSpec := { _root_.Go.OpenSpec.ofChange s with cond := some uptoSmall }

/-- 'laws.FnHeaderShort', WHERE WHAT IT READS IS OF BULK AT MOST 1048576: true; the input reads as it did. -/
def fnHeaderShortUptoRow : OpenClaim := { program := "ythfpfakdchhodaadoor", sum := "5cc3bfdc8cbe14493b0cb85394c466bf272a4e174d94e6ba4100b97486121e8c", func := "pub-convoy/laws.FnHeaderShort", spec := "fnHeaderShort", named := ["pub-convoy/pub/dtls/pkg/protocol/recordlayer.errBufferTooSmall", "encoding/binary.BigEndian", "pub-convoy/pub/dtls/pkg/protocol.Version1_0", "pub-convoy/pub/dtls/pkg/protocol.Version1_2", "pub-convoy/pub/dtls/pkg/protocol/recordlayer.errUnsupportedProtocolVersion"], apart := false, laid := [("pub-convoy/pub/dtls/pkg/protocol.Version1_0", laid_pub_convoy_pub_dtls_pkg_protocol_Version1_0), ("pub-convoy/pub/dtls/pkg/protocol.Version1_2", laid_pub_convoy_pub_dtls_pkg_protocol_Version1_2), ("pub-convoy/pub/dtls/pkg/protocol/recordlayer.errBufferTooSmall", laid_pub_convoy_pub_dtls_pkg_protocol_recordlayer_errBufferTooSmall), ("pub-convoy/pub/dtls/pkg/protocol/recordlayer.errUnsupportedProtocolVersion", laid_pub_convoy_pub_dtls_pkg_protocol_recordlayer_errUnsupportedProtocolVersion)], narrowed := true }
def FnHeaderShortUptoSaid : Prop := fnHeaderShortUptoRow.holds Tryd.pinned (OpenSpec.upto fnHeaderShortSpec)

/-- 'laws.FnSRTPWrite', WHERE WHAT IT READS IS OF BULK AT MOST 1048576: true; the input reads as it did. -/
def fnSRTPWriteUptoRow : OpenClaim := { program := "ythfpfakdchhodaadoor", sum := "5cc3bfdc8cbe14493b0cb85394c466bf272a4e174d94e6ba4100b97486121e8c", func := "pub-convoy/laws.FnSRTPWrite", spec := "fnSRTPWrite", named := ["pub-convoy/pub/dtls/pkg/protocol/extension.errMasterKeyIdentifierTooLarge", "pub-convoy/pub/dtls/pkg/protocol/extension.errUseSRTPDataTooLarge", "encoding/binary.BigEndian"], apart := false, laid := [("pub-convoy/pub/dtls/pkg/protocol/extension.errMasterKeyIdentifierTooLarge", laid_pub_convoy_pub_dtls_pkg_protocol_extension_errMasterKeyIdentifierTooLarge), ("pub-convoy/pub/dtls/pkg/protocol/extension.errUseSRTPDataTooLarge", laid_pub_convoy_pub_dtls_pkg_protocol_extension_errUseSRTPDataTooLarge)], narrowed := true }
def FnSRTPWriteUptoSaid : Prop := fnSRTPWriteUptoRow.holds Tryd.pinned (OpenSpec.upto fnSRTPWriteSpec)

/-- 'laws.FnCertificateWrite', WHERE WHAT IT READS IS OF BULK AT MOST 1048576: true; the input reads as it did. -/
def fnCertificateWriteUptoRow : OpenClaim := { program := "ythfpfakdchhodaadoor", sum := "5cc3bfdc8cbe14493b0cb85394c466bf272a4e174d94e6ba4100b97486121e8c", func := "pub-convoy/laws.FnCertificateWrite", spec := "fnCertificateWrite", named := ["pub-convoy/pub/dtls/pkg/protocol/handshake.errLengthMismatch", "encoding/binary.BigEndian"], apart := false, laid := [("pub-convoy/pub/dtls/pkg/protocol/handshake.errLengthMismatch", laid_pub_convoy_pub_dtls_pkg_protocol_handshake_errLengthMismatch)], narrowed := true }
def FnCertificateWriteUptoSaid : Prop := fnCertificateWriteUptoRow.holds Tryd.pinned (OpenSpec.upto fnCertificateWriteSpec)

/-- 'laws.FnALPNBack', WHERE WHAT IT READS IS OF BULK AT MOST 1048576: true; the input reads as it did. -/
def fnALPNBackUptoRow : OpenClaim := { program := "ythfpfakdchhodaadoor", sum := "5cc3bfdc8cbe14493b0cb85394c466bf272a4e174d94e6ba4100b97486121e8c", func := "pub-convoy/laws.FnALPNBack", spec := "fnALPNBack", unfollowed := true, recurses := true, named := ["pub-convoy/pub/dtls/pkg/protocol/extension.errInvalidExtensionType", "pub-convoy/pub/dtls/pkg/protocol/extension.errLengthMismatch", "pub-convoy/pub/dtls/pkg/protocol/extension.ErrALPNInvalidFormat"], apart := false, laid := [("pub-convoy/pub/dtls/pkg/protocol/extension.ErrALPNInvalidFormat", laid_pub_convoy_pub_dtls_pkg_protocol_extension_ErrALPNInvalidFormat), ("pub-convoy/pub/dtls/pkg/protocol/extension.errInvalidExtensionType", laid_pub_convoy_pub_dtls_pkg_protocol_extension_errInvalidExtensionType), ("pub-convoy/pub/dtls/pkg/protocol/extension.errLengthMismatch", laid_pub_convoy_pub_dtls_pkg_protocol_extension_errLengthMismatch)], narrowed := true }
def FnALPNBackUptoSaid : Prop := fnALPNBackUptoRow.holds Tryd.pinned (OpenSpec.upto fnALPNBackSpec)

/-- 'laws.FnAuthoritiesBack', WHERE WHAT IT READS IS OF BULK AT MOST 1048576: true; the input reads as it did. -/
def fnAuthoritiesBackUptoRow : OpenClaim := { program := "ythfpfakdchhodaadoor", sum := "5cc3bfdc8cbe14493b0cb85394c466bf272a4e174d94e6ba4100b97486121e8c", func := "pub-convoy/laws.FnAuthoritiesBack", spec := "fnAuthoritiesBack", unfollowed := true, recurses := true, named := ["pub-convoy/pub/dtls/pkg/protocol/extension.errInvalidExtensionType", "pub-convoy/pub/dtls/pkg/protocol/extension.errBufferTooSmall", "pub-convoy/pub/dtls/pkg/protocol/extension.errInvalidCertificateAuthFormat", "pub-convoy/pub/dtls/pkg/protocol/extension.errLengthMismatch"], apart := false, laid := [("pub-convoy/pub/dtls/pkg/protocol/extension.errBufferTooSmall", laid_pub_convoy_pub_dtls_pkg_protocol_extension_errBufferTooSmall), ("pub-convoy/pub/dtls/pkg/protocol/extension.errInvalidExtensionType", laid_pub_convoy_pub_dtls_pkg_protocol_extension_errInvalidExtensionType), ("pub-convoy/pub/dtls/pkg/protocol/extension.errLengthMismatch", laid_pub_convoy_pub_dtls_pkg_protocol_extension_errLengthMismatch), ("pub-convoy/pub/dtls/pkg/protocol/extension.errInvalidCertificateAuthFormat", laid_pub_convoy_pub_dtls_pkg_protocol_extension_errInvalidCertificateAuthFormat)], narrowed := true }
def FnAuthoritiesBackUptoSaid : Prop := fnAuthoritiesBackUptoRow.holds Tryd.pinned (OpenSpec.upto fnAuthoritiesBackSpec)

/-- 'laws.FnPreSharedKeyBack', WHERE WHAT IT READS IS OF BULK AT MOST 1048576: true; the input reads as it did. -/
def fnPreSharedKeyBackUptoRow : OpenClaim := { program := "ythfpfakdchhodaadoor", sum := "5cc3bfdc8cbe14493b0cb85394c466bf272a4e174d94e6ba4100b97486121e8c", func := "pub-convoy/laws.FnPreSharedKeyBack", spec := "fnPreSharedKeyBack", unfollowed := true, recurses := true, named := ["pub-convoy/pub/dtls/pkg/protocol/extension.errInvalidExtensionType", "pub-convoy/pub/dtls/pkg/protocol/extension.errBufferTooSmall", "pub-convoy/pub/dtls/pkg/protocol/extension.errPreSharedKeyFormat", "pub-convoy/pub/dtls/pkg/protocol/extension.errLengthMismatch"], apart := false, laid := [("pub-convoy/pub/dtls/pkg/protocol/extension.errBufferTooSmall", laid_pub_convoy_pub_dtls_pkg_protocol_extension_errBufferTooSmall), ("pub-convoy/pub/dtls/pkg/protocol/extension.errInvalidExtensionType", laid_pub_convoy_pub_dtls_pkg_protocol_extension_errInvalidExtensionType), ("pub-convoy/pub/dtls/pkg/protocol/extension.errLengthMismatch", laid_pub_convoy_pub_dtls_pkg_protocol_extension_errLengthMismatch), ("pub-convoy/pub/dtls/pkg/protocol/extension.errPreSharedKeyFormat", laid_pub_convoy_pub_dtls_pkg_protocol_extension_errPreSharedKeyFormat)], narrowed := true }
def FnPreSharedKeyBackUptoSaid : Prop := fnPreSharedKeyBackUptoRow.holds Tryd.pinned (OpenSpec.upto fnPreSharedKeyBackSpec)

/-- 'laws.FnPreSharedKeySelectedCut', WHERE WHAT IT READS IS OF BULK AT MOST 1048576: true; the input reads as it did. -/
def fnPreSharedKeySelectedCutUptoRow : OpenClaim := { program := "ythfpfakdchhodaadoor", sum := "5cc3bfdc8cbe14493b0cb85394c466bf272a4e174d94e6ba4100b97486121e8c", func := "pub-convoy/laws.FnPreSharedKeySelectedCut", spec := "fnPreSharedKeySelectedCut", named := ["pub-convoy/pub/dtls/pkg/protocol/extension.errInvalidExtensionType", "pub-convoy/pub/dtls/pkg/protocol/extension.errBufferTooSmall", "pub-convoy/pub/dtls/pkg/protocol/extension.errPreSharedKeyFormat", "pub-convoy/pub/dtls/pkg/protocol/extension.errLengthMismatch"], apart := false, laid := [("pub-convoy/pub/dtls/pkg/protocol/extension.errBufferTooSmall", laid_pub_convoy_pub_dtls_pkg_protocol_extension_errBufferTooSmall), ("pub-convoy/pub/dtls/pkg/protocol/extension.errInvalidExtensionType", laid_pub_convoy_pub_dtls_pkg_protocol_extension_errInvalidExtensionType), ("pub-convoy/pub/dtls/pkg/protocol/extension.errLengthMismatch", laid_pub_convoy_pub_dtls_pkg_protocol_extension_errLengthMismatch), ("pub-convoy/pub/dtls/pkg/protocol/extension.errPreSharedKeyFormat", laid_pub_convoy_pub_dtls_pkg_protocol_extension_errPreSharedKeyFormat)], narrowed := true }
def FnPreSharedKeySelectedCutUptoSaid : Prop := fnPreSharedKeySelectedCutUptoRow.holds Tryd.pinned (OpenSpec.upto fnPreSharedKeySelectedCutSpec)

/-- 'laws.FnKeyShareServerCut', WHERE WHAT IT READS IS OF BULK AT MOST 1048576: true; the input reads as it did. -/
def fnKeyShareServerCutUptoRow : OpenClaim := { program := "ythfpfakdchhodaadoor", sum := "5cc3bfdc8cbe14493b0cb85394c466bf272a4e174d94e6ba4100b97486121e8c", func := "pub-convoy/laws.FnKeyShareServerCut", spec := "fnKeyShareServerCut", named := ["pub-convoy/pub/dtls/pkg/protocol/extension.errInvalidExtensionType", "pub-convoy/pub/dtls/pkg/protocol/extension.errBufferTooSmall", "pub-convoy/pub/dtls/pkg/protocol/extension.errInvalidKeyShareFormat", "pub-convoy/pub/dtls/pkg/protocol/extension.errDuplicateKeyShare"], apart := false, laid := [("pub-convoy/pub/dtls/pkg/protocol/extension.errBufferTooSmall", laid_pub_convoy_pub_dtls_pkg_protocol_extension_errBufferTooSmall), ("pub-convoy/pub/dtls/pkg/protocol/extension.errInvalidExtensionType", laid_pub_convoy_pub_dtls_pkg_protocol_extension_errInvalidExtensionType), ("pub-convoy/pub/dtls/pkg/protocol/extension.errInvalidKeyShareFormat", laid_pub_convoy_pub_dtls_pkg_protocol_extension_errInvalidKeyShareFormat), ("pub-convoy/pub/dtls/pkg/protocol/extension.errDuplicateKeyShare", laid_pub_convoy_pub_dtls_pkg_protocol_extension_errDuplicateKeyShare)], narrowed := true }
def FnKeyShareServerCutUptoSaid : Prop := fnKeyShareServerCutUptoRow.holds Tryd.pinned (OpenSpec.upto fnKeyShareServerCutSpec)

/-- 'laws.FnClientKeyBothBack', WHERE WHAT IT READS IS OF BULK AT MOST 1048576: true; the input reads as it did. -/
def fnClientKeyBothBackUptoRow : OpenClaim := { program := "ythfpfakdchhodaadoor", sum := "5cc3bfdc8cbe14493b0cb85394c466bf272a4e174d94e6ba4100b97486121e8c", func := "pub-convoy/laws.FnClientKeyBothBack", spec := "fnClientKeyBothBack", unfollowed := true, recurses := true, named := ["pub-convoy/pub/dtls/pkg/protocol/handshake.errBufferTooSmall", "pub-convoy/pub/dtls/pkg/protocol/handshake.errCipherSuiteUnset", "encoding/binary.BigEndian"], apart := false, laid := [("pub-convoy/pub/dtls/pkg/protocol/handshake.errBufferTooSmall", laid_pub_convoy_pub_dtls_pkg_protocol_handshake_errBufferTooSmall), ("pub-convoy/pub/dtls/pkg/protocol/handshake.errCipherSuiteUnset", laid_pub_convoy_pub_dtls_pkg_protocol_handshake_errCipherSuiteUnset)], narrowed := true }
def FnClientKeyBothBackUptoSaid : Prop := fnClientKeyBothBackUptoRow.holds Tryd.pinned (OpenSpec.upto fnClientKeyBothBackSpec)

/-- 'laws.FnPointFormatsBack', WHERE WHAT IT READS IS OF BULK AT MOST 1048576: true; the input reads as it did. -/
def fnPointFormatsBackUptoRow : OpenClaim := { program := "ythfpfakdchhodaadoor", sum := "5cc3bfdc8cbe14493b0cb85394c466bf272a4e174d94e6ba4100b97486121e8c", func := "pub-convoy/laws.FnPointFormatsBack", spec := "fnPointFormatsBack", unfollowed := true, recurses := true, named := ["pub-convoy/pub/dtls/pkg/protocol/extension.errBufferTooSmall", "encoding/binary.BigEndian", "pub-convoy/pub/dtls/pkg/protocol/extension.errInvalidExtensionType", "pub-convoy/pub/dtls/pkg/protocol/extension.errLengthMismatch"], apart := false, laid := [("pub-convoy/pub/dtls/pkg/protocol/extension.errBufferTooSmall", laid_pub_convoy_pub_dtls_pkg_protocol_extension_errBufferTooSmall), ("pub-convoy/pub/dtls/pkg/protocol/extension.errInvalidExtensionType", laid_pub_convoy_pub_dtls_pkg_protocol_extension_errInvalidExtensionType), ("pub-convoy/pub/dtls/pkg/protocol/extension.errLengthMismatch", laid_pub_convoy_pub_dtls_pkg_protocol_extension_errLengthMismatch)], narrowed := true }
def FnPointFormatsBackUptoSaid : Prop := fnPointFormatsBackUptoRow.holds Tryd.pinned (OpenSpec.upto fnPointFormatsBackSpec)

/-- 'laws.FnSuitesCut', WHERE WHAT IT READS IS OF BULK AT MOST 1048576: true; the input reads as it did. -/
def fnSuitesCutUptoRow : OpenClaim := { program := "ythfpfakdchhodaadoor", sum := "5cc3bfdc8cbe14493b0cb85394c466bf272a4e174d94e6ba4100b97486121e8c", func := "pub-convoy/laws.FnSuitesCut", spec := "fnSuitesCut", named := ["encoding/binary.BigEndian", "pub-convoy/pub/dtls/pkg/protocol/handshake.errBufferTooSmall"], apart := false, laid := [("pub-convoy/pub/dtls/pkg/protocol/handshake.errBufferTooSmall", laid_pub_convoy_pub_dtls_pkg_protocol_handshake_errBufferTooSmall)], narrowed := true }
def FnSuitesCutUptoSaid : Prop := fnSuitesCutUptoRow.holds Tryd.pinned (OpenSpec.upto fnSuitesCutSpec)

/-- 'laws.FnDatagramCut', WHERE WHAT IT READS IS OF BULK AT MOST 1048576: true; the input reads as it did. -/
def fnDatagramCutUptoRow : OpenClaim := { program := "ythfpfakdchhodaadoor", sum := "5cc3bfdc8cbe14493b0cb85394c466bf272a4e174d94e6ba4100b97486121e8c", func := "pub-convoy/laws.FnDatagramCut", spec := "fnDatagramCut", named := ["pub-convoy/pub/dtls/pkg/protocol/recordlayer.ErrInvalidPacketLength", "encoding/binary.BigEndian"], apart := false, laid := [("pub-convoy/pub/dtls/pkg/protocol/recordlayer.ErrInvalidPacketLength", laid_pub_convoy_pub_dtls_pkg_protocol_recordlayer_ErrInvalidPacketLength)], narrowed := true }
def FnDatagramCutUptoSaid : Prop := fnDatagramCutUptoRow.holds Tryd.pinned (OpenSpec.upto fnDatagramCutSpec)

end Rows
end Go.Proofs.YthfpfakdchhodaaDoor
