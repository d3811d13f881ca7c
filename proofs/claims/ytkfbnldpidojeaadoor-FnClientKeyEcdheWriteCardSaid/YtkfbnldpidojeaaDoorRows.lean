/-
  NARROWER THAN 'FOR EVERY INPUT', by the rows' own cells (each row's printed sentence says how): FnClientKeyEcdheWrite: laid · FnHeaderShort: laid · FnSRTPWrite: laid · FnCertificateWrite: laid · FnExtendedMaster: laid · FnALPNBack: laid · FnAuthoritiesBack: laid · FnOIDFiltersCut: laid · FnPreSharedKeyBack: laid · FnPreSharedKeySelectedCut: laid · FnKeyShareBack: laid · FnKeyShareServerCut: laid.
  DERIVED. THE GIVEN ROWS OF THIS SEAT. 12 by the template 'for every input the law returns true; each argument reads behind the call as it read before'; 0 by the template 'total and deterministic' (their statements: YtkfbnldpidojeaaDoorTotals.lean).
  GIVEN WITH THE SEED: the statements are not yours to turn. If you find one false, say at which input.
  Laid BY PROGRAM, IN A SANDBOX (cutbox-rows.mjs): the forced cells as the released guide's own fill.sh prints them over the translation 8cef3afa594b5588… (all of the seat's roots in one cut). By AI agents, Wed Nov 11 2026. No macro, syntax, notation, axiom, sorry.
-/
import Derived.Test.YtkfbnldpidojeaaDoorChecked
import GoSem.Claim
import GoSem.ClaimJoined
import GoSem.ClaimMapViews
import Derived.JoinedTies
import Derived.KernelRfl
namespace Go.Proofs.YtkfbnldpidojeaaDoor
/- THE CELL 'sum', in the pinned program and in every row, IS THE sha256 OF THE DUMP (.gsa) THAT YtkfbnldpidojeaaDoorProg.lean LOADS. Nothing in Lean hashes anything: it is a label: what it is worth is what the hold of that sum in a sandbox is worth. -/
noncomputable def Tryd.pinned : Pinned := { name := "ytkfbnldpidojeaadoor", sum := "8cef3afa594b55887cf8a3fc64ac1c5492080ee8992a9565f707efc6b7982853", checked := Tryd.checked }
namespace Rows
def none {H : Type} : Left H := { results := [], args := [] }

/- WHAT THE LISTED PACKAGE-LEVEL VARIABLES READ AS WHEN THE CALL BEGINS. Each datum BY PROGRAM (the guide's laid-datum.mjs) off the statement by which the dump's own 'gosem.cut.vars' lays the variable. In a bare row this is a premise. The card (YtkfbnldpidojeaaDoorCards.lean) ties it to the program's text. -/
def laid_pub_convoy_pub_dtls_pkg_protocol_handshake_errInvalidClientKeyExchange {H : Type} : DataW H := .iface "*errors.errorString" (.ptr (.agg [.lit (.string [117, 110, 97, 98, 108, 101, 32, 116, 111, 32, 100, 101, 116, 101, 114, 109, 105, 110, 101, 32, 105, 102, 32, 67, 108, 105, 101, 110, 116, 75, 101, 121, 69, 120, 99, 104, 97, 110, 103, 101, 32, 105, 115, 32, 97, 32, 112, 117, 98, 108, 105, 99, 32, 107, 101, 121, 32, 111, 114, 32, 80, 83, 75, 32, 73, 100, 101, 110, 116, 105, 116, 121])]))
def laid_pub_convoy_pub_dtls_pkg_protocol_handshake_errPublicKeyTooLong {H : Type} : DataW H := .iface "*errors.errorString" (.ptr (.agg [.lit (.string [112, 117, 98, 108, 105, 99, 32, 107, 101, 121, 32, 109, 117, 115, 116, 32, 110, 111, 116, 32, 98, 101, 32, 108, 111, 110, 103, 101, 114, 32, 116, 104, 97, 110, 32, 50, 53, 53, 32, 98, 121, 116, 101, 115])]))
def laid_pub_convoy_pub_dtls_pkg_protocol_Version1_0 {H : Type} : DataW H := .agg [.lit (.int .u8 254), .lit (.int .u8 255)]
def laid_pub_convoy_pub_dtls_pkg_protocol_Version1_2 {H : Type} : DataW H := .agg [.lit (.int .u8 254), .lit (.int .u8 253)]
def laid_pub_convoy_pub_dtls_pkg_protocol_recordlayer_errBufferTooSmall {H : Type} : DataW H := .iface "*errors.errorString" (.ptr (.agg [.lit (.string [98, 117, 102, 102, 101, 114, 32, 105, 115, 32, 116, 111, 111, 32, 115, 109, 97, 108, 108])]))
def laid_pub_convoy_pub_dtls_pkg_protocol_recordlayer_errUnsupportedProtocolVersion {H : Type} : DataW H := .iface "*errors.errorString" (.ptr (.agg [.lit (.string [117, 110, 115, 117, 112, 112, 111, 114, 116, 101, 100, 32, 112, 114, 111, 116, 111, 99, 111, 108, 32, 118, 101, 114, 115, 105, 111, 110])]))
def laid_pub_convoy_pub_dtls_pkg_protocol_extension_errMasterKeyIdentifierTooLarge {H : Type} : DataW H := .iface "*errors.errorString" (.ptr (.agg [.lit (.string [109, 97, 115, 116, 101, 114, 32, 107, 101, 121, 32, 105, 100, 101, 110, 116, 105, 102, 105, 101, 114, 32, 105, 115, 32, 111, 118, 101, 114, 32, 50, 53, 53, 32, 98, 121, 116, 101, 115])]))
def laid_pub_convoy_pub_dtls_pkg_protocol_extension_errUseSRTPDataTooLarge {H : Type} : DataW H := .iface "*errors.errorString" (.ptr (.agg [.lit (.string [117, 115, 101, 95, 115, 114, 116, 112, 32, 101, 120, 116, 101, 110, 115, 105, 111, 110, 32, 100, 97, 116, 97, 32, 101, 120, 99, 101, 101, 100, 115, 32, 117, 105, 110, 116, 49, 54, 32, 108, 101, 110, 103, 116, 104])]))
def laid_pub_convoy_pub_dtls_pkg_protocol_handshake_errLengthMismatch {H : Type} : DataW H := .iface "*errors.errorString" (.ptr (.agg [.lit (.string [100, 97, 116, 97, 32, 108, 101, 110, 103, 116, 104, 32, 97, 110, 100, 32, 100, 101, 99, 108, 97, 114, 101, 100, 32, 108, 101, 110, 103, 116, 104, 32, 100, 111, 32, 110, 111, 116, 32, 109, 97, 116, 99, 104])]))
def laid_pub_convoy_pub_dtls_pkg_protocol_extension_errBufferTooSmall {H : Type} : DataW H := .iface "*errors.errorString" (.ptr (.agg [.lit (.string [98, 117, 102, 102, 101, 114, 32, 105, 115, 32, 116, 111, 111, 32, 115, 109, 97, 108, 108])]))
def laid_pub_convoy_pub_dtls_pkg_protocol_extension_errInvalidExtensionType {H : Type} : DataW H := .iface "*errors.errorString" (.ptr (.agg [.lit (.string [105, 110, 118, 97, 108, 105, 100, 32, 101, 120, 116, 101, 110, 115, 105, 111, 110, 32, 116, 121, 112, 101])]))
def laid_pub_convoy_pub_dtls_pkg_protocol_extension_errLengthMismatch {H : Type} : DataW H := .iface "*errors.errorString" (.ptr (.agg [.lit (.string [100, 97, 116, 97, 32, 108, 101, 110, 103, 116, 104, 32, 97, 110, 100, 32, 100, 101, 99, 108, 97, 114, 101, 100, 32, 108, 101, 110, 103, 116, 104, 32, 100, 111, 32, 110, 111, 116, 32, 109, 97, 116, 99, 104])]))
def laid_pub_convoy_pub_dtls_pkg_protocol_extension_ErrALPNInvalidFormat {H : Type} : DataW H := .iface "*errors.errorString" (.ptr (.agg [.lit (.string [105, 110, 118, 97, 108, 105, 100, 32, 97, 108, 112, 110, 32, 102, 111, 114, 109, 97, 116])]))
def laid_pub_convoy_pub_dtls_pkg_protocol_extension_errInvalidCertificateAuthFormat {H : Type} : DataW H := .iface "*errors.errorString" (.ptr (.agg [.lit (.string [105, 110, 118, 97, 108, 105, 100, 32, 67, 101, 114, 116, 105, 102, 105, 99, 97, 116, 101, 32, 65, 117, 116, 104, 111, 114, 105, 116, 105, 101, 115, 32, 101, 120, 116, 101, 110, 115, 105, 111, 110, 32, 102, 111, 114, 109, 97, 116])]))
def laid_pub_convoy_pub_dtls_pkg_protocol_extension_errOIDFiltersFormat {H : Type} : DataW H := .iface "*errors.errorString" (.ptr (.agg [.lit (.string [105, 110, 118, 97, 108, 105, 100, 32, 79, 73, 68, 32, 102, 105, 108, 116, 101, 114, 115, 32, 101, 120, 116, 101, 110, 115, 105, 111, 110, 32, 102, 111, 114, 109, 97, 116])]))
def laid_pub_convoy_pub_dtls_pkg_protocol_extension_errDuplicateOID {H : Type} : DataW H := .iface "*errors.errorString" (.ptr (.agg [.lit (.string [100, 117, 112, 108, 105, 99, 97, 116, 101, 32, 79, 73, 68, 32, 102, 105, 108, 116, 101, 114, 115])]))
def laid_pub_convoy_pub_dtls_pkg_protocol_extension_errPreSharedKeyFormat {H : Type} : DataW H := .iface "*errors.errorString" (.ptr (.agg [.lit (.string [105, 110, 118, 97, 108, 105, 100, 32, 80, 114, 101, 45, 83, 104, 97, 114, 101, 100, 32, 75, 101, 121, 32, 101, 120, 116, 101, 110, 115, 105, 111, 110, 32, 102, 111, 114, 109, 97, 116])]))
def laid_pub_convoy_pub_dtls_pkg_protocol_extension_errInvalidKeyShareFormat {H : Type} : DataW H := .iface "*errors.errorString" (.ptr (.agg [.lit (.string [105, 110, 118, 97, 108, 105, 100, 32, 107, 101, 121, 95, 115, 104, 97, 114, 101, 32, 102, 111, 114, 109, 97, 116])]))
def laid_pub_convoy_pub_dtls_pkg_protocol_extension_errDuplicateKeyShare {H : Type} : DataW H := .iface "*errors.errorString" (.ptr (.agg [.lit (.string [100, 117, 112, 108, 105, 99, 97, 116, 101, 32, 107, 101, 121, 95, 115, 104, 97, 114, 101, 32, 103, 114, 111, 117, 112])]))

/-- 'laws.FnClientKeyEcdheWrite': WHATEVER THE INPUT: true; the input reads as it did. -/
def fnClientKeyEcdheWriteSpec : ChangeSpec := { name := "fnClientKeyEcdheWrite", fn := fun _ => fun
  | [d] => { results := [.lit (.bool true)], args := [d] }
  | _ => none }
def fnClientKeyEcdheWriteRow : OpenClaim := { program := "ytkfbnldpidojeaadoor", sum := "8cef3afa594b55887cf8a3fc64ac1c5492080ee8992a9565f707efc6b7982853", func := "pub-convoy/laws.FnClientKeyEcdheWrite", spec := "fnClientKeyEcdheWrite", named := ["pub-convoy/pub/dtls/pkg/protocol/handshake.errInvalidClientKeyExchange", "encoding/binary.BigEndian", "pub-convoy/pub/dtls/pkg/protocol/handshake.errPublicKeyTooLong"], apart := false, laid := [("pub-convoy/pub/dtls/pkg/protocol/handshake.errInvalidClientKeyExchange", laid_pub_convoy_pub_dtls_pkg_protocol_handshake_errInvalidClientKeyExchange), ("pub-convoy/pub/dtls/pkg/protocol/handshake.errPublicKeyTooLong", laid_pub_convoy_pub_dtls_pkg_protocol_handshake_errPublicKeyTooLong)] }
def FnClientKeyEcdheWriteSaid : Prop := fnClientKeyEcdheWriteRow.holds Tryd.pinned (OpenSpec.ofChange fnClientKeyEcdheWriteSpec)

/-- ITS FALSE NEIGHBOUR: 'it returns false'. Refute it at one input. -/
def fnClientKeyEcdheWriteWrong : ChangeSpec := { name := "fnClientKeyEcdheWrite", fn := fun _ => fun
  | [d] => { results := [.lit (.bool false)], args := [d] }
  | _ => none }
def FnClientKeyEcdheWriteWrongFalsely : Prop := fnClientKeyEcdheWriteRow.holds Tryd.pinned (OpenSpec.ofChange fnClientKeyEcdheWriteWrong)

/-- 'laws.FnHeaderShort': WHATEVER THE INPUT: true; the input reads as it did. -/
def fnHeaderShortSpec : ChangeSpec := { name := "fnHeaderShort", fn := fun _ => fun
  | [d1, d2] => { results := [.lit (.bool true)], args := [d1, d2] }
  | _ => none }
def fnHeaderShortRow : OpenClaim := { program := "ytkfbnldpidojeaadoor", sum := "8cef3afa594b55887cf8a3fc64ac1c5492080ee8992a9565f707efc6b7982853", func := "pub-convoy/laws.FnHeaderShort", spec := "fnHeaderShort", named := ["pub-convoy/pub/dtls/pkg/protocol/recordlayer.errBufferTooSmall", "encoding/binary.BigEndian", "pub-convoy/pub/dtls/pkg/protocol.Version1_0", "pub-convoy/pub/dtls/pkg/protocol.Version1_2", "pub-convoy/pub/dtls/pkg/protocol/recordlayer.errUnsupportedProtocolVersion"], apart := false, laid := [("pub-convoy/pub/dtls/pkg/protocol.Version1_0", laid_pub_convoy_pub_dtls_pkg_protocol_Version1_0), ("pub-convoy/pub/dtls/pkg/protocol.Version1_2", laid_pub_convoy_pub_dtls_pkg_protocol_Version1_2), ("pub-convoy/pub/dtls/pkg/protocol/recordlayer.errBufferTooSmall", laid_pub_convoy_pub_dtls_pkg_protocol_recordlayer_errBufferTooSmall), ("pub-convoy/pub/dtls/pkg/protocol/recordlayer.errUnsupportedProtocolVersion", laid_pub_convoy_pub_dtls_pkg_protocol_recordlayer_errUnsupportedProtocolVersion)] }
def FnHeaderShortSaid : Prop := fnHeaderShortRow.holds Tryd.pinned (OpenSpec.ofChange fnHeaderShortSpec)

/-- ITS FALSE NEIGHBOUR: 'it returns false'. Refute it at one input. -/
def fnHeaderShortWrong : ChangeSpec := { name := "fnHeaderShort", fn := fun _ => fun
  | [d1, d2] => { results := [.lit (.bool false)], args := [d1, d2] }
  | _ => none }
def FnHeaderShortWrongFalsely : Prop := fnHeaderShortRow.holds Tryd.pinned (OpenSpec.ofChange fnHeaderShortWrong)

/-- 'laws.FnSRTPWrite': WHATEVER THE INPUT: true; the input reads as it did. -/
def fnSRTPWriteSpec : ChangeSpec := { name := "fnSRTPWrite", fn := fun _ => fun
  | [d1, d2] => { results := [.lit (.bool true)], args := [d1, d2] }
  | _ => none }
def fnSRTPWriteRow : OpenClaim := { program := "ytkfbnldpidojeaadoor", sum := "8cef3afa594b55887cf8a3fc64ac1c5492080ee8992a9565f707efc6b7982853", func := "pub-convoy/laws.FnSRTPWrite", spec := "fnSRTPWrite", named := ["pub-convoy/pub/dtls/pkg/protocol/extension.errMasterKeyIdentifierTooLarge", "pub-convoy/pub/dtls/pkg/protocol/extension.errUseSRTPDataTooLarge", "encoding/binary.BigEndian"], apart := false, laid := [("pub-convoy/pub/dtls/pkg/protocol/extension.errMasterKeyIdentifierTooLarge", laid_pub_convoy_pub_dtls_pkg_protocol_extension_errMasterKeyIdentifierTooLarge), ("pub-convoy/pub/dtls/pkg/protocol/extension.errUseSRTPDataTooLarge", laid_pub_convoy_pub_dtls_pkg_protocol_extension_errUseSRTPDataTooLarge)] }
def FnSRTPWriteSaid : Prop := fnSRTPWriteRow.holds Tryd.pinned (OpenSpec.ofChange fnSRTPWriteSpec)

/-- ITS FALSE NEIGHBOUR: 'it returns false'. Refute it at one input. -/
def fnSRTPWriteWrong : ChangeSpec := { name := "fnSRTPWrite", fn := fun _ => fun
  | [d1, d2] => { results := [.lit (.bool false)], args := [d1, d2] }
  | _ => none }
def FnSRTPWriteWrongFalsely : Prop := fnSRTPWriteRow.holds Tryd.pinned (OpenSpec.ofChange fnSRTPWriteWrong)

/-- 'laws.FnCertificateWrite': WHATEVER THE INPUT: true; the input reads as it did. -/
def fnCertificateWriteSpec : ChangeSpec := { name := "fnCertificateWrite", fn := fun _ => fun
  | [d] => { results := [.lit (.bool true)], args := [d] }
  | _ => none }
def fnCertificateWriteRow : OpenClaim := { program := "ytkfbnldpidojeaadoor", sum := "8cef3afa594b55887cf8a3fc64ac1c5492080ee8992a9565f707efc6b7982853", func := "pub-convoy/laws.FnCertificateWrite", spec := "fnCertificateWrite", named := ["pub-convoy/pub/dtls/pkg/protocol/handshake.errLengthMismatch", "encoding/binary.BigEndian"], apart := false, laid := [("pub-convoy/pub/dtls/pkg/protocol/handshake.errLengthMismatch", laid_pub_convoy_pub_dtls_pkg_protocol_handshake_errLengthMismatch)] }
def FnCertificateWriteSaid : Prop := fnCertificateWriteRow.holds Tryd.pinned (OpenSpec.ofChange fnCertificateWriteSpec)

/-- ITS FALSE NEIGHBOUR: 'it returns false'. Refute it at one input. -/
def fnCertificateWriteWrong : ChangeSpec := { name := "fnCertificateWrite", fn := fun _ => fun
  | [d] => { results := [.lit (.bool false)], args := [d] }
  | _ => none }
def FnCertificateWriteWrongFalsely : Prop := fnCertificateWriteRow.holds Tryd.pinned (OpenSpec.ofChange fnCertificateWriteWrong)

/-- 'laws.FnExtendedMaster': WHATEVER THE INPUT: true; the input reads as it did. -/
def fnExtendedMasterSpec : ChangeSpec := { name := "fnExtendedMaster", fn := fun _ => fun
  | [d] => { results := [.lit (.bool true)], args := [d] }
  | _ => none }
def fnExtendedMasterRow : OpenClaim := { program := "ytkfbnldpidojeaadoor", sum := "8cef3afa594b55887cf8a3fc64ac1c5492080ee8992a9565f707efc6b7982853", func := "pub-convoy/laws.FnExtendedMaster", spec := "fnExtendedMaster", unfollowed := true, recurses := true, named := ["encoding/binary.BigEndian", "pub-convoy/pub/dtls/pkg/protocol/extension.errBufferTooSmall", "pub-convoy/pub/dtls/pkg/protocol/extension.errLengthMismatch", "pub-convoy/pub/dtls/pkg/protocol/extension.errInvalidExtensionType"], apart := false, laid := [("pub-convoy/pub/dtls/pkg/protocol/extension.errBufferTooSmall", laid_pub_convoy_pub_dtls_pkg_protocol_extension_errBufferTooSmall), ("pub-convoy/pub/dtls/pkg/protocol/extension.errInvalidExtensionType", laid_pub_convoy_pub_dtls_pkg_protocol_extension_errInvalidExtensionType), ("pub-convoy/pub/dtls/pkg/protocol/extension.errLengthMismatch", laid_pub_convoy_pub_dtls_pkg_protocol_extension_errLengthMismatch)] }
def FnExtendedMasterSaid : Prop := fnExtendedMasterRow.holds Tryd.pinned (OpenSpec.ofChange fnExtendedMasterSpec)

/-- ITS FALSE NEIGHBOUR: 'it returns false'. Refute it at one input. -/
def fnExtendedMasterWrong : ChangeSpec := { name := "fnExtendedMaster", fn := fun _ => fun
  | [d] => { results := [.lit (.bool false)], args := [d] }
  | _ => none }
def FnExtendedMasterWrongFalsely : Prop := fnExtendedMasterRow.holds Tryd.pinned (OpenSpec.ofChange fnExtendedMasterWrong)

/-- 'laws.FnALPNBack': WHATEVER THE INPUT: true; the input reads as it did. -/
def fnALPNBackSpec : ChangeSpec := { name := "fnALPNBack", fn := fun _ => fun
  | [d] => { results := [.lit (.bool true)], args := [d] }
  | _ => none }
def fnALPNBackRow : OpenClaim := { program := "ytkfbnldpidojeaadoor", sum := "8cef3afa594b55887cf8a3fc64ac1c5492080ee8992a9565f707efc6b7982853", func := "pub-convoy/laws.FnALPNBack", spec := "fnALPNBack", unfollowed := true, recurses := true, named := ["pub-convoy/pub/dtls/pkg/protocol/extension.errInvalidExtensionType", "pub-convoy/pub/dtls/pkg/protocol/extension.errLengthMismatch", "pub-convoy/pub/dtls/pkg/protocol/extension.ErrALPNInvalidFormat"], apart := false, laid := [("pub-convoy/pub/dtls/pkg/protocol/extension.ErrALPNInvalidFormat", laid_pub_convoy_pub_dtls_pkg_protocol_extension_ErrALPNInvalidFormat), ("pub-convoy/pub/dtls/pkg/protocol/extension.errInvalidExtensionType", laid_pub_convoy_pub_dtls_pkg_protocol_extension_errInvalidExtensionType), ("pub-convoy/pub/dtls/pkg/protocol/extension.errLengthMismatch", laid_pub_convoy_pub_dtls_pkg_protocol_extension_errLengthMismatch)] }
def FnALPNBackSaid : Prop := fnALPNBackRow.holds Tryd.pinned (OpenSpec.ofChange fnALPNBackSpec)

/-- ITS FALSE NEIGHBOUR: 'it returns false'. Refute it at one input. -/
def fnALPNBackWrong : ChangeSpec := { name := "fnALPNBack", fn := fun _ => fun
  | [d] => { results := [.lit (.bool false)], args := [d] }
  | _ => none }
def FnALPNBackWrongFalsely : Prop := fnALPNBackRow.holds Tryd.pinned (OpenSpec.ofChange fnALPNBackWrong)

/-- 'laws.FnAuthoritiesBack': WHATEVER THE INPUT: true; the input reads as it did. -/
def fnAuthoritiesBackSpec : ChangeSpec := { name := "fnAuthoritiesBack", fn := fun _ => fun
  | [d] => { results := [.lit (.bool true)], args := [d] }
  | _ => none }
def fnAuthoritiesBackRow : OpenClaim := { program := "ytkfbnldpidojeaadoor", sum := "8cef3afa594b55887cf8a3fc64ac1c5492080ee8992a9565f707efc6b7982853", func := "pub-convoy/laws.FnAuthoritiesBack", spec := "fnAuthoritiesBack", unfollowed := true, recurses := true, named := ["pub-convoy/pub/dtls/pkg/protocol/extension.errInvalidExtensionType", "pub-convoy/pub/dtls/pkg/protocol/extension.errBufferTooSmall", "pub-convoy/pub/dtls/pkg/protocol/extension.errInvalidCertificateAuthFormat", "pub-convoy/pub/dtls/pkg/protocol/extension.errLengthMismatch"], apart := false, laid := [("pub-convoy/pub/dtls/pkg/protocol/extension.errBufferTooSmall", laid_pub_convoy_pub_dtls_pkg_protocol_extension_errBufferTooSmall), ("pub-convoy/pub/dtls/pkg/protocol/extension.errInvalidExtensionType", laid_pub_convoy_pub_dtls_pkg_protocol_extension_errInvalidExtensionType), ("pub-convoy/pub/dtls/pkg/protocol/extension.errLengthMismatch", laid_pub_convoy_pub_dtls_pkg_protocol_extension_errLengthMismatch), ("pub-convoy/pub/dtls/pkg/protocol/extension.errInvalidCertificateAuthFormat", laid_pub_convoy_pub_dtls_pkg_protocol_extension_errInvalidCertificateAuthFormat)] }
def FnAuthoritiesBackSaid : Prop := fnAuthoritiesBackRow.holds Tryd.pinned (OpenSpec.ofChange fnAuthoritiesBackSpec)

/-- ITS FALSE NEIGHBOUR: 'it returns false'. Refute it at one input. -/
def fnAuthoritiesBackWrong : ChangeSpec := { name := "fnAuthoritiesBack", fn := fun _ => fun
  | [d] => { results := [.lit (.bool false)], args := [d] }
  | _ => none }
def FnAuthoritiesBackWrongFalsely : Prop := fnAuthoritiesBackRow.holds Tryd.pinned (OpenSpec.ofChange fnAuthoritiesBackWrong)

/-- 'laws.FnOIDFiltersCut': WHATEVER THE INPUT: true; the input reads as it did. -/
def fnOIDFiltersCutSpec : ChangeSpec := { name := "fnOIDFiltersCut", fn := fun _ => fun
  | [d1, d2] => { results := [.lit (.bool true)], args := [d1, d2] }
  | _ => none }
def fnOIDFiltersCutRow : OpenClaim := { program := "ytkfbnldpidojeaadoor", sum := "8cef3afa594b55887cf8a3fc64ac1c5492080ee8992a9565f707efc6b7982853", func := "pub-convoy/laws.FnOIDFiltersCut", spec := "fnOIDFiltersCut", named := ["pub-convoy/pub/dtls/pkg/protocol/extension.errInvalidExtensionType", "pub-convoy/pub/dtls/pkg/protocol/extension.errBufferTooSmall", "pub-convoy/pub/dtls/pkg/protocol/extension.errLengthMismatch", "pub-convoy/pub/dtls/pkg/protocol/extension.errOIDFiltersFormat", "pub-convoy/pub/dtls/pkg/protocol/extension.errDuplicateOID"], apart := false, laid := [("pub-convoy/pub/dtls/pkg/protocol/extension.errBufferTooSmall", laid_pub_convoy_pub_dtls_pkg_protocol_extension_errBufferTooSmall), ("pub-convoy/pub/dtls/pkg/protocol/extension.errInvalidExtensionType", laid_pub_convoy_pub_dtls_pkg_protocol_extension_errInvalidExtensionType), ("pub-convoy/pub/dtls/pkg/protocol/extension.errLengthMismatch", laid_pub_convoy_pub_dtls_pkg_protocol_extension_errLengthMismatch), ("pub-convoy/pub/dtls/pkg/protocol/extension.errOIDFiltersFormat", laid_pub_convoy_pub_dtls_pkg_protocol_extension_errOIDFiltersFormat), ("pub-convoy/pub/dtls/pkg/protocol/extension.errDuplicateOID", laid_pub_convoy_pub_dtls_pkg_protocol_extension_errDuplicateOID)] }
def FnOIDFiltersCutSaid : Prop := fnOIDFiltersCutRow.holds Tryd.pinned (OpenSpec.ofChange fnOIDFiltersCutSpec)

/-- ITS FALSE NEIGHBOUR: 'it returns false'. Refute it at one input. -/
def fnOIDFiltersCutWrong : ChangeSpec := { name := "fnOIDFiltersCut", fn := fun _ => fun
  | [d1, d2] => { results := [.lit (.bool false)], args := [d1, d2] }
  | _ => none }
def FnOIDFiltersCutWrongFalsely : Prop := fnOIDFiltersCutRow.holds Tryd.pinned (OpenSpec.ofChange fnOIDFiltersCutWrong)

/-- 'laws.FnPreSharedKeyBack': WHATEVER THE INPUT: true; the input reads as it did. -/
def fnPreSharedKeyBackSpec : ChangeSpec := { name := "fnPreSharedKeyBack", fn := fun _ => fun
  | [d1, d2] => { results := [.lit (.bool true)], args := [d1, d2] }
  | _ => none }
def fnPreSharedKeyBackRow : OpenClaim := { program := "ytkfbnldpidojeaadoor", sum := "8cef3afa594b55887cf8a3fc64ac1c5492080ee8992a9565f707efc6b7982853", func := "pub-convoy/laws.FnPreSharedKeyBack", spec := "fnPreSharedKeyBack", unfollowed := true, recurses := true, named := ["pub-convoy/pub/dtls/pkg/protocol/extension.errInvalidExtensionType", "pub-convoy/pub/dtls/pkg/protocol/extension.errBufferTooSmall", "pub-convoy/pub/dtls/pkg/protocol/extension.errPreSharedKeyFormat", "pub-convoy/pub/dtls/pkg/protocol/extension.errLengthMismatch"], apart := false, laid := [("pub-convoy/pub/dtls/pkg/protocol/extension.errBufferTooSmall", laid_pub_convoy_pub_dtls_pkg_protocol_extension_errBufferTooSmall), ("pub-convoy/pub/dtls/pkg/protocol/extension.errInvalidExtensionType", laid_pub_convoy_pub_dtls_pkg_protocol_extension_errInvalidExtensionType), ("pub-convoy/pub/dtls/pkg/protocol/extension.errLengthMismatch", laid_pub_convoy_pub_dtls_pkg_protocol_extension_errLengthMismatch), ("pub-convoy/pub/dtls/pkg/protocol/extension.errPreSharedKeyFormat", laid_pub_convoy_pub_dtls_pkg_protocol_extension_errPreSharedKeyFormat)] }
def FnPreSharedKeyBackSaid : Prop := fnPreSharedKeyBackRow.holds Tryd.pinned (OpenSpec.ofChange fnPreSharedKeyBackSpec)

/-- ITS FALSE NEIGHBOUR: 'it returns false'. Refute it at one input. -/
def fnPreSharedKeyBackWrong : ChangeSpec := { name := "fnPreSharedKeyBack", fn := fun _ => fun
  | [d1, d2] => { results := [.lit (.bool false)], args := [d1, d2] }
  | _ => none }
def FnPreSharedKeyBackWrongFalsely : Prop := fnPreSharedKeyBackRow.holds Tryd.pinned (OpenSpec.ofChange fnPreSharedKeyBackWrong)

/-- 'laws.FnPreSharedKeySelectedCut': WHATEVER THE INPUT: true; the input reads as it did. -/
def fnPreSharedKeySelectedCutSpec : ChangeSpec := { name := "fnPreSharedKeySelectedCut", fn := fun _ => fun
  | [d1, d2] => { results := [.lit (.bool true)], args := [d1, d2] }
  | _ => none }
def fnPreSharedKeySelectedCutRow : OpenClaim := { program := "ytkfbnldpidojeaadoor", sum := "8cef3afa594b55887cf8a3fc64ac1c5492080ee8992a9565f707efc6b7982853", func := "pub-convoy/laws.FnPreSharedKeySelectedCut", spec := "fnPreSharedKeySelectedCut", named := ["pub-convoy/pub/dtls/pkg/protocol/extension.errInvalidExtensionType", "pub-convoy/pub/dtls/pkg/protocol/extension.errBufferTooSmall", "pub-convoy/pub/dtls/pkg/protocol/extension.errPreSharedKeyFormat", "pub-convoy/pub/dtls/pkg/protocol/extension.errLengthMismatch"], apart := false, laid := [("pub-convoy/pub/dtls/pkg/protocol/extension.errBufferTooSmall", laid_pub_convoy_pub_dtls_pkg_protocol_extension_errBufferTooSmall), ("pub-convoy/pub/dtls/pkg/protocol/extension.errInvalidExtensionType", laid_pub_convoy_pub_dtls_pkg_protocol_extension_errInvalidExtensionType), ("pub-convoy/pub/dtls/pkg/protocol/extension.errLengthMismatch", laid_pub_convoy_pub_dtls_pkg_protocol_extension_errLengthMismatch), ("pub-convoy/pub/dtls/pkg/protocol/extension.errPreSharedKeyFormat", laid_pub_convoy_pub_dtls_pkg_protocol_extension_errPreSharedKeyFormat)] }
def FnPreSharedKeySelectedCutSaid : Prop := fnPreSharedKeySelectedCutRow.holds Tryd.pinned (OpenSpec.ofChange fnPreSharedKeySelectedCutSpec)

/-- ITS FALSE NEIGHBOUR: 'it returns false'. Refute it at one input. -/
def fnPreSharedKeySelectedCutWrong : ChangeSpec := { name := "fnPreSharedKeySelectedCut", fn := fun _ => fun
  | [d1, d2] => { results := [.lit (.bool false)], args := [d1, d2] }
  | _ => none }
def FnPreSharedKeySelectedCutWrongFalsely : Prop := fnPreSharedKeySelectedCutRow.holds Tryd.pinned (OpenSpec.ofChange fnPreSharedKeySelectedCutWrong)

/-- 'laws.FnKeyShareBack': WHATEVER THE INPUT: true; the input reads as it did. -/
def fnKeyShareBackSpec : ChangeSpec := { name := "fnKeyShareBack", fn := fun _ => fun
  | [d] => { results := [.lit (.bool true)], args := [d] }
  | _ => none }
def fnKeyShareBackRow : OpenClaim := { program := "ytkfbnldpidojeaadoor", sum := "8cef3afa594b55887cf8a3fc64ac1c5492080ee8992a9565f707efc6b7982853", func := "pub-convoy/laws.FnKeyShareBack", spec := "fnKeyShareBack", unfollowed := true, recurses := true, named := ["pub-convoy/pub/dtls/pkg/protocol/extension.errInvalidExtensionType", "pub-convoy/pub/dtls/pkg/protocol/extension.errBufferTooSmall", "pub-convoy/pub/dtls/pkg/protocol/extension.errInvalidKeyShareFormat", "pub-convoy/pub/dtls/pkg/protocol/extension.errDuplicateKeyShare"], apart := false, laid := [("pub-convoy/pub/dtls/pkg/protocol/extension.errBufferTooSmall", laid_pub_convoy_pub_dtls_pkg_protocol_extension_errBufferTooSmall), ("pub-convoy/pub/dtls/pkg/protocol/extension.errInvalidExtensionType", laid_pub_convoy_pub_dtls_pkg_protocol_extension_errInvalidExtensionType), ("pub-convoy/pub/dtls/pkg/protocol/extension.errInvalidKeyShareFormat", laid_pub_convoy_pub_dtls_pkg_protocol_extension_errInvalidKeyShareFormat), ("pub-convoy/pub/dtls/pkg/protocol/extension.errDuplicateKeyShare", laid_pub_convoy_pub_dtls_pkg_protocol_extension_errDuplicateKeyShare)] }
def FnKeyShareBackSaid : Prop := fnKeyShareBackRow.holds Tryd.pinned (OpenSpec.ofChange fnKeyShareBackSpec)

/-- ITS FALSE NEIGHBOUR: 'it returns false'. Refute it at one input. -/
def fnKeyShareBackWrong : ChangeSpec := { name := "fnKeyShareBack", fn := fun _ => fun
  | [d] => { results := [.lit (.bool false)], args := [d] }
  | _ => none }
def FnKeyShareBackWrongFalsely : Prop := fnKeyShareBackRow.holds Tryd.pinned (OpenSpec.ofChange fnKeyShareBackWrong)

/-- 'laws.FnKeyShareServerCut': WHATEVER THE INPUT: true; the input reads as it did. -/
def fnKeyShareServerCutSpec : ChangeSpec := { name := "fnKeyShareServerCut", fn := fun _ => fun
  | [d1, d2] => { results := [.lit (.bool true)], args := [d1, d2] }
  | _ => none }
def fnKeyShareServerCutRow : OpenClaim := { program := "ytkfbnldpidojeaadoor", sum := "8cef3afa594b55887cf8a3fc64ac1c5492080ee8992a9565f707efc6b7982853", func := "pub-convoy/laws.FnKeyShareServerCut", spec := "fnKeyShareServerCut", named := ["pub-convoy/pub/dtls/pkg/protocol/extension.errInvalidExtensionType", "pub-convoy/pub/dtls/pkg/protocol/extension.errBufferTooSmall", "pub-convoy/pub/dtls/pkg/protocol/extension.errInvalidKeyShareFormat", "pub-convoy/pub/dtls/pkg/protocol/extension.errDuplicateKeyShare"], apart := false, laid := [("pub-convoy/pub/dtls/pkg/protocol/extension.errBufferTooSmall", laid_pub_convoy_pub_dtls_pkg_protocol_extension_errBufferTooSmall), ("pub-convoy/pub/dtls/pkg/protocol/extension.errInvalidExtensionType", laid_pub_convoy_pub_dtls_pkg_protocol_extension_errInvalidExtensionType), ("pub-convoy/pub/dtls/pkg/protocol/extension.errInvalidKeyShareFormat", laid_pub_convoy_pub_dtls_pkg_protocol_extension_errInvalidKeyShareFormat), ("pub-convoy/pub/dtls/pkg/protocol/extension.errDuplicateKeyShare", laid_pub_convoy_pub_dtls_pkg_protocol_extension_errDuplicateKeyShare)] }
def FnKeyShareServerCutSaid : Prop := fnKeyShareServerCutRow.holds Tryd.pinned (OpenSpec.ofChange fnKeyShareServerCutSpec)

/-- ITS FALSE NEIGHBOUR: 'it returns false'. Refute it at one input. -/
def fnKeyShareServerCutWrong : ChangeSpec := { name := "fnKeyShareServerCut", fn := fun _ => fun
  | [d1, d2] => { results := [.lit (.bool false)], args := [d1, d2] }
  | _ => none }
def FnKeyShareServerCutWrongFalsely : Prop := fnKeyShareServerCutRow.holds Tryd.pinned (OpenSpec.ofChange fnKeyShareServerCutWrong)

/- THE SECOND FORM. 'bulk': how many values and letters a reading holds, each counted each time it is reached (what is shared counts as often as it is met; a slice's spare places count too). A statement '..UptoSaid' is the law's where the arguments, and the package variables that the reading takes, are together of bulk at most 1048576: NARROWER than '..Said'. Prove '..Said' where nothing that the law and all that it calls make is longer than what came in: it says more and counts as full. Else prove '..UptoSaid'. A law counts once. -/
mutual
def uptoBulk {H : Type} : DataW H → Nat
  | .lit (.string bytes) => bytes.length + 1
  | .lit _ => 1
  | .nil => 1
  | .ptr d => uptoBulk d + 1
  | .slice elems spare => uptoBulkAll elems + uptoBulkAll spare + 1
  | .agg parts => uptoBulkAll parts + 1
  | .iface _ d => uptoBulk d + 1
  | .map entries => uptoBulkEntries entries + 1
  | .held _ => 1
def uptoBulkAll {H : Type} : List (DataW H) → Nat
  | [] => 0
  | d :: r => uptoBulk d + uptoBulkAll r
def uptoBulkEntries {H : Type} : List (Lit × DataW H) → Nat
  | [] => 0
  | x :: r => uptoBulkEntry x + uptoBulkEntries r
def uptoBulkEntry {H : Type} : Lit × DataW H → Nat
  | (.string bytes, d) => bytes.length + uptoBulk d + 1
  | (_, d) => uptoBulk d + 1
 end
def uptoSmall : (H : Type) → List (DataW H) → Bool := fun _ ds => decide (uptoBulkAll ds ≤ 1048576)
def OpenSpec.upto (s : _root_.Go.ChangeSpec) : _root_.Go.OpenSpec := { _root_.Go.OpenSpec.ofChange s with cond := some uptoSmall }

/-- 'laws.FnClientKeyEcdheWrite', WHERE WHAT IT READS IS OF BULK AT MOST 1048576: true; the input reads as it did. -/
def fnClientKeyEcdheWriteUptoRow : OpenClaim := { program := "ytkfbnldpidojeaadoor", sum := "8cef3afa594b55887cf8a3fc64ac1c5492080ee8992a9565f707efc6b7982853", func := "pub-convoy/laws.FnClientKeyEcdheWrite", spec := "fnClientKeyEcdheWrite", named := ["pub-convoy/pub/dtls/pkg/protocol/handshake.errInvalidClientKeyExchange", "encoding/binary.BigEndian", "pub-convoy/pub/dtls/pkg/protocol/handshake.errPublicKeyTooLong"], apart := false, laid := [("pub-convoy/pub/dtls/pkg/protocol/handshake.errInvalidClientKeyExchange", laid_pub_convoy_pub_dtls_pkg_protocol_handshake_errInvalidClientKeyExchange), ("pub-convoy/pub/dtls/pkg/protocol/handshake.errPublicKeyTooLong", laid_pub_convoy_pub_dtls_pkg_protocol_handshake_errPublicKeyTooLong)], narrowed := true }
def FnClientKeyEcdheWriteUptoSaid : Prop := fnClientKeyEcdheWriteUptoRow.holds Tryd.pinned (OpenSpec.upto fnClientKeyEcdheWriteSpec)

/-- 'laws.FnHeaderShort', WHERE WHAT IT READS IS OF BULK AT MOST 1048576: true; the input reads as it did. -/
def fnHeaderShortUptoRow : OpenClaim := { program := "ytkfbnldpidojeaadoor", sum := "8cef3afa594b55887cf8a3fc64ac1c5492080ee8992a9565f707efc6b7982853", func := "pub-convoy/laws.FnHeaderShort", spec := "fnHeaderShort", named := ["pub-convoy/pub/dtls/pkg/protocol/recordlayer.errBufferTooSmall", "encoding/binary.BigEndian", "pub-convoy/pub/dtls/pkg/protocol.Version1_0", "pub-convoy/pub/dtls/pkg/protocol.Version1_2", "pub-convoy/pub/dtls/pkg/protocol/recordlayer.errUnsupportedProtocolVersion"], apart := false, laid := [("pub-convoy/pub/dtls/pkg/protocol.Version1_0", laid_pub_convoy_pub_dtls_pkg_protocol_Version1_0), ("pub-convoy/pub/dtls/pkg/protocol.Version1_2", laid_pub_convoy_pub_dtls_pkg_protocol_Version1_2), ("pub-convoy/pub/dtls/pkg/protocol/recordlayer.errBufferTooSmall", laid_pub_convoy_pub_dtls_pkg_protocol_recordlayer_errBufferTooSmall), ("pub-convoy/pub/dtls/pkg/protocol/recordlayer.errUnsupportedProtocolVersion", laid_pub_convoy_pub_dtls_pkg_protocol_recordlayer_errUnsupportedProtocolVersion)], narrowed := true }
def FnHeaderShortUptoSaid : Prop := fnHeaderShortUptoRow.holds Tryd.pinned (OpenSpec.upto fnHeaderShortSpec)

/-- 'laws.FnSRTPWrite', WHERE WHAT IT READS IS OF BULK AT MOST 1048576: true; the input reads as it did. -/
def fnSRTPWriteUptoRow : OpenClaim := { program := "ytkfbnldpidojeaadoor", sum := "8cef3afa594b55887cf8a3fc64ac1c5492080ee8992a9565f707efc6b7982853", func := "pub-convoy/laws.FnSRTPWrite", spec := "fnSRTPWrite", named := ["pub-convoy/pub/dtls/pkg/protocol/extension.errMasterKeyIdentifierTooLarge", "pub-convoy/pub/dtls/pkg/protocol/extension.errUseSRTPDataTooLarge", "encoding/binary.BigEndian"], apart := false, laid := [("pub-convoy/pub/dtls/pkg/protocol/extension.errMasterKeyIdentifierTooLarge", laid_pub_convoy_pub_dtls_pkg_protocol_extension_errMasterKeyIdentifierTooLarge), ("pub-convoy/pub/dtls/pkg/protocol/extension.errUseSRTPDataTooLarge", laid_pub_convoy_pub_dtls_pkg_protocol_extension_errUseSRTPDataTooLarge)], narrowed := true }
def FnSRTPWriteUptoSaid : Prop := fnSRTPWriteUptoRow.holds Tryd.pinned (OpenSpec.upto fnSRTPWriteSpec)

/-- 'laws.FnCertificateWrite', WHERE WHAT IT READS IS OF BULK AT MOST 1048576: true; the input reads as it did. -/
def fnCertificateWriteUptoRow : OpenClaim := { program := "ytkfbnldpidojeaadoor", sum := "8cef3afa594b55887cf8a3fc64ac1c5492080ee8992a9565f707efc6b7982853", func := "pub-convoy/laws.FnCertificateWrite", spec := "fnCertificateWrite", named := ["pub-convoy/pub/dtls/pkg/protocol/handshake.errLengthMismatch", "encoding/binary.BigEndian"], apart := false, laid := [("pub-convoy/pub/dtls/pkg/protocol/handshake.errLengthMismatch", laid_pub_convoy_pub_dtls_pkg_protocol_handshake_errLengthMismatch)], narrowed := true }
def FnCertificateWriteUptoSaid : Prop := fnCertificateWriteUptoRow.holds Tryd.pinned (OpenSpec.upto fnCertificateWriteSpec)

/-- 'laws.FnExtendedMaster', WHERE WHAT IT READS IS OF BULK AT MOST 1048576: true; the input reads as it did. -/
def fnExtendedMasterUptoRow : OpenClaim := { program := "ytkfbnldpidojeaadoor", sum := "8cef3afa594b55887cf8a3fc64ac1c5492080ee8992a9565f707efc6b7982853", func := "pub-convoy/laws.FnExtendedMaster", spec := "fnExtendedMaster", unfollowed := true, recurses := true, named := ["encoding/binary.BigEndian", "pub-convoy/pub/dtls/pkg/protocol/extension.errBufferTooSmall", "pub-convoy/pub/dtls/pkg/protocol/extension.errLengthMismatch", "pub-convoy/pub/dtls/pkg/protocol/extension.errInvalidExtensionType"], apart := false, laid := [("pub-convoy/pub/dtls/pkg/protocol/extension.errBufferTooSmall", laid_pub_convoy_pub_dtls_pkg_protocol_extension_errBufferTooSmall), ("pub-convoy/pub/dtls/pkg/protocol/extension.errInvalidExtensionType", laid_pub_convoy_pub_dtls_pkg_protocol_extension_errInvalidExtensionType), ("pub-convoy/pub/dtls/pkg/protocol/extension.errLengthMismatch", laid_pub_convoy_pub_dtls_pkg_protocol_extension_errLengthMismatch)], narrowed := true }
def FnExtendedMasterUptoSaid : Prop := fnExtendedMasterUptoRow.holds Tryd.pinned (OpenSpec.upto fnExtendedMasterSpec)

/-- 'laws.FnALPNBack', WHERE WHAT IT READS IS OF BULK AT MOST 1048576: true; the input reads as it did. -/
def fnALPNBackUptoRow : OpenClaim := { program := "ytkfbnldpidojeaadoor", sum := "8cef3afa594b55887cf8a3fc64ac1c5492080ee8992a9565f707efc6b7982853", func := "pub-convoy/laws.FnALPNBack", spec := "fnALPNBack", unfollowed := true, recurses := true, named := ["pub-convoy/pub/dtls/pkg/protocol/extension.errInvalidExtensionType", "pub-convoy/pub/dtls/pkg/protocol/extension.errLengthMismatch", "pub-convoy/pub/dtls/pkg/protocol/extension.ErrALPNInvalidFormat"], apart := false, laid := [("pub-convoy/pub/dtls/pkg/protocol/extension.ErrALPNInvalidFormat", laid_pub_convoy_pub_dtls_pkg_protocol_extension_ErrALPNInvalidFormat), ("pub-convoy/pub/dtls/pkg/protocol/extension.errInvalidExtensionType", laid_pub_convoy_pub_dtls_pkg_protocol_extension_errInvalidExtensionType), ("pub-convoy/pub/dtls/pkg/protocol/extension.errLengthMismatch", laid_pub_convoy_pub_dtls_pkg_protocol_extension_errLengthMismatch)], narrowed := true }
def FnALPNBackUptoSaid : Prop := fnALPNBackUptoRow.holds Tryd.pinned (OpenSpec.upto fnALPNBackSpec)

/-- 'laws.FnAuthoritiesBack', WHERE WHAT IT READS IS OF BULK AT MOST 1048576: true; the input reads as it did. -/
def fnAuthoritiesBackUptoRow : OpenClaim := { program := "ytkfbnldpidojeaadoor", sum := "8cef3afa594b55887cf8a3fc64ac1c5492080ee8992a9565f707efc6b7982853", func := "pub-convoy/laws.FnAuthoritiesBack", spec := "fnAuthoritiesBack", unfollowed := true, recurses := true, named := ["pub-convoy/pub/dtls/pkg/protocol/extension.errInvalidExtensionType", "pub-convoy/pub/dtls/pkg/protocol/extension.errBufferTooSmall", "pub-convoy/pub/dtls/pkg/protocol/extension.errInvalidCertificateAuthFormat", "pub-convoy/pub/dtls/pkg/protocol/extension.errLengthMismatch"], apart := false, laid := [("pub-convoy/pub/dtls/pkg/protocol/extension.errBufferTooSmall", laid_pub_convoy_pub_dtls_pkg_protocol_extension_errBufferTooSmall), ("pub-convoy/pub/dtls/pkg/protocol/extension.errInvalidExtensionType", laid_pub_convoy_pub_dtls_pkg_protocol_extension_errInvalidExtensionType), ("pub-convoy/pub/dtls/pkg/protocol/extension.errLengthMismatch", laid_pub_convoy_pub_dtls_pkg_protocol_extension_errLengthMismatch), ("pub-convoy/pub/dtls/pkg/protocol/extension.errInvalidCertificateAuthFormat", laid_pub_convoy_pub_dtls_pkg_protocol_extension_errInvalidCertificateAuthFormat)], narrowed := true }
def FnAuthoritiesBackUptoSaid : Prop := fnAuthoritiesBackUptoRow.holds Tryd.pinned (OpenSpec.upto fnAuthoritiesBackSpec)

/-- 'laws.FnOIDFiltersCut', WHERE WHAT IT READS IS OF BULK AT MOST 1048576: true; the input reads as it did. -/
def fnOIDFiltersCutUptoRow : OpenClaim := { program := "ytkfbnldpidojeaadoor", sum := "8cef3afa594b55887cf8a3fc64ac1c5492080ee8992a9565f707efc6b7982853", func := "pub-convoy/laws.FnOIDFiltersCut", spec := "fnOIDFiltersCut", named := ["pub-convoy/pub/dtls/pkg/protocol/extension.errInvalidExtensionType", "pub-convoy/pub/dtls/pkg/protocol/extension.errBufferTooSmall", "pub-convoy/pub/dtls/pkg/protocol/extension.errLengthMismatch", "pub-convoy/pub/dtls/pkg/protocol/extension.errOIDFiltersFormat", "pub-convoy/pub/dtls/pkg/protocol/extension.errDuplicateOID"], apart := false, laid := [("pub-convoy/pub/dtls/pkg/protocol/extension.errBufferTooSmall", laid_pub_convoy_pub_dtls_pkg_protocol_extension_errBufferTooSmall), ("pub-convoy/pub/dtls/pkg/protocol/extension.errInvalidExtensionType", laid_pub_convoy_pub_dtls_pkg_protocol_extension_errInvalidExtensionType), ("pub-convoy/pub/dtls/pkg/protocol/extension.errLengthMismatch", laid_pub_convoy_pub_dtls_pkg_protocol_extension_errLengthMismatch), ("pub-convoy/pub/dtls/pkg/protocol/extension.errOIDFiltersFormat", laid_pub_convoy_pub_dtls_pkg_protocol_extension_errOIDFiltersFormat), ("pub-convoy/pub/dtls/pkg/protocol/extension.errDuplicateOID", laid_pub_convoy_pub_dtls_pkg_protocol_extension_errDuplicateOID)], narrowed := true }
def FnOIDFiltersCutUptoSaid : Prop := fnOIDFiltersCutUptoRow.holds Tryd.pinned (OpenSpec.upto fnOIDFiltersCutSpec)

/-- 'laws.FnPreSharedKeyBack', WHERE WHAT IT READS IS OF BULK AT MOST 1048576: true; the input reads as it did. -/
def fnPreSharedKeyBackUptoRow : OpenClaim := { program := "ytkfbnldpidojeaadoor", sum := "8cef3afa594b55887cf8a3fc64ac1c5492080ee8992a9565f707efc6b7982853", func := "pub-convoy/laws.FnPreSharedKeyBack", spec := "fnPreSharedKeyBack", unfollowed := true, recurses := true, named := ["pub-convoy/pub/dtls/pkg/protocol/extension.errInvalidExtensionType", "pub-convoy/pub/dtls/pkg/protocol/extension.errBufferTooSmall", "pub-convoy/pub/dtls/pkg/protocol/extension.errPreSharedKeyFormat", "pub-convoy/pub/dtls/pkg/protocol/extension.errLengthMismatch"], apart := false, laid := [("pub-convoy/pub/dtls/pkg/protocol/extension.errBufferTooSmall", laid_pub_convoy_pub_dtls_pkg_protocol_extension_errBufferTooSmall), ("pub-convoy/pub/dtls/pkg/protocol/extension.errInvalidExtensionType", laid_pub_convoy_pub_dtls_pkg_protocol_extension_errInvalidExtensionType), ("pub-convoy/pub/dtls/pkg/protocol/extension.errLengthMismatch", laid_pub_convoy_pub_dtls_pkg_protocol_extension_errLengthMismatch), ("pub-convoy/pub/dtls/pkg/protocol/extension.errPreSharedKeyFormat", laid_pub_convoy_pub_dtls_pkg_protocol_extension_errPreSharedKeyFormat)], narrowed := true }
def FnPreSharedKeyBackUptoSaid : Prop := fnPreSharedKeyBackUptoRow.holds Tryd.pinned (OpenSpec.upto fnPreSharedKeyBackSpec)

/-- 'laws.FnPreSharedKeySelectedCut', WHERE WHAT IT READS IS OF BULK AT MOST 1048576: true; the input reads as it did. -/
def fnPreSharedKeySelectedCutUptoRow : OpenClaim := { program := "ytkfbnldpidojeaadoor", sum := "8cef3afa594b55887cf8a3fc64ac1c5492080ee8992a9565f707efc6b7982853", func := "pub-convoy/laws.FnPreSharedKeySelectedCut", spec := "fnPreSharedKeySelectedCut", named := ["pub-convoy/pub/dtls/pkg/protocol/extension.errInvalidExtensionType", "pub-convoy/pub/dtls/pkg/protocol/extension.errBufferTooSmall", "pub-convoy/pub/dtls/pkg/protocol/extension.errPreSharedKeyFormat", "pub-convoy/pub/dtls/pkg/protocol/extension.errLengthMismatch"], apart := false, laid := [("pub-convoy/pub/dtls/pkg/protocol/extension.errBufferTooSmall", laid_pub_convoy_pub_dtls_pkg_protocol_extension_errBufferTooSmall), ("pub-convoy/pub/dtls/pkg/protocol/extension.errInvalidExtensionType", laid_pub_convoy_pub_dtls_pkg_protocol_extension_errInvalidExtensionType), ("pub-convoy/pub/dtls/pkg/protocol/extension.errLengthMismatch", laid_pub_convoy_pub_dtls_pkg_protocol_extension_errLengthMismatch), ("pub-convoy/pub/dtls/pkg/protocol/extension.errPreSharedKeyFormat", laid_pub_convoy_pub_dtls_pkg_protocol_extension_errPreSharedKeyFormat)], narrowed := true }
def FnPreSharedKeySelectedCutUptoSaid : Prop := fnPreSharedKeySelectedCutUptoRow.holds Tryd.pinned (OpenSpec.upto fnPreSharedKeySelectedCutSpec)

/-- 'laws.FnKeyShareBack', WHERE WHAT IT READS IS OF BULK AT MOST 1048576: true; the input reads as it did. -/
def fnKeyShareBackUptoRow : OpenClaim := { program := "ytkfbnldpidojeaadoor", sum := "8cef3afa594b55887cf8a3fc64ac1c5492080ee8992a9565f707efc6b7982853", func := "pub-convoy/laws.FnKeyShareBack", spec := "fnKeyShareBack", unfollowed := true, recurses := true, named := ["pub-convoy/pub/dtls/pkg/protocol/extension.errInvalidExtensionType", "pub-convoy/pub/dtls/pkg/protocol/extension.errBufferTooSmall", "pub-convoy/pub/dtls/pkg/protocol/extension.errInvalidKeyShareFormat", "pub-convoy/pub/dtls/pkg/protocol/extension.errDuplicateKeyShare"], apart := false, laid := [("pub-convoy/pub/dtls/pkg/protocol/extension.errBufferTooSmall", laid_pub_convoy_pub_dtls_pkg_protocol_extension_errBufferTooSmall), ("pub-convoy/pub/dtls/pkg/protocol/extension.errInvalidExtensionType", laid_pub_convoy_pub_dtls_pkg_protocol_extension_errInvalidExtensionType), ("pub-convoy/pub/dtls/pkg/protocol/extension.errInvalidKeyShareFormat", laid_pub_convoy_pub_dtls_pkg_protocol_extension_errInvalidKeyShareFormat), ("pub-convoy/pub/dtls/pkg/protocol/extension.errDuplicateKeyShare", laid_pub_convoy_pub_dtls_pkg_protocol_extension_errDuplicateKeyShare)], narrowed := true }
def FnKeyShareBackUptoSaid : Prop := fnKeyShareBackUptoRow.holds Tryd.pinned (OpenSpec.upto fnKeyShareBackSpec)

/-- 'laws.FnKeyShareServerCut', WHERE WHAT IT READS IS OF BULK AT MOST 1048576: true; the input reads as it did. -/
def fnKeyShareServerCutUptoRow : OpenClaim := { program := "ytkfbnldpidojeaadoor", sum := "8cef3afa594b55887cf8a3fc64ac1c5492080ee8992a9565f707efc6b7982853", func := "pub-convoy/laws.FnKeyShareServerCut", spec := "fnKeyShareServerCut", named := ["pub-convoy/pub/dtls/pkg/protocol/extension.errInvalidExtensionType", "pub-convoy/pub/dtls/pkg/protocol/extension.errBufferTooSmall", "pub-convoy/pub/dtls/pkg/protocol/extension.errInvalidKeyShareFormat", "pub-convoy/pub/dtls/pkg/protocol/extension.errDuplicateKeyShare"], apart := false, laid := [("pub-convoy/pub/dtls/pkg/protocol/extension.errBufferTooSmall", laid_pub_convoy_pub_dtls_pkg_protocol_extension_errBufferTooSmall), ("pub-convoy/pub/dtls/pkg/protocol/extension.errInvalidExtensionType", laid_pub_convoy_pub_dtls_pkg_protocol_extension_errInvalidExtensionType), ("pub-convoy/pub/dtls/pkg/protocol/extension.errInvalidKeyShareFormat", laid_pub_convoy_pub_dtls_pkg_protocol_extension_errInvalidKeyShareFormat), ("pub-convoy/pub/dtls/pkg/protocol/extension.errDuplicateKeyShare", laid_pub_convoy_pub_dtls_pkg_protocol_extension_errDuplicateKeyShare)], narrowed := true }
def FnKeyShareServerCutUptoSaid : Prop := fnKeyShareServerCutUptoRow.holds Tryd.pinned (OpenSpec.upto fnKeyShareServerCutSpec)

end Rows
end Go.Proofs.YtkfbnldpidojeaaDoor
