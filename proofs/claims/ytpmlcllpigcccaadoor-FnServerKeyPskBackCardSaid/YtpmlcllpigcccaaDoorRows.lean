/-
  NARROWER THAN 'FOR EVERY INPUT', by the rows' own cells (each row's printed sentence says how): FnCertificateVerifyCut: laid · FnSchemeBack: laid · FnCertificateRefused: laid · FnSchemesInsecure: laid · FnSignatureAlgorithmsCut: laid · FnRequestBack: laid · FnCookieWrite: laid · FnServerKeyEcdheCut: laid · FnServerKeyPskBack: laid · FnPskModesWrite: laid · FnOIDFiltersRefused: laid.
  DERIVED. THE GIVEN ROWS OF THIS SEAT. 11 by the template 'for every input the law returns true; each argument reads behind the call as it read before'; 0 by the template 'total and deterministic' (their statements: YtpmlcllpigcccaaDoorTotals.lean).
  GIVEN WITH THE SEED: the statements are not yours to turn. If you find one false, say at which input.
  Laid BY PROGRAM, IN A SANDBOX (cutbox-rows.mjs): the forced cells as the released guide's own fill.sh prints them over the translation aa51c15d591c6845… (all of the seat's roots in one cut). By AI agents, Wed Nov 11 2026. No macro, syntax, notation, axiom, sorry.
-/
import Derived.Test.YtpmlcllpigcccaaDoorChecked
import GoSem.Claim
import GoSem.ClaimJoined
import GoSem.ClaimMapViews
import Derived.JoinedTies
import Derived.KernelRfl
namespace Go.Proofs.YtpmlcllpigcccaaDoor
/- THE CELL 'sum', in the pinned program and in every row, IS THE sha256 OF THE DUMP (.gsa) THAT YtpmlcllpigcccaaDoorProg.lean LOADS. Nothing in Lean hashes anything: it is a label: what it is worth is what the hold of that sum in a sandbox is worth. -/
noncomputable def Tryd.pinned : Pinned := { name := "ytpmlcllpigcccaadoor", sum := "aa51c15d591c68452a0aedd87a81daf192bc3fbb3f61f0748bd9173e9aa5428b", checked := Tryd.checked }
namespace Rows
def none {H : Type} : Left H := { results := [], args := [] }

/- WHAT THE LISTED PACKAGE-LEVEL VARIABLES READ AS WHEN THE CALL BEGINS. Each datum BY PROGRAM (the guide's laid-datum.mjs) off the statement by which the dump's own 'gosem.cut.vars' lays the variable. In a bare row this is a premise. The card (YtpmlcllpigcccaaDoorCards.lean) ties it to the program's text. -/
def laid_pub_convoy_pub_dtls_pkg_crypto_signaturehash_errInvalidSignatureAlgorithm {H : Type} : DataW H := .iface "*errors.errorString" (.ptr (.agg [.lit (.string [105, 110, 118, 97, 108, 105, 100, 32, 115, 105, 103, 110, 97, 116, 117, 114, 101, 32, 97, 108, 103, 111, 114, 105, 116, 104, 109])]))
def laid_pub_convoy_pub_dtls_pkg_crypto_signaturehash_errInvalidHashAlgorithm {H : Type} : DataW H := .iface "*errors.errorString" (.ptr (.agg [.lit (.string [105, 110, 118, 97, 108, 105, 100, 32, 104, 97, 115, 104, 32, 97, 108, 103, 111, 114, 105, 116, 104, 109])]))
def laid_pub_convoy_pub_dtls_pkg_protocol_handshake_errBufferTooSmall {H : Type} : DataW H := .iface "*errors.errorString" (.ptr (.agg [.lit (.string [98, 117, 102, 102, 101, 114, 32, 105, 115, 32, 116, 111, 111, 32, 115, 109, 97, 108, 108])]))
def laid_pub_convoy_pub_dtls_pkg_protocol_handshake_errInvalidSignHashAlgorithm {H : Type} : DataW H := .iface "*errors.errorString" (.ptr (.agg [.lit (.string [105, 110, 118, 97, 108, 105, 100, 32, 115, 105, 103, 110, 97, 116, 117, 114, 101, 47, 104, 97, 115, 104, 32, 97, 108, 103, 111, 114, 105, 116, 104, 109])]))
def laid_pub_convoy_pub_dtls_pkg_protocol_handshake_errLengthMismatch {H : Type} : DataW H := .iface "*errors.errorString" (.ptr (.agg [.lit (.string [100, 97, 116, 97, 32, 108, 101, 110, 103, 116, 104, 32, 97, 110, 100, 32, 100, 101, 99, 108, 97, 114, 101, 100, 32, 108, 101, 110, 103, 116, 104, 32, 100, 111, 32, 110, 111, 116, 32, 109, 97, 116, 99, 104])]))
def laid_pub_convoy_pub_dtls_pkg_crypto_signaturehash_errNoAvailableSignatureSchemes {H : Type} : DataW H := .iface "*errors.errorString" (.ptr (.agg [.lit (.string [99, 111, 110, 110, 101, 99, 116, 105, 111, 110, 32, 99, 97, 110, 32, 110, 111, 116, 32, 98, 101, 32, 99, 114, 101, 97, 116, 101, 100, 44, 32, 110, 111, 32, 83, 105, 103, 110, 97, 116, 117, 114, 101, 83, 99, 104, 101, 109, 101, 32, 115, 97, 116, 105, 115, 102, 121, 32, 116, 104, 105, 115, 32, 67, 111, 110, 102, 105, 103])]))
def laid_pub_convoy_pub_dtls_pkg_protocol_extension_errBufferTooSmall {H : Type} : DataW H := .iface "*errors.errorString" (.ptr (.agg [.lit (.string [98, 117, 102, 102, 101, 114, 32, 105, 115, 32, 116, 111, 111, 32, 115, 109, 97, 108, 108])]))
def laid_pub_convoy_pub_dtls_pkg_protocol_extension_errInvalidExtensionType {H : Type} : DataW H := .iface "*errors.errorString" (.ptr (.agg [.lit (.string [105, 110, 118, 97, 108, 105, 100, 32, 101, 120, 116, 101, 110, 115, 105, 111, 110, 32, 116, 121, 112, 101])]))
def laid_pub_convoy_pub_dtls_pkg_protocol_extension_errLengthMismatch {H : Type} : DataW H := .iface "*errors.errorString" (.ptr (.agg [.lit (.string [100, 97, 116, 97, 32, 108, 101, 110, 103, 116, 104, 32, 97, 110, 100, 32, 100, 101, 99, 108, 97, 114, 101, 100, 32, 108, 101, 110, 103, 116, 104, 32, 100, 111, 32, 110, 111, 116, 32, 109, 97, 116, 99, 104])]))
def laid_pub_convoy_pub_dtls_pkg_protocol_extension_errCookieExtFormat {H : Type} : DataW H := .iface "*errors.errorString" (.ptr (.agg [.lit (.string [105, 110, 118, 97, 108, 105, 100, 32, 99, 111, 111, 107, 105, 101, 32, 102, 111, 114, 109, 97, 116])]))
def laid_pub_convoy_pub_dtls_pkg_protocol_handshake_errInvalidEllipticCurveType {H : Type} : DataW H := .iface "*errors.errorString" (.ptr (.agg [.lit (.string [105, 110, 118, 97, 108, 105, 100, 32, 111, 114, 32, 117, 110, 107, 110, 111, 119, 110, 32, 101, 108, 108, 105, 112, 116, 105, 99, 32, 99, 117, 114, 118, 101, 32, 116, 121, 112, 101])]))
def laid_pub_convoy_pub_dtls_pkg_protocol_handshake_errInvalidNamedCurve {H : Type} : DataW H := .iface "*errors.errorString" (.ptr (.agg [.lit (.string [105, 110, 118, 97, 108, 105, 100, 32, 110, 97, 109, 101, 100, 32, 99, 117, 114, 118, 101])]))
def laid_pub_convoy_pub_dtls_pkg_protocol_handshake_errCipherSuiteUnset {H : Type} : DataW H := .iface "*errors.errorString" (.ptr (.agg [.lit (.string [115, 101, 114, 118, 101, 114, 32, 104, 101, 108, 108, 111, 32, 99, 97, 110, 32, 110, 111, 116, 32, 98, 101, 32, 99, 114, 101, 97, 116, 101, 100, 32, 119, 105, 116, 104, 111, 117, 116, 32, 97, 32, 99, 105, 112, 104, 101, 114, 32, 115, 117, 105, 116, 101])]))
def laid_pub_convoy_pub_dtls_pkg_protocol_extension_errNoPskKeyExchangeMode {H : Type} : DataW H := .iface "*errors.errorString" (.ptr (.agg [.lit (.string [110, 111, 32, 109, 111, 100, 101, 32, 115, 101, 116, 32, 102, 111, 114, 32, 116, 104, 101, 32, 80, 114, 101, 45, 83, 104, 97, 114, 101, 100, 32, 75, 101, 121, 32, 69, 120, 99, 104, 97, 110, 103, 101, 32, 77, 111, 100, 101, 115, 32, 101, 120, 116, 101, 110, 115, 105, 111, 110])]))
def laid_pub_convoy_pub_dtls_pkg_protocol_extension_errEmptyOIDFilter {H : Type} : DataW H := .iface "*errors.errorString" (.ptr (.agg [.lit (.string [110, 111, 32, 111, 105, 100, 32, 115, 101, 116, 32, 102, 111, 114, 32, 97, 32, 79, 73, 68, 32, 102, 105, 108, 116, 101, 114])]))
def laid_pub_convoy_pub_dtls_pkg_protocol_extension_errDuplicateOID {H : Type} : DataW H := .iface "*errors.errorString" (.ptr (.agg [.lit (.string [100, 117, 112, 108, 105, 99, 97, 116, 101, 32, 79, 73, 68, 32, 102, 105, 108, 116, 101, 114, 115])]))

/-- 'laws.FnCertificateVerifyCut': WHATEVER THE INPUT: true; the input reads as it did. -/
def fnCertificateVerifyCutSpec : ChangeSpec := { name := "fnCertificateVerifyCut", fn := fun _ => fun
  | [d1, d2, d3] => { results := [.lit (.bool true)], args := [d1, d2, d3] }
  | _ => none }
def fnCertificateVerifyCutRow : OpenClaim := { program := "ytpmlcllpigcccaadoor", sum := "aa51c15d591c68452a0aedd87a81daf192bc3fbb3f61f0748bd9173e9aa5428b", func := "pub-convoy/laws.FnCertificateVerifyCut", spec := "fnCertificateVerifyCut", named := ["pub-convoy/pub/dtls/pkg/protocol/handshake.errBufferTooSmall", "encoding/binary.BigEndian", "pub-convoy/pub/dtls/pkg/protocol/handshake.errInvalidSignHashAlgorithm", "pub-convoy/pub/dtls/pkg/crypto/signaturehash.errInvalidHashAlgorithm", "pub-convoy/pub/dtls/pkg/crypto/signaturehash.errInvalidSignatureAlgorithm"], apart := false, laid := [("pub-convoy/pub/dtls/pkg/crypto/signaturehash.errInvalidSignatureAlgorithm", laid_pub_convoy_pub_dtls_pkg_crypto_signaturehash_errInvalidSignatureAlgorithm), ("pub-convoy/pub/dtls/pkg/crypto/signaturehash.errInvalidHashAlgorithm", laid_pub_convoy_pub_dtls_pkg_crypto_signaturehash_errInvalidHashAlgorithm), ("pub-convoy/pub/dtls/pkg/protocol/handshake.errBufferTooSmall", laid_pub_convoy_pub_dtls_pkg_protocol_handshake_errBufferTooSmall), ("pub-convoy/pub/dtls/pkg/protocol/handshake.errInvalidSignHashAlgorithm", laid_pub_convoy_pub_dtls_pkg_protocol_handshake_errInvalidSignHashAlgorithm)] }
def FnCertificateVerifyCutSaid : Prop := fnCertificateVerifyCutRow.holds Tryd.pinned (OpenSpec.ofChange fnCertificateVerifyCutSpec)

/-- ITS FALSE NEIGHBOUR: 'it returns false'. Refute it at one input. -/
def fnCertificateVerifyCutWrong : ChangeSpec := { name := "fnCertificateVerifyCut", fn := fun _ => fun
  | [d1, d2, d3] => { results := [.lit (.bool false)], args := [d1, d2, d3] }
  | _ => none }
def FnCertificateVerifyCutWrongFalsely : Prop := fnCertificateVerifyCutRow.holds Tryd.pinned (OpenSpec.ofChange fnCertificateVerifyCutWrong)

/-- 'laws.FnSchemeBack': WHATEVER THE INPUT: true; the input reads as it did. -/
def fnSchemeBackSpec : ChangeSpec := { name := "fnSchemeBack", fn := fun _ => fun
  | [d] => { results := [.lit (.bool true)], args := [d] }
  | _ => none }
def fnSchemeBackRow : OpenClaim := { program := "ytpmlcllpigcccaadoor", sum := "aa51c15d591c68452a0aedd87a81daf192bc3fbb3f61f0748bd9173e9aa5428b", func := "pub-convoy/laws.FnSchemeBack", spec := "fnSchemeBack", named := ["pub-convoy/pub/dtls/pkg/crypto/signaturehash.errInvalidHashAlgorithm", "pub-convoy/pub/dtls/pkg/crypto/signaturehash.errInvalidSignatureAlgorithm"], apart := false, laid := [("pub-convoy/pub/dtls/pkg/crypto/signaturehash.errInvalidSignatureAlgorithm", laid_pub_convoy_pub_dtls_pkg_crypto_signaturehash_errInvalidSignatureAlgorithm), ("pub-convoy/pub/dtls/pkg/crypto/signaturehash.errInvalidHashAlgorithm", laid_pub_convoy_pub_dtls_pkg_crypto_signaturehash_errInvalidHashAlgorithm)] }
def FnSchemeBackSaid : Prop := fnSchemeBackRow.holds Tryd.pinned (OpenSpec.ofChange fnSchemeBackSpec)

/-- ITS FALSE NEIGHBOUR: 'it returns false'. Refute it at one input. -/
def fnSchemeBackWrong : ChangeSpec := { name := "fnSchemeBack", fn := fun _ => fun
  | [d] => { results := [.lit (.bool false)], args := [d] }
  | _ => none }
def FnSchemeBackWrongFalsely : Prop := fnSchemeBackRow.holds Tryd.pinned (OpenSpec.ofChange fnSchemeBackWrong)

/-- 'laws.FnCertificateRefused': WHATEVER THE INPUT: true; the input reads as it did. -/
def fnCertificateRefusedSpec : ChangeSpec := { name := "fnCertificateRefused", fn := fun _ => fun
  | [d] => { results := [.lit (.bool true)], args := [d] }
  | _ => none }
def fnCertificateRefusedRow : OpenClaim := { program := "ytpmlcllpigcccaadoor", sum := "aa51c15d591c68452a0aedd87a81daf192bc3fbb3f61f0748bd9173e9aa5428b", func := "pub-convoy/laws.FnCertificateRefused", spec := "fnCertificateRefused", named := ["pub-convoy/pub/dtls/pkg/protocol/handshake.errLengthMismatch", "encoding/binary.BigEndian", "pub-convoy/pub/dtls/pkg/protocol/handshake.errBufferTooSmall"], apart := false, laid := [("pub-convoy/pub/dtls/pkg/protocol/handshake.errBufferTooSmall", laid_pub_convoy_pub_dtls_pkg_protocol_handshake_errBufferTooSmall), ("pub-convoy/pub/dtls/pkg/protocol/handshake.errLengthMismatch", laid_pub_convoy_pub_dtls_pkg_protocol_handshake_errLengthMismatch)] }
def FnCertificateRefusedSaid : Prop := fnCertificateRefusedRow.holds Tryd.pinned (OpenSpec.ofChange fnCertificateRefusedSpec)

/-- ITS FALSE NEIGHBOUR: 'it returns false'. Refute it at one input. -/
def fnCertificateRefusedWrong : ChangeSpec := { name := "fnCertificateRefused", fn := fun _ => fun
  | [d] => { results := [.lit (.bool false)], args := [d] }
  | _ => none }
def FnCertificateRefusedWrongFalsely : Prop := fnCertificateRefusedRow.holds Tryd.pinned (OpenSpec.ofChange fnCertificateRefusedWrong)

/-- 'laws.FnSchemesInsecure': WHATEVER THE INPUT: true; the input reads as it did. -/
def fnSchemesInsecureSpec : ChangeSpec := { name := "fnSchemesInsecure", fn := fun _ => fun
  | [d1, d2] => { results := [.lit (.bool true)], args := [d1, d2] }
  | _ => none }
def fnSchemesInsecureRow : OpenClaim := { program := "ytpmlcllpigcccaadoor", sum := "aa51c15d591c68452a0aedd87a81daf192bc3fbb3f61f0748bd9173e9aa5428b", func := "pub-convoy/laws.FnSchemesInsecure", spec := "fnSchemesInsecure", unfollowed := true, recurses := true, named := ["pub-convoy/pub/dtls/pkg/crypto/signaturehash.errNoAvailableSignatureSchemes", "pub-convoy/pub/dtls/pkg/crypto/signaturehash.errInvalidHashAlgorithm", "pub-convoy/pub/dtls/pkg/crypto/signaturehash.errInvalidSignatureAlgorithm"], apart := false, laid := [("pub-convoy/pub/dtls/pkg/crypto/signaturehash.errNoAvailableSignatureSchemes", laid_pub_convoy_pub_dtls_pkg_crypto_signaturehash_errNoAvailableSignatureSchemes), ("pub-convoy/pub/dtls/pkg/crypto/signaturehash.errInvalidSignatureAlgorithm", laid_pub_convoy_pub_dtls_pkg_crypto_signaturehash_errInvalidSignatureAlgorithm), ("pub-convoy/pub/dtls/pkg/crypto/signaturehash.errInvalidHashAlgorithm", laid_pub_convoy_pub_dtls_pkg_crypto_signaturehash_errInvalidHashAlgorithm)] }
def FnSchemesInsecureSaid : Prop := fnSchemesInsecureRow.holds Tryd.pinned (OpenSpec.ofChange fnSchemesInsecureSpec)

/-- ITS FALSE NEIGHBOUR: 'it returns false'. Refute it at one input. -/
def fnSchemesInsecureWrong : ChangeSpec := { name := "fnSchemesInsecure", fn := fun _ => fun
  | [d1, d2] => { results := [.lit (.bool false)], args := [d1, d2] }
  | _ => none }
def FnSchemesInsecureWrongFalsely : Prop := fnSchemesInsecureRow.holds Tryd.pinned (OpenSpec.ofChange fnSchemesInsecureWrong)

/-- 'laws.FnSignatureAlgorithmsCut': WHATEVER THE INPUT: true; the input reads as it did. -/
def fnSignatureAlgorithmsCutSpec : ChangeSpec := { name := "fnSignatureAlgorithmsCut", fn := fun _ => fun
  | [d1, d2] => { results := [.lit (.bool true)], args := [d1, d2] }
  | _ => none }
def fnSignatureAlgorithmsCutRow : OpenClaim := { program := "ytpmlcllpigcccaadoor", sum := "aa51c15d591c68452a0aedd87a81daf192bc3fbb3f61f0748bd9173e9aa5428b", func := "pub-convoy/laws.FnSignatureAlgorithmsCut", spec := "fnSignatureAlgorithmsCut", named := ["pub-convoy/pub/dtls/pkg/protocol/extension.errInvalidExtensionType", "pub-convoy/pub/dtls/pkg/protocol/extension.errBufferTooSmall", "pub-convoy/pub/dtls/pkg/protocol/extension.errLengthMismatch", "pub-convoy/pub/dtls/pkg/crypto/signaturehash.errInvalidHashAlgorithm", "pub-convoy/pub/dtls/pkg/crypto/signaturehash.errInvalidSignatureAlgorithm"], apart := false, laid := [("pub-convoy/pub/dtls/pkg/crypto/signaturehash.errInvalidSignatureAlgorithm", laid_pub_convoy_pub_dtls_pkg_crypto_signaturehash_errInvalidSignatureAlgorithm), ("pub-convoy/pub/dtls/pkg/crypto/signaturehash.errInvalidHashAlgorithm", laid_pub_convoy_pub_dtls_pkg_crypto_signaturehash_errInvalidHashAlgorithm), ("pub-convoy/pub/dtls/pkg/protocol/extension.errBufferTooSmall", laid_pub_convoy_pub_dtls_pkg_protocol_extension_errBufferTooSmall), ("pub-convoy/pub/dtls/pkg/protocol/extension.errInvalidExtensionType", laid_pub_convoy_pub_dtls_pkg_protocol_extension_errInvalidExtensionType), ("pub-convoy/pub/dtls/pkg/protocol/extension.errLengthMismatch", laid_pub_convoy_pub_dtls_pkg_protocol_extension_errLengthMismatch)] }
def FnSignatureAlgorithmsCutSaid : Prop := fnSignatureAlgorithmsCutRow.holds Tryd.pinned (OpenSpec.ofChange fnSignatureAlgorithmsCutSpec)

/-- ITS FALSE NEIGHBOUR: 'it returns false'. Refute it at one input. -/
def fnSignatureAlgorithmsCutWrong : ChangeSpec := { name := "fnSignatureAlgorithmsCut", fn := fun _ => fun
  | [d1, d2] => { results := [.lit (.bool false)], args := [d1, d2] }
  | _ => none }
def FnSignatureAlgorithmsCutWrongFalsely : Prop := fnSignatureAlgorithmsCutRow.holds Tryd.pinned (OpenSpec.ofChange fnSignatureAlgorithmsCutWrong)

/-- 'laws.FnRequestBack': WHATEVER THE INPUT: true; the input reads as it did. -/
def fnRequestBackSpec : ChangeSpec := { name := "fnRequestBack", fn := fun _ => fun
  | [d1, d2, d3] => { results := [.lit (.bool true)], args := [d1, d2, d3] }
  | _ => none }
def fnRequestBackRow : OpenClaim := { program := "ytpmlcllpigcccaadoor", sum := "aa51c15d591c68452a0aedd87a81daf192bc3fbb3f61f0748bd9173e9aa5428b", func := "pub-convoy/laws.FnRequestBack", spec := "fnRequestBack", unfollowed := true, recurses := true, named := ["pub-convoy/pub/dtls/pkg/protocol/handshake.errBufferTooSmall", "encoding/binary.BigEndian", "pub-convoy/pub/dtls/pkg/crypto/signaturehash.errInvalidHashAlgorithm", "pub-convoy/pub/dtls/pkg/crypto/signaturehash.errInvalidSignatureAlgorithm"], apart := false, laid := [("pub-convoy/pub/dtls/pkg/crypto/signaturehash.errInvalidSignatureAlgorithm", laid_pub_convoy_pub_dtls_pkg_crypto_signaturehash_errInvalidSignatureAlgorithm), ("pub-convoy/pub/dtls/pkg/crypto/signaturehash.errInvalidHashAlgorithm", laid_pub_convoy_pub_dtls_pkg_crypto_signaturehash_errInvalidHashAlgorithm), ("pub-convoy/pub/dtls/pkg/protocol/handshake.errBufferTooSmall", laid_pub_convoy_pub_dtls_pkg_protocol_handshake_errBufferTooSmall)] }
def FnRequestBackSaid : Prop := fnRequestBackRow.holds Tryd.pinned (OpenSpec.ofChange fnRequestBackSpec)

/-- ITS FALSE NEIGHBOUR: 'it returns false'. Refute it at one input. -/
def fnRequestBackWrong : ChangeSpec := { name := "fnRequestBack", fn := fun _ => fun
  | [d1, d2, d3] => { results := [.lit (.bool false)], args := [d1, d2, d3] }
  | _ => none }
def FnRequestBackWrongFalsely : Prop := fnRequestBackRow.holds Tryd.pinned (OpenSpec.ofChange fnRequestBackWrong)

/-- 'laws.FnCookieWrite': WHATEVER THE INPUT: true; the input reads as it did. -/
def fnCookieWriteSpec : ChangeSpec := { name := "fnCookieWrite", fn := fun _ => fun
  | [d] => { results := [.lit (.bool true)], args := [d] }
  | _ => none }
def fnCookieWriteRow : OpenClaim := { program := "ytpmlcllpigcccaadoor", sum := "aa51c15d591c68452a0aedd87a81daf192bc3fbb3f61f0748bd9173e9aa5428b", func := "pub-convoy/laws.FnCookieWrite", spec := "fnCookieWrite", unfollowed := true, recurses := true, named := ["pub-convoy/pub/dtls/pkg/protocol/extension.errCookieExtFormat"], apart := false, laid := [("pub-convoy/pub/dtls/pkg/protocol/extension.errCookieExtFormat", laid_pub_convoy_pub_dtls_pkg_protocol_extension_errCookieExtFormat)] }
def FnCookieWriteSaid : Prop := fnCookieWriteRow.holds Tryd.pinned (OpenSpec.ofChange fnCookieWriteSpec)

/-- ITS FALSE NEIGHBOUR: 'it returns false'. Refute it at one input. -/
def fnCookieWriteWrong : ChangeSpec := { name := "fnCookieWrite", fn := fun _ => fun
  | [d] => { results := [.lit (.bool false)], args := [d] }
  | _ => none }
def FnCookieWriteWrongFalsely : Prop := fnCookieWriteRow.holds Tryd.pinned (OpenSpec.ofChange fnCookieWriteWrong)

/-- 'laws.FnServerKeyEcdheCut': WHATEVER THE INPUT: true; the input reads as it did. -/
def fnServerKeyEcdheCutSpec : ChangeSpec := { name := "fnServerKeyEcdheCut", fn := fun _ => fun
  | [d1, d2, d3, d4, d5] => { results := [.lit (.bool true)], args := [d1, d2, d3, d4, d5] }
  | _ => none }
def fnServerKeyEcdheCutRow : OpenClaim := { program := "ytpmlcllpigcccaadoor", sum := "aa51c15d591c68452a0aedd87a81daf192bc3fbb3f61f0748bd9173e9aa5428b", func := "pub-convoy/laws.FnServerKeyEcdheCut", spec := "fnServerKeyEcdheCut", named := ["pub-convoy/pub/dtls/pkg/protocol/handshake.errBufferTooSmall", "pub-convoy/pub/dtls/pkg/protocol/handshake.errCipherSuiteUnset", "encoding/binary.BigEndian", "pub-convoy/pub/dtls/pkg/protocol/handshake.errLengthMismatch", "pub-convoy/pub/dtls/pkg/protocol/handshake.errInvalidEllipticCurveType", "pub-convoy/pub/dtls/pkg/protocol/handshake.errInvalidNamedCurve", "pub-convoy/pub/dtls/pkg/protocol/handshake.errInvalidSignHashAlgorithm", "pub-convoy/pub/dtls/pkg/crypto/signaturehash.errInvalidHashAlgorithm", "pub-convoy/pub/dtls/pkg/crypto/signaturehash.errInvalidSignatureAlgorithm"], apart := false, laid := [("pub-convoy/pub/dtls/pkg/crypto/signaturehash.errInvalidSignatureAlgorithm", laid_pub_convoy_pub_dtls_pkg_crypto_signaturehash_errInvalidSignatureAlgorithm), ("pub-convoy/pub/dtls/pkg/crypto/signaturehash.errInvalidHashAlgorithm", laid_pub_convoy_pub_dtls_pkg_crypto_signaturehash_errInvalidHashAlgorithm), ("pub-convoy/pub/dtls/pkg/protocol/handshake.errBufferTooSmall", laid_pub_convoy_pub_dtls_pkg_protocol_handshake_errBufferTooSmall), ("pub-convoy/pub/dtls/pkg/protocol/handshake.errLengthMismatch", laid_pub_convoy_pub_dtls_pkg_protocol_handshake_errLengthMismatch), ("pub-convoy/pub/dtls/pkg/protocol/handshake.errInvalidSignHashAlgorithm", laid_pub_convoy_pub_dtls_pkg_protocol_handshake_errInvalidSignHashAlgorithm), ("pub-convoy/pub/dtls/pkg/protocol/handshake.errInvalidEllipticCurveType", laid_pub_convoy_pub_dtls_pkg_protocol_handshake_errInvalidEllipticCurveType), ("pub-convoy/pub/dtls/pkg/protocol/handshake.errInvalidNamedCurve", laid_pub_convoy_pub_dtls_pkg_protocol_handshake_errInvalidNamedCurve), ("pub-convoy/pub/dtls/pkg/protocol/handshake.errCipherSuiteUnset", laid_pub_convoy_pub_dtls_pkg_protocol_handshake_errCipherSuiteUnset)] }
def FnServerKeyEcdheCutSaid : Prop := fnServerKeyEcdheCutRow.holds Tryd.pinned (OpenSpec.ofChange fnServerKeyEcdheCutSpec)

/-- ITS FALSE NEIGHBOUR: 'it returns false'. Refute it at one input. -/
def fnServerKeyEcdheCutWrong : ChangeSpec := { name := "fnServerKeyEcdheCut", fn := fun _ => fun
  | [d1, d2, d3, d4, d5] => { results := [.lit (.bool false)], args := [d1, d2, d3, d4, d5] }
  | _ => none }
def FnServerKeyEcdheCutWrongFalsely : Prop := fnServerKeyEcdheCutRow.holds Tryd.pinned (OpenSpec.ofChange fnServerKeyEcdheCutWrong)

/-- 'laws.FnServerKeyPskBack': WHATEVER THE INPUT: true; the input reads as it did. -/
def fnServerKeyPskBackSpec : ChangeSpec := { name := "fnServerKeyPskBack", fn := fun _ => fun
  | [d] => { results := [.lit (.bool true)], args := [d] }
  | _ => none }
def fnServerKeyPskBackRow : OpenClaim := { program := "ytpmlcllpigcccaadoor", sum := "aa51c15d591c68452a0aedd87a81daf192bc3fbb3f61f0748bd9173e9aa5428b", func := "pub-convoy/laws.FnServerKeyPskBack", spec := "fnServerKeyPskBack", unfollowed := true, recurses := true, named := ["pub-convoy/pub/dtls/pkg/protocol/handshake.errBufferTooSmall", "pub-convoy/pub/dtls/pkg/protocol/handshake.errCipherSuiteUnset", "encoding/binary.BigEndian", "pub-convoy/pub/dtls/pkg/protocol/handshake.errLengthMismatch", "pub-convoy/pub/dtls/pkg/protocol/handshake.errInvalidEllipticCurveType", "pub-convoy/pub/dtls/pkg/protocol/handshake.errInvalidNamedCurve", "pub-convoy/pub/dtls/pkg/protocol/handshake.errInvalidSignHashAlgorithm", "pub-convoy/pub/dtls/pkg/crypto/signaturehash.errInvalidHashAlgorithm", "pub-convoy/pub/dtls/pkg/crypto/signaturehash.errInvalidSignatureAlgorithm"], apart := false, laid := [("pub-convoy/pub/dtls/pkg/crypto/signaturehash.errInvalidSignatureAlgorithm", laid_pub_convoy_pub_dtls_pkg_crypto_signaturehash_errInvalidSignatureAlgorithm), ("pub-convoy/pub/dtls/pkg/crypto/signaturehash.errInvalidHashAlgorithm", laid_pub_convoy_pub_dtls_pkg_crypto_signaturehash_errInvalidHashAlgorithm), ("pub-convoy/pub/dtls/pkg/protocol/handshake.errBufferTooSmall", laid_pub_convoy_pub_dtls_pkg_protocol_handshake_errBufferTooSmall), ("pub-convoy/pub/dtls/pkg/protocol/handshake.errLengthMismatch", laid_pub_convoy_pub_dtls_pkg_protocol_handshake_errLengthMismatch), ("pub-convoy/pub/dtls/pkg/protocol/handshake.errInvalidSignHashAlgorithm", laid_pub_convoy_pub_dtls_pkg_protocol_handshake_errInvalidSignHashAlgorithm), ("pub-convoy/pub/dtls/pkg/protocol/handshake.errInvalidEllipticCurveType", laid_pub_convoy_pub_dtls_pkg_protocol_handshake_errInvalidEllipticCurveType), ("pub-convoy/pub/dtls/pkg/protocol/handshake.errInvalidNamedCurve", laid_pub_convoy_pub_dtls_pkg_protocol_handshake_errInvalidNamedCurve), ("pub-convoy/pub/dtls/pkg/protocol/handshake.errCipherSuiteUnset", laid_pub_convoy_pub_dtls_pkg_protocol_handshake_errCipherSuiteUnset)] }
def FnServerKeyPskBackSaid : Prop := fnServerKeyPskBackRow.holds Tryd.pinned (OpenSpec.ofChange fnServerKeyPskBackSpec)

/-- ITS FALSE NEIGHBOUR: 'it returns false'. Refute it at one input. -/
def fnServerKeyPskBackWrong : ChangeSpec := { name := "fnServerKeyPskBack", fn := fun _ => fun
  | [d] => { results := [.lit (.bool false)], args := [d] }
  | _ => none }
def FnServerKeyPskBackWrongFalsely : Prop := fnServerKeyPskBackRow.holds Tryd.pinned (OpenSpec.ofChange fnServerKeyPskBackWrong)

/-- 'laws.FnPskModesWrite': WHATEVER THE INPUT: true; the input reads as it did. -/
def fnPskModesWriteSpec : ChangeSpec := { name := "fnPskModesWrite", fn := fun _ => fun
  | [d] => { results := [.lit (.bool true)], args := [d] }
  | _ => none }
def fnPskModesWriteRow : OpenClaim := { program := "ytpmlcllpigcccaadoor", sum := "aa51c15d591c68452a0aedd87a81daf192bc3fbb3f61f0748bd9173e9aa5428b", func := "pub-convoy/laws.FnPskModesWrite", spec := "fnPskModesWrite", unfollowed := true, recurses := true, named := ["pub-convoy/pub/dtls/pkg/protocol/extension.errNoPskKeyExchangeMode"], apart := false, laid := [("pub-convoy/pub/dtls/pkg/protocol/extension.errNoPskKeyExchangeMode", laid_pub_convoy_pub_dtls_pkg_protocol_extension_errNoPskKeyExchangeMode)] }
def FnPskModesWriteSaid : Prop := fnPskModesWriteRow.holds Tryd.pinned (OpenSpec.ofChange fnPskModesWriteSpec)

/-- ITS FALSE NEIGHBOUR: 'it returns false'. Refute it at one input. -/
def fnPskModesWriteWrong : ChangeSpec := { name := "fnPskModesWrite", fn := fun _ => fun
  | [d] => { results := [.lit (.bool false)], args := [d] }
  | _ => none }
def FnPskModesWriteWrongFalsely : Prop := fnPskModesWriteRow.holds Tryd.pinned (OpenSpec.ofChange fnPskModesWriteWrong)

/-- 'laws.FnOIDFiltersRefused': WHATEVER THE INPUT: true; the input reads as it did. -/
def fnOIDFiltersRefusedSpec : ChangeSpec := { name := "fnOIDFiltersRefused", fn := fun _ => fun
  | [d] => { results := [.lit (.bool true)], args := [d] }
  | _ => none }
def fnOIDFiltersRefusedRow : OpenClaim := { program := "ytpmlcllpigcccaadoor", sum := "aa51c15d591c68452a0aedd87a81daf192bc3fbb3f61f0748bd9173e9aa5428b", func := "pub-convoy/laws.FnOIDFiltersRefused", spec := "fnOIDFiltersRefused", unfollowed := true, recurses := true, named := ["pub-convoy/pub/dtls/pkg/protocol/extension.errEmptyOIDFilter", "pub-convoy/pub/dtls/pkg/protocol/extension.errDuplicateOID"], apart := false, laid := [("pub-convoy/pub/dtls/pkg/protocol/extension.errEmptyOIDFilter", laid_pub_convoy_pub_dtls_pkg_protocol_extension_errEmptyOIDFilter), ("pub-convoy/pub/dtls/pkg/protocol/extension.errDuplicateOID", laid_pub_convoy_pub_dtls_pkg_protocol_extension_errDuplicateOID)] }
def FnOIDFiltersRefusedSaid : Prop := fnOIDFiltersRefusedRow.holds Tryd.pinned (OpenSpec.ofChange fnOIDFiltersRefusedSpec)

/-- ITS FALSE NEIGHBOUR: 'it returns false'. Refute it at one input. -/
def fnOIDFiltersRefusedWrong : ChangeSpec := { name := "fnOIDFiltersRefused", fn := fun _ => fun
  | [d] => { results := [.lit (.bool false)], args := [d] }
  | _ => none }
def FnOIDFiltersRefusedWrongFalsely : Prop := fnOIDFiltersRefusedRow.holds Tryd.pinned (OpenSpec.ofChange fnOIDFiltersRefusedWrong)

/- THE SECOND FORM. 'bulk': how many values and letters a reading holds, each counted each time it is reached (what is shared counts as often as it is met; a slice's spare places count too). A statement '..UptoSaid' is the law's where the arguments, and the package variables that the reading takes, are together of bulk at most 1048576: NARROWER than '..Said'. Prove '..Said' where nothing that the law and all that it calls make is longer than what came in: it says more and counts as full. Else prove '..UptoSaid'. A law counts once. -/
mutual
def uptoBulk {H : Type} : DataW H → Nat
  | .lit (.string bytes) => bytes.length + 1
  | .lit _ => 1
  | .nil => 1
  | .ptr d => uptoBulk d + 1
  | .slice elems spare => uptoBulkAll elems + uptoBulkAll spare + 1
  | .agg parts => uptoBulkAll parts + 1
  | .iface _ d => uptoBulk d + 1
  | .map entries => uptoBulkEntries entries + 1
  | .held _ => 1
def uptoBulkAll {H : Type} : List (DataW H) → Nat
  | [] => 0
  | d :: r => uptoBulk d + uptoBulkAll r
def uptoBulkEntries {H : Type} : List (Lit × DataW H) → Nat
  | [] => 0
  | x :: r => uptoBulkEntry x + uptoBulkEntries r
def uptoBulkEntry {H : Type} : Lit × DataW H → Nat
  | (.string bytes, d) => bytes.length + uptoBulk d + 1
  | (_, d) => uptoBulk d + 1
 end
def uptoSmall : (H : Type) → List (DataW H) → Bool := fun _ ds => decide (uptoBulkAll ds ≤ 1048576)
def OpenSpec.upto (s : _root_.Go.ChangeSpec) : _root_.Go.OpenSpec := { _root_.Go.OpenSpec.ofChange s with cond := some uptoSmall }

/-- 'laws.FnCertificateVerifyCut', WHERE WHAT IT READS IS OF BULK AT MOST 1048576: true; the input reads as it did. -/
def fnCertificateVerifyCutUptoRow : OpenClaim := { program := "ytpmlcllpigcccaadoor", sum := "aa51c15d591c68452a0aedd87a81daf192bc3fbb3f61f0748bd9173e9aa5428b", func := "pub-convoy/laws.FnCertificateVerifyCut", spec := "fnCertificateVerifyCut", named := ["pub-convoy/pub/dtls/pkg/protocol/handshake.errBufferTooSmall", "encoding/binary.BigEndian", "pub-convoy/pub/dtls/pkg/protocol/handshake.errInvalidSignHashAlgorithm", "pub-convoy/pub/dtls/pkg/crypto/signaturehash.errInvalidHashAlgorithm", "pub-convoy/pub/dtls/pkg/crypto/signaturehash.errInvalidSignatureAlgorithm"], apart := false, laid := [("pub-convoy/pub/dtls/pkg/crypto/signaturehash.errInvalidSignatureAlgorithm", laid_pub_convoy_pub_dtls_pkg_crypto_signaturehash_errInvalidSignatureAlgorithm), ("pub-convoy/pub/dtls/pkg/crypto/signaturehash.errInvalidHashAlgorithm", laid_pub_convoy_pub_dtls_pkg_crypto_signaturehash_errInvalidHashAlgorithm), ("pub-convoy/pub/dtls/pkg/protocol/handshake.errBufferTooSmall", laid_pub_convoy_pub_dtls_pkg_protocol_handshake_errBufferTooSmall), ("pub-convoy/pub/dtls/pkg/protocol/handshake.errInvalidSignHashAlgorithm", laid_pub_convoy_pub_dtls_pkg_protocol_handshake_errInvalidSignHashAlgorithm)], narrowed := true }
def FnCertificateVerifyCutUptoSaid : Prop := fnCertificateVerifyCutUptoRow.holds Tryd.pinned (OpenSpec.upto fnCertificateVerifyCutSpec)

/-- 'laws.FnSchemeBack', WHERE WHAT IT READS IS OF BULK AT MOST 1048576: true; the input reads as it did. -/
def fnSchemeBackUptoRow : OpenClaim := { program := "ytpmlcllpigcccaadoor", sum := "aa51c15d591c68452a0aedd87a81daf192bc3fbb3f61f0748bd9173e9aa5428b", func := "pub-convoy/laws.FnSchemeBack", spec := "fnSchemeBack", named := ["pub-convoy/pub/dtls/pkg/crypto/signaturehash.errInvalidHashAlgorithm", "pub-convoy/pub/dtls/pkg/crypto/signaturehash.errInvalidSignatureAlgorithm"], apart := false, laid := [("pub-convoy/pub/dtls/pkg/crypto/signaturehash.errInvalidSignatureAlgorithm", laid_pub_convoy_pub_dtls_pkg_crypto_signaturehash_errInvalidSignatureAlgorithm), ("pub-convoy/pub/dtls/pkg/crypto/signaturehash.errInvalidHashAlgorithm", laid_pub_convoy_pub_dtls_pkg_crypto_signaturehash_errInvalidHashAlgorithm)], narrowed := true }
def FnSchemeBackUptoSaid : Prop := fnSchemeBackUptoRow.holds Tryd.pinned (OpenSpec.upto fnSchemeBackSpec)

/-- 'laws.FnCertificateRefused', WHERE WHAT IT READS IS OF BULK AT MOST 1048576: true; the input reads as it did. -/
def fnCertificateRefusedUptoRow : OpenClaim := { program := "ytpmlcllpigcccaadoor", sum := "aa51c15d591c68452a0aedd87a81daf192bc3fbb3f61f0748bd9173e9aa5428b", func := "pub-convoy/laws.FnCertificateRefused", spec := "fnCertificateRefused", named := ["pub-convoy/pub/dtls/pkg/protocol/handshake.errLengthMismatch", "encoding/binary.BigEndian", "pub-convoy/pub/dtls/pkg/protocol/handshake.errBufferTooSmall"], apart := false, laid := [("pub-convoy/pub/dtls/pkg/protocol/handshake.errBufferTooSmall", laid_pub_convoy_pub_dtls_pkg_protocol_handshake_errBufferTooSmall), ("pub-convoy/pub/dtls/pkg/protocol/handshake.errLengthMismatch", laid_pub_convoy_pub_dtls_pkg_protocol_handshake_errLengthMismatch)], narrowed := true }
def FnCertificateRefusedUptoSaid : Prop := fnCertificateRefusedUptoRow.holds Tryd.pinned (OpenSpec.upto fnCertificateRefusedSpec)

/-- 'laws.FnSchemesInsecure', WHERE WHAT IT READS IS OF BULK AT MOST 1048576: true; the input reads as it did. -/
def fnSchemesInsecureUptoRow : OpenClaim := { program := "ytpmlcllpigcccaadoor", sum := "aa51c15d591c68452a0aedd87a81daf192bc3fbb3f61f0748bd9173e9aa5428b", func := "pub-convoy/laws.FnSchemesInsecure", spec := "fnSchemesInsecure", unfollowed := true, recurses := true, named := ["pub-convoy/pub/dtls/pkg/crypto/signaturehash.errNoAvailableSignatureSchemes", "pub-convoy/pub/dtls/pkg/crypto/signaturehash.errInvalidHashAlgorithm", "pub-convoy/pub/dtls/pkg/crypto/signaturehash.errInvalidSignatureAlgorithm"], apart := false, laid := [("pub-convoy/pub/dtls/pkg/crypto/signaturehash.errNoAvailableSignatureSchemes", laid_pub_convoy_pub_dtls_pkg_crypto_signaturehash_errNoAvailableSignatureSchemes), ("pub-convoy/pub/dtls/pkg/crypto/signaturehash.errInvalidSignatureAlgorithm", laid_pub_convoy_pub_dtls_pkg_crypto_signaturehash_errInvalidSignatureAlgorithm), ("pub-convoy/pub/dtls/pkg/crypto/signaturehash.errInvalidHashAlgorithm", laid_pub_convoy_pub_dtls_pkg_crypto_signaturehash_errInvalidHashAlgorithm)], narrowed := true }
def FnSchemesInsecureUptoSaid : Prop := fnSchemesInsecureUptoRow.holds Tryd.pinned (OpenSpec.upto fnSchemesInsecureSpec)

/-- 'laws.FnSignatureAlgorithmsCut', WHERE WHAT IT READS IS OF BULK AT MOST 1048576: true; the input reads as it did. -/
def fnSignatureAlgorithmsCutUptoRow : OpenClaim := { program := "ytpmlcllpigcccaadoor", sum := "aa51c15d591c68452a0aedd87a81daf192bc3fbb3f61f0748bd9173e9aa5428b", func := "pub-convoy/laws.FnSignatureAlgorithmsCut", spec := "fnSignatureAlgorithmsCut", named := ["pub-convoy/pub/dtls/pkg/protocol/extension.errInvalidExtensionType", "pub-convoy/pub/dtls/pkg/protocol/extension.errBufferTooSmall", "pub-convoy/pub/dtls/pkg/protocol/extension.errLengthMismatch", "pub-convoy/pub/dtls/pkg/crypto/signaturehash.errInvalidHashAlgorithm", "pub-convoy/pub/dtls/pkg/crypto/signaturehash.errInvalidSignatureAlgorithm"], apart := false, laid := [("pub-convoy/pub/dtls/pkg/crypto/signaturehash.errInvalidSignatureAlgorithm", laid_pub_convoy_pub_dtls_pkg_crypto_signaturehash_errInvalidSignatureAlgorithm), ("pub-convoy/pub/dtls/pkg/crypto/signaturehash.errInvalidHashAlgorithm", laid_pub_convoy_pub_dtls_pkg_crypto_signaturehash_errInvalidHashAlgorithm), ("pub-convoy/pub/dtls/pkg/protocol/extension.errBufferTooSmall", laid_pub_convoy_pub_dtls_pkg_protocol_extension_errBufferTooSmall), ("pub-convoy/pub/dtls/pkg/protocol/extension.errInvalidExtensionType", laid_pub_convoy_pub_dtls_pkg_protocol_extension_errInvalidExtensionType), ("pub-convoy/pub/dtls/pkg/protocol/extension.errLengthMismatch", laid_pub_convoy_pub_dtls_pkg_protocol_extension_errLengthMismatch)], narrowed := true }
def FnSignatureAlgorithmsCutUptoSaid : Prop := fnSignatureAlgorithmsCutUptoRow.holds Tryd.pinned (OpenSpec.upto fnSignatureAlgorithmsCutSpec)

/-- 'laws.FnRequestBack', WHERE WHAT IT READS IS OF BULK AT MOST 1048576: true; the input reads as it did. -/
def fnRequestBackUptoRow : OpenClaim := { program := "ytpmlcllpigcccaadoor", sum := "aa51c15d591c68452a0aedd87a81daf192bc3fbb3f61f0748bd9173e9aa5428b", func := "pub-convoy/laws.FnRequestBack", spec := "fnRequestBack", unfollowed := true, recurses := true, named := ["pub-convoy/pub/dtls/pkg/protocol/handshake.errBufferTooSmall", "encoding/binary.BigEndian", "pub-convoy/pub/dtls/pkg/crypto/signaturehash.errInvalidHashAlgorithm", "pub-convoy/pub/dtls/pkg/crypto/signaturehash.errInvalidSignatureAlgorithm"], apart := false, laid := [("pub-convoy/pub/dtls/pkg/crypto/signaturehash.errInvalidSignatureAlgorithm", laid_pub_convoy_pub_dtls_pkg_crypto_signaturehash_errInvalidSignatureAlgorithm), ("pub-convoy/pub/dtls/pkg/crypto/signaturehash.errInvalidHashAlgorithm", laid_pub_convoy_pub_dtls_pkg_crypto_signaturehash_errInvalidHashAlgorithm), ("pub-convoy/pub/dtls/pkg/protocol/handshake.errBufferTooSmall", laid_pub_convoy_pub_dtls_pkg_protocol_handshake_errBufferTooSmall)], narrowed := true }
def FnRequestBackUptoSaid : Prop := fnRequestBackUptoRow.holds Tryd.pinned (OpenSpec.upto fnRequestBackSpec)

/-- 'laws.FnCookieWrite', WHERE WHAT IT READS IS OF BULK AT MOST 1048576: true; the input reads as it did. -/
def fnCookieWriteUptoRow : OpenClaim := { program := "ytpmlcllpigcccaadoor", sum := "aa51c15d591c68452a0aedd87a81daf192bc3fbb3f61f0748bd9173e9aa5428b", func := "pub-convoy/laws.FnCookieWrite", spec := "fnCookieWrite", unfollowed := true, recurses := true, named := ["pub-convoy/pub/dtls/pkg/protocol/extension.errCookieExtFormat"], apart := false, laid := [("pub-convoy/pub/dtls/pkg/protocol/extension.errCookieExtFormat", laid_pub_convoy_pub_dtls_pkg_protocol_extension_errCookieExtFormat)], narrowed := true }
def FnCookieWriteUptoSaid : Prop := fnCookieWriteUptoRow.holds Tryd.pinned (OpenSpec.upto fnCookieWriteSpec)

/-- 'laws.FnServerKeyEcdheCut', WHERE WHAT IT READS IS OF BULK AT MOST 1048576: true; the input reads as it did. -/
def fnServerKeyEcdheCutUptoRow : OpenClaim := { program := "ytpmlcllpigcccaadoor", sum := "aa51c15d591c68452a0aedd87a81daf192bc3fbb3f61f0748bd9173e9aa5428b", func := "pub-convoy/laws.FnServerKeyEcdheCut", spec := "fnServerKeyEcdheCut", named := ["pub-convoy/pub/dtls/pkg/protocol/handshake.errBufferTooSmall", "pub-convoy/pub/dtls/pkg/protocol/handshake.errCipherSuiteUnset", "encoding/binary.BigEndian", "pub-convoy/pub/dtls/pkg/protocol/handshake.errLengthMismatch", "pub-convoy/pub/dtls/pkg/protocol/handshake.errInvalidEllipticCurveType", "pub-convoy/pub/dtls/pkg/protocol/handshake.errInvalidNamedCurve", "pub-convoy/pub/dtls/pkg/protocol/handshake.errInvalidSignHashAlgorithm", "pub-convoy/pub/dtls/pkg/crypto/signaturehash.errInvalidHashAlgorithm", "pub-convoy/pub/dtls/pkg/crypto/signaturehash.errInvalidSignatureAlgorithm"], apart := false, laid := [("pub-convoy/pub/dtls/pkg/crypto/signaturehash.errInvalidSignatureAlgorithm", laid_pub_convoy_pub_dtls_pkg_crypto_signaturehash_errInvalidSignatureAlgorithm), ("pub-convoy/pub/dtls/pkg/crypto/signaturehash.errInvalidHashAlgorithm", laid_pub_convoy_pub_dtls_pkg_crypto_signaturehash_errInvalidHashAlgorithm), ("pub-convoy/pub/dtls/pkg/protocol/handshake.errBufferTooSmall", laid_pub_convoy_pub_dtls_pkg_protocol_handshake_errBufferTooSmall), ("pub-convoy/pub/dtls/pkg/protocol/handshake.errLengthMismatch", laid_pub_convoy_pub_dtls_pkg_protocol_handshake_errLengthMismatch), ("pub-convoy/pub/dtls/pkg/protocol/handshake.errInvalidSignHashAlgorithm", laid_pub_convoy_pub_dtls_pkg_protocol_handshake_errInvalidSignHashAlgorithm), ("pub-convoy/pub/dtls/pkg/protocol/handshake.errInvalidEllipticCurveType", laid_pub_convoy_pub_dtls_pkg_protocol_handshake_errInvalidEllipticCurveType), ("pub-convoy/pub/dtls/pkg/protocol/handshake.errInvalidNamedCurve", laid_pub_convoy_pub_dtls_pkg_protocol_handshake_errInvalidNamedCurve), ("pub-convoy/pub/dtls/pkg/protocol/handshake.errCipherSuiteUnset", laid_pub_convoy_pub_dtls_pkg_protocol_handshake_errCipherSuiteUnset)], narrowed := true }
def FnServerKeyEcdheCutUptoSaid : Prop := fnServerKeyEcdheCutUptoRow.holds Tryd.pinned (OpenSpec.upto fnServerKeyEcdheCutSpec)

/-- 'laws.FnServerKeyPskBack', WHERE WHAT IT READS IS OF BULK AT MOST 1048576: true; the input reads as it did. -/
def fnServerKeyPskBackUptoRow : OpenClaim := { program := "ytpmlcllpigcccaadoor", sum := "aa51c15d591c68452a0aedd87a81daf192bc3fbb3f61f0748bd9173e9aa5428b", func := "pub-convoy/laws.FnServerKeyPskBack", spec := "fnServerKeyPskBack", unfollowed := true, recurses := true, named := ["pub-convoy/pub/dtls/pkg/protocol/handshake.errBufferTooSmall", "pub-convoy/pub/dtls/pkg/protocol/handshake.errCipherSuiteUnset", "encoding/binary.BigEndian", "pub-convoy/pub/dtls/pkg/protocol/handshake.errLengthMismatch", "pub-convoy/pub/dtls/pkg/protocol/handshake.errInvalidEllipticCurveType", "pub-convoy/pub/dtls/pkg/protocol/handshake.errInvalidNamedCurve", "pub-convoy/pub/dtls/pkg/protocol/handshake.errInvalidSignHashAlgorithm", "pub-convoy/pub/dtls/pkg/crypto/signaturehash.errInvalidHashAlgorithm", "pub-convoy/pub/dtls/pkg/crypto/signaturehash.errInvalidSignatureAlgorithm"], apart := false, laid := [("pub-convoy/pub/dtls/pkg/crypto/signaturehash.errInvalidSignatureAlgorithm", laid_pub_convoy_pub_dtls_pkg_crypto_signaturehash_errInvalidSignatureAlgorithm), ("pub-convoy/pub/dtls/pkg/crypto/signaturehash.errInvalidHashAlgorithm", laid_pub_convoy_pub_dtls_pkg_crypto_signaturehash_errInvalidHashAlgorithm), ("pub-convoy/pub/dtls/pkg/protocol/handshake.errBufferTooSmall", laid_pub_convoy_pub_dtls_pkg_protocol_handshake_errBufferTooSmall), ("pub-convoy/pub/dtls/pkg/protocol/handshake.errLengthMismatch", laid_pub_convoy_pub_dtls_pkg_protocol_handshake_errLengthMismatch), ("pub-convoy/pub/dtls/pkg/protocol/handshake.errInvalidSignHashAlgorithm", laid_pub_convoy_pub_dtls_pkg_protocol_handshake_errInvalidSignHashAlgorithm), ("pub-convoy/pub/dtls/pkg/protocol/handshake.errInvalidEllipticCurveType", laid_pub_convoy_pub_dtls_pkg_protocol_handshake_errInvalidEllipticCurveType), ("pub-convoy/pub/dtls/pkg/protocol/handshake.errInvalidNamedCurve", laid_pub_convoy_pub_dtls_pkg_protocol_handshake_errInvalidNamedCurve), ("pub-convoy/pub/dtls/pkg/protocol/handshake.errCipherSuiteUnset", laid_pub_convoy_pub_dtls_pkg_protocol_handshake_errCipherSuiteUnset)], narrowed := true }
def FnServerKeyPskBackUptoSaid : Prop := fnServerKeyPskBackUptoRow.holds Tryd.pinned (OpenSpec.upto fnServerKeyPskBackSpec)

/-- 'laws.FnPskModesWrite', WHERE WHAT IT READS IS OF BULK AT MOST 1048576: true; the input reads as it did. -/
def fnPskModesWriteUptoRow : OpenClaim := { program := "ytpmlcllpigcccaadoor", sum := "aa51c15d591c68452a0aedd87a81daf192bc3fbb3f61f0748bd9173e9aa5428b", func := "pub-convoy/laws.FnPskModesWrite", spec := "fnPskModesWrite", unfollowed := true, recurses := true, named := ["pub-convoy/pub/dtls/pkg/protocol/extension.errNoPskKeyExchangeMode"], apart := false, laid := [("pub-convoy/pub/dtls/pkg/protocol/extension.errNoPskKeyExchangeMode", laid_pub_convoy_pub_dtls_pkg_protocol_extension_errNoPskKeyExchangeMode)], narrowed := true }
def FnPskModesWriteUptoSaid : Prop := fnPskModesWriteUptoRow.holds Tryd.pinned (OpenSpec.upto fnPskModesWriteSpec)

/-- 'laws.FnOIDFiltersRefused', WHERE WHAT IT READS IS OF BULK AT MOST 1048576: true; the input reads as it did. -/
def fnOIDFiltersRefusedUptoRow : OpenClaim := { program := "ytpmlcllpigcccaadoor", sum := "aa51c15d591c68452a0aedd87a81daf192bc3fbb3f61f0748bd9173e9aa5428b", func := "pub-convoy/laws.FnOIDFiltersRefused", spec := "fnOIDFiltersRefused", unfollowed := true, recurses := true, named := ["pub-convoy/pub/dtls/pkg/protocol/extension.errEmptyOIDFilter", "pub-convoy/pub/dtls/pkg/protocol/extension.errDuplicateOID"], apart := false, laid := [("pub-convoy/pub/dtls/pkg/protocol/extension.errEmptyOIDFilter", laid_pub_convoy_pub_dtls_pkg_protocol_extension_errEmptyOIDFilter), ("pub-convoy/pub/dtls/pkg/protocol/extension.errDuplicateOID", laid_pub_convoy_pub_dtls_pkg_protocol_extension_errDuplicateOID)], narrowed := true }
def FnOIDFiltersRefusedUptoSaid : Prop := fnOIDFiltersRefusedUptoRow.holds Tryd.pinned (OpenSpec.upto fnOIDFiltersRefusedSpec)

end Rows
end Go.Proofs.YtpmlcllpigcccaaDoor
