/-
  DERIVED. GIVEN WITH THE SEED: THE PROGRAM's TIES (one call each: nine closed facts by the kernel) AND EACH ROW's TIE, after the 31st guide's Derived/Test/Toyas{Tie, Card}.lean. No idea stands in it: it is a product of the set-up. Laid BY PROGRAM, IN A SANDBOX (cutbox-door.mjs). By AI agents, Wed Nov 11 2026. No macro, syntax, notation, axiom, sorry.
-/
import Derived.Test.YthfpfakdchhodaaDoorRows
import Derived.LaidByTextLater
import Derived.SevenTiedAt
import Derived.LaidSub
import Derived.LaidOnce
namespace Go.Proofs.YthfpfakdchhodaaDoor
open Go
set_option maxRecDepth 100000
theorem seatTie1 : Tryd.prog.laidByTextLater [("pub-convoy/pub/dtls/pkg/protocol.Version1_0", Rows.laid_pub_convoy_pub_dtls_pkg_protocol_Version1_0), ("pub-convoy/pub/dtls/pkg/protocol.Version1_2", Rows.laid_pub_convoy_pub_dtls_pkg_protocol_Version1_2), ("pub-convoy/pub/dtls/pkg/protocol/extension.ErrALPNInvalidFormat", Rows.laid_pub_convoy_pub_dtls_pkg_protocol_extension_ErrALPNInvalidFormat), ("pub-convoy/pub/dtls/pkg/protocol/extension.errBufferTooSmall", Rows.laid_pub_convoy_pub_dtls_pkg_protocol_extension_errBufferTooSmall), ("pub-convoy/pub/dtls/pkg/protocol/extension.errInvalidExtensionType", Rows.laid_pub_convoy_pub_dtls_pkg_protocol_extension_errInvalidExtensionType), ("pub-convoy/pub/dtls/pkg/protocol/extension.errLengthMismatch", Rows.laid_pub_convoy_pub_dtls_pkg_protocol_extension_errLengthMismatch), ("pub-convoy/pub/dtls/pkg/protocol/extension.errMasterKeyIdentifierTooLarge", Rows.laid_pub_convoy_pub_dtls_pkg_protocol_extension_errMasterKeyIdentifierTooLarge), ("pub-convoy/pub/dtls/pkg/protocol/extension.errUseSRTPDataTooLarge", Rows.laid_pub_convoy_pub_dtls_pkg_protocol_extension_errUseSRTPDataTooLarge), ("pub-convoy/pub/dtls/pkg/protocol/extension.errPreSharedKeyFormat", Rows.laid_pub_convoy_pub_dtls_pkg_protocol_extension_errPreSharedKeyFormat), ("pub-convoy/pub/dtls/pkg/protocol/extension.errInvalidKeyShareFormat", Rows.laid_pub_convoy_pub_dtls_pkg_protocol_extension_errInvalidKeyShareFormat), ("pub-convoy/pub/dtls/pkg/protocol/extension.errDuplicateKeyShare", Rows.laid_pub_convoy_pub_dtls_pkg_protocol_extension_errDuplicateKeyShare), ("pub-convoy/pub/dtls/pkg/protocol/extension.errInvalidCertificateAuthFormat", Rows.laid_pub_convoy_pub_dtls_pkg_protocol_extension_errInvalidCertificateAuthFormat), ("pub-convoy/pub/dtls/pkg/protocol/handshake.errBufferTooSmall", Rows.laid_pub_convoy_pub_dtls_pkg_protocol_handshake_errBufferTooSmall), ("pub-convoy/pub/dtls/pkg/protocol/handshake.errLengthMismatch", Rows.laid_pub_convoy_pub_dtls_pkg_protocol_handshake_errLengthMismatch), ("pub-convoy/pub/dtls/pkg/protocol/handshake.errCipherSuiteUnset", Rows.laid_pub_convoy_pub_dtls_pkg_protocol_handshake_errCipherSuiteUnset), ("pub-convoy/pub/dtls/pkg/protocol/recordlayer.ErrInvalidPacketLength", Rows.laid_pub_convoy_pub_dtls_pkg_protocol_recordlayer_ErrInvalidPacketLength), ("pub-convoy/pub/dtls/pkg/protocol/recordlayer.errBufferTooSmall", Rows.laid_pub_convoy_pub_dtls_pkg_protocol_recordlayer_errBufferTooSmall), ("pub-convoy/pub/dtls/pkg/protocol/recordlayer.errUnsupportedProtocolVersion", Rows.laid_pub_convoy_pub_dtls_pkg_protocol_recordlayer_errUnsupportedProtocolVersion)] [.data, .data, .sentinel, .sentinel, .sentinel, .sentinel, .sentinel, .sentinel, .sentinel, .sentinel, .sentinel, .sentinel, .sentinel, .sentinel, .sentinel, .sentinel, .sentinel, .sentinel] true :=
  Program.laidByTextLater_by_one 323 8 3 (by kernel_rfl) (by kernel_rfl) (by kernel_rfl) (by kernel_rfl) (by kernel_rfl) (by kernel_rfl) (fun _ _ => by kernel_rfl)
theorem noOwnUnsafe : Tryd.pinned.checked.prog.headLifts.contains "ownunsafe" = false := by kernel_rfl
theorem tie : Tryd.prog.laidByTextLater [("pub-convoy/pub/dtls/pkg/protocol.Version1_0", Rows.laid_pub_convoy_pub_dtls_pkg_protocol_Version1_0), ("pub-convoy/pub/dtls/pkg/protocol.Version1_2", Rows.laid_pub_convoy_pub_dtls_pkg_protocol_Version1_2), ("pub-convoy/pub/dtls/pkg/protocol/recordlayer.errBufferTooSmall", Rows.laid_pub_convoy_pub_dtls_pkg_protocol_recordlayer_errBufferTooSmall), ("pub-convoy/pub/dtls/pkg/protocol/recordlayer.errUnsupportedProtocolVersion", Rows.laid_pub_convoy_pub_dtls_pkg_protocol_recordlayer_errUnsupportedProtocolVersion)] [.data, .data, .sentinel, .sentinel] true :=
  Program.laidByTextLater.sub seatTie1 ["pub-convoy/pub/dtls/pkg/protocol.Version1_0", "pub-convoy/pub/dtls/pkg/protocol.Version1_2", "pub-convoy/pub/dtls/pkg/protocol/recordlayer.errBufferTooSmall", "pub-convoy/pub/dtls/pkg/protocol/recordlayer.errUnsupportedProtocolVersion"] (by kernel_rfl) (by kernel_rfl)
theorem fnHeaderShort_row_tie : Rows.fnHeaderShortRow.laidByTextAt .later Tryd.pinned [.data, .data, .sentinel, .sentinel] true :=
  OpenClaim.laidByTextAt_later rfl rfl tie noOwnUnsafe
theorem tie2 : Tryd.prog.laidByTextLater [("pub-convoy/pub/dtls/pkg/protocol/extension.errMasterKeyIdentifierTooLarge", Rows.laid_pub_convoy_pub_dtls_pkg_protocol_extension_errMasterKeyIdentifierTooLarge), ("pub-convoy/pub/dtls/pkg/protocol/extension.errUseSRTPDataTooLarge", Rows.laid_pub_convoy_pub_dtls_pkg_protocol_extension_errUseSRTPDataTooLarge)] [.sentinel, .sentinel] true :=
  Program.laidByTextLater.sub seatTie1 ["pub-convoy/pub/dtls/pkg/protocol/extension.errMasterKeyIdentifierTooLarge", "pub-convoy/pub/dtls/pkg/protocol/extension.errUseSRTPDataTooLarge"] (by kernel_rfl) (by kernel_rfl)
theorem fnSRTPWrite_row_tie : Rows.fnSRTPWriteRow.laidByTextAt .later Tryd.pinned [.sentinel, .sentinel] true :=
  OpenClaim.laidByTextAt_later rfl rfl tie2 noOwnUnsafe
theorem tie3 : Tryd.prog.laidByTextLater [("pub-convoy/pub/dtls/pkg/protocol/handshake.errLengthMismatch", Rows.laid_pub_convoy_pub_dtls_pkg_protocol_handshake_errLengthMismatch)] [.sentinel] true :=
  Program.laidByTextLater.sub seatTie1 ["pub-convoy/pub/dtls/pkg/protocol/handshake.errLengthMismatch"] (by kernel_rfl) (by kernel_rfl)
theorem fnCertificateWrite_row_tie : Rows.fnCertificateWriteRow.laidByTextAt .later Tryd.pinned [.sentinel] true :=
  OpenClaim.laidByTextAt_later rfl rfl tie3 noOwnUnsafe
theorem tie4 : Tryd.prog.laidByTextLater [("pub-convoy/pub/dtls/pkg/protocol/extension.ErrALPNInvalidFormat", Rows.laid_pub_convoy_pub_dtls_pkg_protocol_extension_ErrALPNInvalidFormat), ("pub-convoy/pub/dtls/pkg/protocol/extension.errInvalidExtensionType", Rows.laid_pub_convoy_pub_dtls_pkg_protocol_extension_errInvalidExtensionType), ("pub-convoy/pub/dtls/pkg/protocol/extension.errLengthMismatch", Rows.laid_pub_convoy_pub_dtls_pkg_protocol_extension_errLengthMismatch)] [.sentinel, .sentinel, .sentinel] true :=
  Program.laidByTextLater.sub seatTie1 ["pub-convoy/pub/dtls/pkg/protocol/extension.ErrALPNInvalidFormat", "pub-convoy/pub/dtls/pkg/protocol/extension.errInvalidExtensionType", "pub-convoy/pub/dtls/pkg/protocol/extension.errLengthMismatch"] (by kernel_rfl) (by kernel_rfl)
theorem fnALPNBack_row_tie : Rows.fnALPNBackRow.laidByTextAt .later Tryd.pinned [.sentinel, .sentinel, .sentinel] true :=
  OpenClaim.laidByTextAt_later rfl rfl tie4 noOwnUnsafe
theorem tie5 : Tryd.prog.laidByTextLater [("pub-convoy/pub/dtls/pkg/protocol/extension.errBufferTooSmall", Rows.laid_pub_convoy_pub_dtls_pkg_protocol_extension_errBufferTooSmall), ("pub-convoy/pub/dtls/pkg/protocol/extension.errInvalidExtensionType", Rows.laid_pub_convoy_pub_dtls_pkg_protocol_extension_errInvalidExtensionType), ("pub-convoy/pub/dtls/pkg/protocol/extension.errLengthMismatch", Rows.laid_pub_convoy_pub_dtls_pkg_protocol_extension_errLengthMismatch), ("pub-convoy/pub/dtls/pkg/protocol/extension.errInvalidCertificateAuthFormat", Rows.laid_pub_convoy_pub_dtls_pkg_protocol_extension_errInvalidCertificateAuthFormat)] [.sentinel, .sentinel, .sentinel, .sentinel] true :=
  Program.laidByTextLater.sub seatTie1 ["pub-convoy/pub/dtls/pkg/protocol/extension.errBufferTooSmall", "pub-convoy/pub/dtls/pkg/protocol/extension.errInvalidExtensionType", "pub-convoy/pub/dtls/pkg/protocol/extension.errLengthMismatch", "pub-convoy/pub/dtls/pkg/protocol/extension.errInvalidCertificateAuthFormat"] (by kernel_rfl) (by kernel_rfl)
theorem fnAuthoritiesBack_row_tie : Rows.fnAuthoritiesBackRow.laidByTextAt .later Tryd.pinned [.sentinel, .sentinel, .sentinel, .sentinel] true :=
  OpenClaim.laidByTextAt_later rfl rfl tie5 noOwnUnsafe
theorem tie6 : Tryd.prog.laidByTextLater [("pub-convoy/pub/dtls/pkg/protocol/extension.errBufferTooSmall", Rows.laid_pub_convoy_pub_dtls_pkg_protocol_extension_errBufferTooSmall), ("pub-convoy/pub/dtls/pkg/protocol/extension.errInvalidExtensionType", Rows.laid_pub_convoy_pub_dtls_pkg_protocol_extension_errInvalidExtensionType), ("pub-convoy/pub/dtls/pkg/protocol/extension.errLengthMismatch", Rows.laid_pub_convoy_pub_dtls_pkg_protocol_extension_errLengthMismatch), ("pub-convoy/pub/dtls/pkg/protocol/extension.errPreSharedKeyFormat", Rows.laid_pub_convoy_pub_dtls_pkg_protocol_extension_errPreSharedKeyFormat)] [.sentinel, .sentinel, .sentinel, .sentinel] true :=
  Program.laidByTextLater.sub seatTie1 ["pub-convoy/pub/dtls/pkg/protocol/extension.errBufferTooSmall", "pub-convoy/pub/dtls/pkg/protocol/extension.errInvalidExtensionType", "pub-convoy/pub/dtls/pkg/protocol/extension.errLengthMismatch", "pub-convoy/pub/dtls/pkg/protocol/extension.errPreSharedKeyFormat"] (by kernel_rfl) (by kernel_rfl)
theorem fnPreSharedKeyBack_row_tie : Rows.fnPreSharedKeyBackRow.laidByTextAt .later Tryd.pinned [.sentinel, .sentinel, .sentinel, .sentinel] true :=
  OpenClaim.laidByTextAt_later rfl rfl tie6 noOwnUnsafe
theorem fnPreSharedKeySelectedCut_row_tie : Rows.fnPreSharedKeySelectedCutRow.laidByTextAt .later Tryd.pinned [.sentinel, .sentinel, .sentinel, .sentinel] true :=
  OpenClaim.laidByTextAt_later rfl rfl tie6 noOwnUnsafe
theorem tie7 : Tryd.prog.laidByTextLater [("pub-convoy/pub/dtls/pkg/protocol/extension.errBufferTooSmall", Rows.laid_pub_convoy_pub_dtls_pkg_protocol_extension_errBufferTooSmall), ("pub-convoy/pub/dtls/pkg/protocol/extension.errInvalidExtensionType", Rows.laid_pub_convoy_pub_dtls_pkg_protocol_extension_errInvalidExtensionType), ("pub-convoy/pub/dtls/pkg/protocol/extension.errInvalidKeyShareFormat", Rows.laid_pub_convoy_pub_dtls_pkg_protocol_extension_errInvalidKeyShareFormat), ("pub-convoy/pub/dtls/pkg/protocol/extension.errDuplicateKeyShare", Rows.laid_pub_convoy_pub_dtls_pkg_protocol_extension_errDuplicateKeyShare)] [.sentinel, .sentinel, .sentinel, .sentinel] true :=
  Program.laidByTextLater.sub seatTie1 ["pub-convoy/pub/dtls/pkg/protocol/extension.errBufferTooSmall", "pub-convoy/pub/dtls/pkg/protocol/extension.errInvalidExtensionType", "pub-convoy/pub/dtls/pkg/protocol/extension.errInvalidKeyShareFormat", "pub-convoy/pub/dtls/pkg/protocol/extension.errDuplicateKeyShare"] (by kernel_rfl) (by kernel_rfl)
theorem fnKeyShareServerCut_row_tie : Rows.fnKeyShareServerCutRow.laidByTextAt .later Tryd.pinned [.sentinel, .sentinel, .sentinel, .sentinel] true :=
  OpenClaim.laidByTextAt_later rfl rfl tie7 noOwnUnsafe
theorem tie8 : Tryd.prog.laidByTextLater [("pub-convoy/pub/dtls/pkg/protocol/handshake.errBufferTooSmall", Rows.laid_pub_convoy_pub_dtls_pkg_protocol_handshake_errBufferTooSmall), ("pub-convoy/pub/dtls/pkg/protocol/handshake.errCipherSuiteUnset", Rows.laid_pub_convoy_pub_dtls_pkg_protocol_handshake_errCipherSuiteUnset)] [.sentinel, .sentinel] true :=
  Program.laidByTextLater.sub seatTie1 ["pub-convoy/pub/dtls/pkg/protocol/handshake.errBufferTooSmall", "pub-convoy/pub/dtls/pkg/protocol/handshake.errCipherSuiteUnset"] (by kernel_rfl) (by kernel_rfl)
theorem fnClientKeyBothBack_row_tie : Rows.fnClientKeyBothBackRow.laidByTextAt .later Tryd.pinned [.sentinel, .sentinel] true :=
  OpenClaim.laidByTextAt_later rfl rfl tie8 noOwnUnsafe
theorem tie9 : Tryd.prog.laidByTextLater [("pub-convoy/pub/dtls/pkg/protocol/extension.errBufferTooSmall", Rows.laid_pub_convoy_pub_dtls_pkg_protocol_extension_errBufferTooSmall), ("pub-convoy/pub/dtls/pkg/protocol/extension.errInvalidExtensionType", Rows.laid_pub_convoy_pub_dtls_pkg_protocol_extension_errInvalidExtensionType), ("pub-convoy/pub/dtls/pkg/protocol/extension.errLengthMismatch", Rows.laid_pub_convoy_pub_dtls_pkg_protocol_extension_errLengthMismatch)] [.sentinel, .sentinel, .sentinel] true :=
  Program.laidByTextLater.sub seatTie1 ["pub-convoy/pub/dtls/pkg/protocol/extension.errBufferTooSmall", "pub-convoy/pub/dtls/pkg/protocol/extension.errInvalidExtensionType", "pub-convoy/pub/dtls/pkg/protocol/extension.errLengthMismatch"] (by kernel_rfl) (by kernel_rfl)
theorem fnPointFormatsBack_row_tie : Rows.fnPointFormatsBackRow.laidByTextAt .later Tryd.pinned [.sentinel, .sentinel, .sentinel] true :=
  OpenClaim.laidByTextAt_later rfl rfl tie9 noOwnUnsafe
theorem tie10 : Tryd.prog.laidByTextLater [("pub-convoy/pub/dtls/pkg/protocol/handshake.errBufferTooSmall", Rows.laid_pub_convoy_pub_dtls_pkg_protocol_handshake_errBufferTooSmall)] [.sentinel] true :=
  Program.laidByTextLater.sub seatTie1 ["pub-convoy/pub/dtls/pkg/protocol/handshake.errBufferTooSmall"] (by kernel_rfl) (by kernel_rfl)
theorem fnSuitesCut_row_tie : Rows.fnSuitesCutRow.laidByTextAt .later Tryd.pinned [.sentinel] true :=
  OpenClaim.laidByTextAt_later rfl rfl tie10 noOwnUnsafe
theorem tie11 : Tryd.prog.laidByTextLater [("pub-convoy/pub/dtls/pkg/protocol/recordlayer.ErrInvalidPacketLength", Rows.laid_pub_convoy_pub_dtls_pkg_protocol_recordlayer_ErrInvalidPacketLength)] [.sentinel] true :=
  Program.laidByTextLater.sub seatTie1 ["pub-convoy/pub/dtls/pkg/protocol/recordlayer.ErrInvalidPacketLength"] (by kernel_rfl) (by kernel_rfl)
theorem fnDatagramCut_row_tie : Rows.fnDatagramCutRow.laidByTextAt .later Tryd.pinned [.sentinel] true :=
  OpenClaim.laidByTextAt_later rfl rfl tie11 noOwnUnsafe
theorem fnHeaderShortUpto_row_tie : Rows.fnHeaderShortUptoRow.laidByTextAt .later Tryd.pinned [.data, .data, .sentinel, .sentinel] true :=
  OpenClaim.laidByTextAt_later rfl rfl tie noOwnUnsafe
theorem fnSRTPWriteUpto_row_tie : Rows.fnSRTPWriteUptoRow.laidByTextAt .later Tryd.pinned [.sentinel, .sentinel] true :=
  OpenClaim.laidByTextAt_later rfl rfl tie2 noOwnUnsafe
theorem fnCertificateWriteUpto_row_tie : Rows.fnCertificateWriteUptoRow.laidByTextAt .later Tryd.pinned [.sentinel] true :=
  OpenClaim.laidByTextAt_later rfl rfl tie3 noOwnUnsafe
theorem fnALPNBackUpto_row_tie : Rows.fnALPNBackUptoRow.laidByTextAt .later Tryd.pinned [.sentinel, .sentinel, .sentinel] true :=
  OpenClaim.laidByTextAt_later rfl rfl tie4 noOwnUnsafe
theorem fnAuthoritiesBackUpto_row_tie : Rows.fnAuthoritiesBackUptoRow.laidByTextAt .later Tryd.pinned [.sentinel, .sentinel, .sentinel, .sentinel] true :=
  OpenClaim.laidByTextAt_later rfl rfl tie5 noOwnUnsafe
theorem fnPreSharedKeyBackUpto_row_tie : Rows.fnPreSharedKeyBackUptoRow.laidByTextAt .later Tryd.pinned [.sentinel, .sentinel, .sentinel, .sentinel] true :=
  OpenClaim.laidByTextAt_later rfl rfl tie6 noOwnUnsafe
theorem fnPreSharedKeySelectedCutUpto_row_tie : Rows.fnPreSharedKeySelectedCutUptoRow.laidByTextAt .later Tryd.pinned [.sentinel, .sentinel, .sentinel, .sentinel] true :=
  OpenClaim.laidByTextAt_later rfl rfl tie6 noOwnUnsafe
theorem fnKeyShareServerCutUpto_row_tie : Rows.fnKeyShareServerCutUptoRow.laidByTextAt .later Tryd.pinned [.sentinel, .sentinel, .sentinel, .sentinel] true :=
  OpenClaim.laidByTextAt_later rfl rfl tie7 noOwnUnsafe
theorem fnClientKeyBothBackUpto_row_tie : Rows.fnClientKeyBothBackUptoRow.laidByTextAt .later Tryd.pinned [.sentinel, .sentinel] true :=
  OpenClaim.laidByTextAt_later rfl rfl tie8 noOwnUnsafe
theorem fnPointFormatsBackUpto_row_tie : Rows.fnPointFormatsBackUptoRow.laidByTextAt .later Tryd.pinned [.sentinel, .sentinel, .sentinel] true :=
  OpenClaim.laidByTextAt_later rfl rfl tie9 noOwnUnsafe
theorem fnSuitesCutUpto_row_tie : Rows.fnSuitesCutUptoRow.laidByTextAt .later Tryd.pinned [.sentinel] true :=
  OpenClaim.laidByTextAt_later rfl rfl tie10 noOwnUnsafe
theorem fnDatagramCutUpto_row_tie : Rows.fnDatagramCutUptoRow.laidByTextAt .later Tryd.pinned [.sentinel] true :=
  OpenClaim.laidByTextAt_later rfl rfl tie11 noOwnUnsafe
end Go.Proofs.YthfpfakdchhodaaDoor
