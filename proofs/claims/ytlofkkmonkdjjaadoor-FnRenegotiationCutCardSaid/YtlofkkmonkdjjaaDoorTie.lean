/-
  DERIVED. GIVEN WITH THE SEED: THE PROGRAM's TIES (one call each: nine closed facts by the kernel) AND EACH ROW's TIE, after the 31st guide's Derived/Test/Toyas{Tie, Card}.lean. No idea stands in it: it is a product of the set-up. Laid BY PROGRAM, IN A SANDBOX (cutbox-door.mjs). By AI agents, Wed Nov 11 2026. No macro, syntax, notation, axiom, sorry.
-/
import Derived.Test.YtlofkkmonkdjjaaDoorRows
import Derived.LaidByTextLater
import Derived.SevenTiedAt
import Derived.LaidSub
import Derived.LaidOnce
namespace Go.Proofs.YtlofkkmonkdjjaaDoor
open Go
set_option maxRecDepth 100000
theorem seatTie1 : Tryd.prog.laidByTextLater [("pub-convoy/pub/dtls/pkg/protocol.Version1_2", Rows.laid_pub_convoy_pub_dtls_pkg_protocol_Version1_2), ("pub-convoy/pub/dtls/pkg/protocol/extension.errBufferTooSmall", Rows.laid_pub_convoy_pub_dtls_pkg_protocol_extension_errBufferTooSmall), ("pub-convoy/pub/dtls/pkg/protocol/extension.errInvalidExtensionType", Rows.laid_pub_convoy_pub_dtls_pkg_protocol_extension_errInvalidExtensionType), ("pub-convoy/pub/dtls/pkg/protocol/extension.errLengthMismatch", Rows.laid_pub_convoy_pub_dtls_pkg_protocol_extension_errLengthMismatch), ("pub-convoy/pub/dtls/pkg/protocol/handshake.errBufferTooSmall", Rows.laid_pub_convoy_pub_dtls_pkg_protocol_handshake_errBufferTooSmall), ("pub-convoy/pub/dtls/pkg/protocol/handshake.errCipherSuiteUnset", Rows.laid_pub_convoy_pub_dtls_pkg_protocol_handshake_errCipherSuiteUnset), ("pub-convoy/pub/dtls/pkg/protocol/recordlayer.ErrInvalidPacketLength", Rows.laid_pub_convoy_pub_dtls_pkg_protocol_recordlayer_ErrInvalidPacketLength), ("pub-convoy/pub/dtls/pkg/protocol/recordlayer.errBufferTooSmall", Rows.laid_pub_convoy_pub_dtls_pkg_protocol_recordlayer_errBufferTooSmall)] [.data, .sentinel, .sentinel, .sentinel, .sentinel, .sentinel, .sentinel, .sentinel] true :=
  Program.laidByTextLater_by_one 147 8 3 (by kernel_rfl) (by kernel_rfl) (by kernel_rfl) (by kernel_rfl) (by kernel_rfl) (by kernel_rfl) (fun _ _ => by kernel_rfl)
theorem noOwnUnsafe : Tryd.pinned.checked.prog.headLifts.contains "ownunsafe" = false := by kernel_rfl
theorem tie : Tryd.prog.laidByTextLater [("pub-convoy/pub/dtls/pkg/protocol.Version1_2", Rows.laid_pub_convoy_pub_dtls_pkg_protocol_Version1_2)] [.data] true :=
  Program.laidByTextLater.sub seatTie1 ["pub-convoy/pub/dtls/pkg/protocol.Version1_2"] (by kernel_rfl) (by kernel_rfl)
theorem fnVersions_row_tie : Rows.fnVersionsRow.laidByTextAt .later Tryd.pinned [.data] true :=
  OpenClaim.laidByTextAt_later rfl rfl tie noOwnUnsafe
theorem tie2 : Tryd.prog.laidByTextLater [("pub-convoy/pub/dtls/pkg/protocol/recordlayer.errBufferTooSmall", Rows.laid_pub_convoy_pub_dtls_pkg_protocol_recordlayer_errBufferTooSmall)] [.sentinel] true :=
  Program.laidByTextLater.sub seatTie1 ["pub-convoy/pub/dtls/pkg/protocol/recordlayer.errBufferTooSmall"] (by kernel_rfl) (by kernel_rfl)
theorem fnInnerRead_row_tie : Rows.fnInnerReadRow.laidByTextAt .later Tryd.pinned [.sentinel] true :=
  OpenClaim.laidByTextAt_later rfl rfl tie2 noOwnUnsafe
theorem tie3 : Tryd.prog.laidByTextLater [("pub-convoy/pub/dtls/pkg/protocol/extension.errBufferTooSmall", Rows.laid_pub_convoy_pub_dtls_pkg_protocol_extension_errBufferTooSmall), ("pub-convoy/pub/dtls/pkg/protocol/extension.errInvalidExtensionType", Rows.laid_pub_convoy_pub_dtls_pkg_protocol_extension_errInvalidExtensionType), ("pub-convoy/pub/dtls/pkg/protocol/extension.errLengthMismatch", Rows.laid_pub_convoy_pub_dtls_pkg_protocol_extension_errLengthMismatch)] [.sentinel, .sentinel, .sentinel] true :=
  Program.laidByTextLater.sub seatTie1 ["pub-convoy/pub/dtls/pkg/protocol/extension.errBufferTooSmall", "pub-convoy/pub/dtls/pkg/protocol/extension.errInvalidExtensionType", "pub-convoy/pub/dtls/pkg/protocol/extension.errLengthMismatch"] (by kernel_rfl) (by kernel_rfl)
theorem fnRenegotiationCut_row_tie : Rows.fnRenegotiationCutRow.laidByTextAt .later Tryd.pinned [.sentinel, .sentinel, .sentinel] true :=
  OpenClaim.laidByTextAt_later rfl rfl tie3 noOwnUnsafe
theorem fnPointFormatsBack_row_tie : Rows.fnPointFormatsBackRow.laidByTextAt .later Tryd.pinned [.sentinel, .sentinel, .sentinel] true :=
  OpenClaim.laidByTextAt_later rfl rfl tie3 noOwnUnsafe
theorem tie4 : Tryd.prog.laidByTextLater [("pub-convoy/pub/dtls/pkg/protocol/recordlayer.ErrInvalidPacketLength", Rows.laid_pub_convoy_pub_dtls_pkg_protocol_recordlayer_ErrInvalidPacketLength)] [.sentinel] true :=
  Program.laidByTextLater.sub seatTie1 ["pub-convoy/pub/dtls/pkg/protocol/recordlayer.ErrInvalidPacketLength"] (by kernel_rfl) (by kernel_rfl)
theorem fnDatagramCut_row_tie : Rows.fnDatagramCutRow.laidByTextAt .later Tryd.pinned [.sentinel] true :=
  OpenClaim.laidByTextAt_later rfl rfl tie4 noOwnUnsafe
theorem tie5 : Tryd.prog.laidByTextLater [("pub-convoy/pub/dtls/pkg/protocol/handshake.errBufferTooSmall", Rows.laid_pub_convoy_pub_dtls_pkg_protocol_handshake_errBufferTooSmall)] [.sentinel] true :=
  Program.laidByTextLater.sub seatTie1 ["pub-convoy/pub/dtls/pkg/protocol/handshake.errBufferTooSmall"] (by kernel_rfl) (by kernel_rfl)
theorem fnSuitesCut_row_tie : Rows.fnSuitesCutRow.laidByTextAt .later Tryd.pinned [.sentinel] true :=
  OpenClaim.laidByTextAt_later rfl rfl tie5 noOwnUnsafe
theorem tie6 : Tryd.prog.laidByTextLater [("pub-convoy/pub/dtls/pkg/protocol/handshake.errBufferTooSmall", Rows.laid_pub_convoy_pub_dtls_pkg_protocol_handshake_errBufferTooSmall), ("pub-convoy/pub/dtls/pkg/protocol/handshake.errCipherSuiteUnset", Rows.laid_pub_convoy_pub_dtls_pkg_protocol_handshake_errCipherSuiteUnset)] [.sentinel, .sentinel] true :=
  Program.laidByTextLater.sub seatTie1 ["pub-convoy/pub/dtls/pkg/protocol/handshake.errBufferTooSmall", "pub-convoy/pub/dtls/pkg/protocol/handshake.errCipherSuiteUnset"] (by kernel_rfl) (by kernel_rfl)
theorem fnClientKeyBothBack_row_tie : Rows.fnClientKeyBothBackRow.laidByTextAt .later Tryd.pinned [.sentinel, .sentinel] true :=
  OpenClaim.laidByTextAt_later rfl rfl tie6 noOwnUnsafe
theorem fnVersionsUpto_row_tie : Rows.fnVersionsUptoRow.laidByTextAt .later Tryd.pinned [.data] true :=
  OpenClaim.laidByTextAt_later rfl rfl tie noOwnUnsafe
theorem fnInnerReadUpto_row_tie : Rows.fnInnerReadUptoRow.laidByTextAt .later Tryd.pinned [.sentinel] true :=
  OpenClaim.laidByTextAt_later rfl rfl tie2 noOwnUnsafe
theorem fnRenegotiationCutUpto_row_tie : Rows.fnRenegotiationCutUptoRow.laidByTextAt .later Tryd.pinned [.sentinel, .sentinel, .sentinel] true :=
  OpenClaim.laidByTextAt_later rfl rfl tie3 noOwnUnsafe
theorem fnDatagramCutUpto_row_tie : Rows.fnDatagramCutUptoRow.laidByTextAt .later Tryd.pinned [.sentinel] true :=
  OpenClaim.laidByTextAt_later rfl rfl tie4 noOwnUnsafe
theorem fnSuitesCutUpto_row_tie : Rows.fnSuitesCutUptoRow.laidByTextAt .later Tryd.pinned [.sentinel] true :=
  OpenClaim.laidByTextAt_later rfl rfl tie5 noOwnUnsafe
theorem fnPointFormatsBackUpto_row_tie : Rows.fnPointFormatsBackUptoRow.laidByTextAt .later Tryd.pinned [.sentinel, .sentinel, .sentinel] true :=
  OpenClaim.laidByTextAt_later rfl rfl tie3 noOwnUnsafe
theorem fnClientKeyBothBackUpto_row_tie : Rows.fnClientKeyBothBackUptoRow.laidByTextAt .later Tryd.pinned [.sentinel, .sentinel] true :=
  OpenClaim.laidByTextAt_later rfl rfl tie6 noOwnUnsafe
end Go.Proofs.YtlofkkmonkdjjaaDoor
