/-
  NARROWER THAN 'FOR EVERY INPUT', by the rows' own cells (each row's printed sentence says how): FnVersions: laid · FnInnerRead: laid · FnRenegotiationCut: laid · FnDatagramCut: laid · FnSuitesCut: laid · FnPointFormatsBack: laid · FnClientKeyBothBack: laid.
  DERIVED. THE GIVEN ROWS OF THIS SEAT. 7 by the template 'for every input the law returns true; each argument reads behind the call as it read before'; 0 by the template 'total and deterministic' (their statements: YtlofkkmonkdjjaaDoorTotals.lean).
  GIVEN WITH THE SEED: the statements are not yours to turn. If you find one false, say at which input.
  Laid BY PROGRAM, IN A SANDBOX (cutbox-rows.mjs): the forced cells as the released guide's own fill.sh prints them over the translation 65498e18c7c8c4f0… (all of the seat's roots in one cut). By AI agents, Wed Nov 11 2026. No macro, syntax, notation, axiom, sorry.
-/
import Derived.Test.YtlofkkmonkdjjaaDoorChecked
import GoSem.Claim
import GoSem.ClaimJoined
import GoSem.ClaimMapViews
import Derived.JoinedTies
import Derived.KernelRfl
namespace Go.Proofs.YtlofkkmonkdjjaaDoor
/- THE CELL 'sum', in the pinned program and in every row, IS THE sha256 OF THE DUMP (.gsa) THAT YtlofkkmonkdjjaaDoorProg.lean LOADS. Nothing in Lean hashes anything: it is a label: what it is worth is what the hold of that sum in a sandbox is worth. -/
noncomputable def Tryd.pinned : Pinned := { name := "ytlofkkmonkdjjaadoor", sum := "65498e18c7c8c4f03648040bd663daab02933d4f020209c35bc7e86ac107bcbe", checked := Tryd.checked }
namespace Rows
def none {H : Type} : Left H := { results := [], args := [] }

/- WHAT THE LISTED PACKAGE-LEVEL VARIABLES READ AS WHEN THE CALL BEGINS. Each datum BY PROGRAM (the guide's laid-datum.mjs) off the statement by which the dump's own 'gosem.cut.vars' lays the variable. In a bare row this is a premise. The card (YtlofkkmonkdjjaaDoorCards.lean) ties it to the program's text. -/
def laid_pub_convoy_pub_dtls_pkg_protocol_Version1_2 {H : Type} : DataW H := .agg [.lit (.int .u8 254), .lit (.int .u8 253)]
def laid_pub_convoy_pub_dtls_pkg_protocol_recordlayer_errBufferTooSmall {H : Type} : DataW H := .iface "*errors.errorString" (.ptr (.agg [.lit (.string [98, 117, 102, 102, 101, 114, 32, 105, 115, 32, 116, 111, 111, 32, 115, 109, 97, 108, 108])]))
def laid_pub_convoy_pub_dtls_pkg_protocol_extension_errBufferTooSmall {H : Type} : DataW H := .iface "*errors.errorString" (.ptr (.agg [.lit (.string [98, 117, 102, 102, 101, 114, 32, 105, 115, 32, 116, 111, 111, 32, 115, 109, 97, 108, 108])]))
def laid_pub_convoy_pub_dtls_pkg_protocol_extension_errInvalidExtensionType {H : Type} : DataW H := .iface "*errors.errorString" (.ptr (.agg [.lit (.string [105, 110, 118, 97, 108, 105, 100, 32, 101, 120, 116, 101, 110, 115, 105, 111, 110, 32, 116, 121, 112, 101])]))
def laid_pub_convoy_pub_dtls_pkg_protocol_extension_errLengthMismatch {H : Type} : DataW H := .iface "*errors.errorString" (.ptr (.agg [.lit (.string [100, 97, 116, 97, 32, 108, 101, 110, 103, 116, 104, 32, 97, 110, 100, 32, 100, 101, 99, 108, 97, 114, 101, 100, 32, 108, 101, 110, 103, 116, 104, 32, 100, 111, 32, 110, 111, 116, 32, 109, 97, 116, 99, 104])]))
def laid_pub_convoy_pub_dtls_pkg_protocol_recordlayer_ErrInvalidPacketLength {H : Type} : DataW H := .iface "*errors.errorString" (.ptr (.agg [.lit (.string [112, 97, 99, 107, 101, 116, 32, 108, 101, 110, 103, 116, 104, 32, 97, 110, 100, 32, 100, 101, 99, 108, 97, 114, 101, 100, 32, 108, 101, 110, 103, 116, 104, 32, 100, 111, 32, 110, 111, 116, 32, 109, 97, 116, 99, 104])]))
def laid_pub_convoy_pub_dtls_pkg_protocol_handshake_errBufferTooSmall {H : Type} : DataW H := .iface "*errors.errorString" (.ptr (.agg [.lit (.string [98, 117, 102, 102, 101, 114, 32, 105, 115, 32, 116, 111, 111, 32, 115, 109, 97, 108, 108])]))
def laid_pub_convoy_pub_dtls_pkg_protocol_handshake_errCipherSuiteUnset {H : Type} : DataW H := .iface "*errors.errorString" (.ptr (.agg [.lit (.string [115, 101, 114, 118, 101, 114, 32, 104, 101, 108, 108, 111, 32, 99, 97, 110, 32, 110, 111, 116, 32, 98, 101, 32, 99, 114, 101, 97, 116, 101, 100, 32, 119, 105, 116, 104, 111, 117, 116, 32, 97, 32, 99, 105, 112, 104, 101, 114, 32, 115, 117, 105, 116, 101])]))

/-- 'laws.FnVersions': WHATEVER THE INPUT: true; the input reads as it did. -/
def fnVersionsSpec : ChangeSpec := { name := "fnVersions", fn := fun _ => fun
  | [d1, d2] => { results := [.lit (.bool true)], args := [d1, d2] }
  | _ => none }
def fnVersionsRow : OpenClaim := { program := "ytlofkkmonkdjjaadoor", sum := "65498e18c7c8c4f03648040bd663daab02933d4f020209c35bc7e86ac107bcbe", func := "pub-convoy/laws.FnVersions", spec := "fnVersions", named := ["pub-convoy/pub/dtls/pkg/protocol.Version1_2"], apart := false, laid := [("pub-convoy/pub/dtls/pkg/protocol.Version1_2", laid_pub_convoy_pub_dtls_pkg_protocol_Version1_2)] }
def FnVersionsSaid : Prop := fnVersionsRow.holds Tryd.pinned (OpenSpec.ofChange fnVersionsSpec)

/-- ITS FALSE NEIGHBOUR: 'it returns false'. Refute it at one input. -/
def fnVersionsWrong : ChangeSpec := { name := "fnVersions", fn := fun _ => fun
  | [d1, d2] => { results := [.lit (.bool false)], args := [d1, d2] }
  | _ => none }
def FnVersionsWrongFalsely : Prop := fnVersionsRow.holds Tryd.pinned (OpenSpec.ofChange fnVersionsWrong)

/-- 'laws.FnInnerRead': WHATEVER THE INPUT: true; the input reads as it did. -/
def fnInnerReadSpec : ChangeSpec := { name := "fnInnerRead", fn := fun _ => fun
  | [d] => { results := [.lit (.bool true)], args := [d] }
  | _ => none }
def fnInnerReadRow : OpenClaim := { program := "ytlofkkmonkdjjaadoor", sum := "65498e18c7c8c4f03648040bd663daab02933d4f020209c35bc7e86ac107bcbe", func := "pub-convoy/laws.FnInnerRead", spec := "fnInnerRead", named := ["pub-convoy/pub/dtls/pkg/protocol/recordlayer.errBufferTooSmall"], apart := false, laid := [("pub-convoy/pub/dtls/pkg/protocol/recordlayer.errBufferTooSmall", laid_pub_convoy_pub_dtls_pkg_protocol_recordlayer_errBufferTooSmall)] }
def FnInnerReadSaid : Prop := fnInnerReadRow.holds Tryd.pinned (OpenSpec.ofChange fnInnerReadSpec)

/-- ITS FALSE NEIGHBOUR: 'it returns false'. Refute it at one input. -/
def fnInnerReadWrong : ChangeSpec := { name := "fnInnerRead", fn := fun _ => fun
  | [d] => { results := [.lit (.bool false)], args := [d] }
  | _ => none }
def FnInnerReadWrongFalsely : Prop := fnInnerReadRow.holds Tryd.pinned (OpenSpec.ofChange fnInnerReadWrong)

/-- 'laws.FnRenegotiationCut': WHATEVER THE INPUT: true; the input reads as it did. -/
def fnRenegotiationCutSpec : ChangeSpec := { name := "fnRenegotiationCut", fn := fun _ => fun
  | [d1, d2] => { results := [.lit (.bool true)], args := [d1, d2] }
  | _ => none }
def fnRenegotiationCutRow : OpenClaim := { program := "ytlofkkmonkdjjaadoor", sum := "65498e18c7c8c4f03648040bd663daab02933d4f020209c35bc7e86ac107bcbe", func := "pub-convoy/laws.FnRenegotiationCut", spec := "fnRenegotiationCut", named := ["pub-convoy/pub/dtls/pkg/protocol/extension.errBufferTooSmall", "encoding/binary.BigEndian", "pub-convoy/pub/dtls/pkg/protocol/extension.errInvalidExtensionType", "pub-convoy/pub/dtls/pkg/protocol/extension.errLengthMismatch"], apart := false, laid := [("pub-convoy/pub/dtls/pkg/protocol/extension.errBufferTooSmall", laid_pub_convoy_pub_dtls_pkg_protocol_extension_errBufferTooSmall), ("pub-convoy/pub/dtls/pkg/protocol/extension.errInvalidExtensionType", laid_pub_convoy_pub_dtls_pkg_protocol_extension_errInvalidExtensionType), ("pub-convoy/pub/dtls/pkg/protocol/extension.errLengthMismatch", laid_pub_convoy_pub_dtls_pkg_protocol_extension_errLengthMismatch)] }
def FnRenegotiationCutSaid : Prop := fnRenegotiationCutRow.holds Tryd.pinned (OpenSpec.ofChange fnRenegotiationCutSpec)

/-- ITS FALSE NEIGHBOUR: 'it returns false'. Refute it at one input. -/
def fnRenegotiationCutWrong : ChangeSpec := { name := "fnRenegotiationCut", fn := fun _ => fun
  | [d1, d2] => { results := [.lit (.bool false)], args := [d1, d2] }
  | _ => none }
def FnRenegotiationCutWrongFalsely : Prop := fnRenegotiationCutRow.holds Tryd.pinned (OpenSpec.ofChange fnRenegotiationCutWrong)

/-- 'laws.FnDatagramCut': WHATEVER THE INPUT: true; the input reads as it did. -/
def fnDatagramCutSpec : ChangeSpec := { name := "fnDatagramCut", fn := fun _ => fun
  | [d1, d2, d3, d4] => { results := [.lit (.bool true)], args := [d1, d2, d3, d4] }
  | _ => none }
def fnDatagramCutRow : OpenClaim := { program := "ytlofkkmonkdjjaadoor", sum := "65498e18c7c8c4f03648040bd663daab02933d4f020209c35bc7e86ac107bcbe", func := "pub-convoy/laws.FnDatagramCut", spec := "fnDatagramCut", named := ["pub-convoy/pub/dtls/pkg/protocol/recordlayer.ErrInvalidPacketLength", "encoding/binary.BigEndian"], apart := false, laid := [("pub-convoy/pub/dtls/pkg/protocol/recordlayer.ErrInvalidPacketLength", laid_pub_convoy_pub_dtls_pkg_protocol_recordlayer_ErrInvalidPacketLength)] }
def FnDatagramCutSaid : Prop := fnDatagramCutRow.holds Tryd.pinned (OpenSpec.ofChange fnDatagramCutSpec)

/-- ITS FALSE NEIGHBOUR: 'it returns false'. Refute it at one input. -/
def fnDatagramCutWrong : ChangeSpec := { name := "fnDatagramCut", fn := fun _ => fun
  | [d1, d2, d3, d4] => { results := [.lit (.bool false)], args := [d1, d2, d3, d4] }
  | _ => none }
def FnDatagramCutWrongFalsely : Prop := fnDatagramCutRow.holds Tryd.pinned (OpenSpec.ofChange fnDatagramCutWrong)

/-- 'laws.FnSuitesCut': WHATEVER THE INPUT: true; the input reads as it did. -/
def fnSuitesCutSpec : ChangeSpec := { name := "fnSuitesCut", fn := fun _ => fun
  | [d1, d2] => { results := [.lit (.bool true)], args := [d1, d2] }
  | _ => none }
def fnSuitesCutRow : OpenClaim := { program := "ytlofkkmonkdjjaadoor", sum := "65498e18c7c8c4f03648040bd663daab02933d4f020209c35bc7e86ac107bcbe", func := "pub-convoy/laws.FnSuitesCut", spec := "fnSuitesCut", named := ["encoding/binary.BigEndian", "pub-convoy/pub/dtls/pkg/protocol/handshake.errBufferTooSmall"], apart := false, laid := [("pub-convoy/pub/dtls/pkg/protocol/handshake.errBufferTooSmall", laid_pub_convoy_pub_dtls_pkg_protocol_handshake_errBufferTooSmall)] }
def FnSuitesCutSaid : Prop := fnSuitesCutRow.holds Tryd.pinned (OpenSpec.ofChange fnSuitesCutSpec)

/-- ITS FALSE NEIGHBOUR: 'it returns false'. Refute it at one input. -/
def fnSuitesCutWrong : ChangeSpec := { name := "fnSuitesCut", fn := fun _ => fun
  | [d1, d2] => { results := [.lit (.bool false)], args := [d1, d2] }
  | _ => none }
def FnSuitesCutWrongFalsely : Prop := fnSuitesCutRow.holds Tryd.pinned (OpenSpec.ofChange fnSuitesCutWrong)

/-- 'laws.FnPointFormatsBack': WHATEVER THE INPUT: true; the input reads as it did. -/
def fnPointFormatsBackSpec : ChangeSpec := { name := "fnPointFormatsBack", fn := fun _ => fun
  | [d] => { results := [.lit (.bool true)], args := [d] }
  | _ => none }
def fnPointFormatsBackRow : OpenClaim := { program := "ytlofkkmonkdjjaadoor", sum := "65498e18c7c8c4f03648040bd663daab02933d4f020209c35bc7e86ac107bcbe", func := "pub-convoy/laws.FnPointFormatsBack", spec := "fnPointFormatsBack", unfollowed := true, recurses := true, named := ["pub-convoy/pub/dtls/pkg/protocol/extension.errBufferTooSmall", "encoding/binary.BigEndian", "pub-convoy/pub/dtls/pkg/protocol/extension.errInvalidExtensionType", "pub-convoy/pub/dtls/pkg/protocol/extension.errLengthMismatch"], apart := false, laid := [("pub-convoy/pub/dtls/pkg/protocol/extension.errBufferTooSmall", laid_pub_convoy_pub_dtls_pkg_protocol_extension_errBufferTooSmall), ("pub-convoy/pub/dtls/pkg/protocol/extension.errInvalidExtensionType", laid_pub_convoy_pub_dtls_pkg_protocol_extension_errInvalidExtensionType), ("pub-convoy/pub/dtls/pkg/protocol/extension.errLengthMismatch", laid_pub_convoy_pub_dtls_pkg_protocol_extension_errLengthMismatch)] }
def FnPointFormatsBackSaid : Prop := fnPointFormatsBackRow.holds Tryd.pinned (OpenSpec.ofChange fnPointFormatsBackSpec)

/-- ITS FALSE NEIGHBOUR: 'it returns false'. Refute it at one input. -/
def fnPointFormatsBackWrong : ChangeSpec := { name := "fnPointFormatsBack", fn := fun _ => fun
  | [d] => { results := [.lit (.bool false)], args := [d] }
  | _ => none }
def FnPointFormatsBackWrongFalsely : Prop := fnPointFormatsBackRow.holds Tryd.pinned (OpenSpec.ofChange fnPointFormatsBackWrong)

/-- 'laws.FnClientKeyBothBack': WHATEVER THE INPUT: true; the input reads as it did. -/
def fnClientKeyBothBackSpec : ChangeSpec := { name := "fnClientKeyBothBack", fn := fun _ => fun
  | [d1, d2] => { results := [.lit (.bool true)], args := [d1, d2] }
  | _ => none }
def fnClientKeyBothBackRow : OpenClaim := { program := "ytlofkkmonkdjjaadoor", sum := "65498e18c7c8c4f03648040bd663daab02933d4f020209c35bc7e86ac107bcbe", func := "pub-convoy/laws.FnClientKeyBothBack", spec := "fnClientKeyBothBack", unfollowed := true, recurses := true, named := ["pub-convoy/pub/dtls/pkg/protocol/handshake.errBufferTooSmall", "pub-convoy/pub/dtls/pkg/protocol/handshake.errCipherSuiteUnset", "encoding/binary.BigEndian"], apart := false, laid := [("pub-convoy/pub/dtls/pkg/protocol/handshake.errBufferTooSmall", laid_pub_convoy_pub_dtls_pkg_protocol_handshake_errBufferTooSmall), ("pub-convoy/pub/dtls/pkg/protocol/handshake.errCipherSuiteUnset", laid_pub_convoy_pub_dtls_pkg_protocol_handshake_errCipherSuiteUnset)] }
def FnClientKeyBothBackSaid : Prop := fnClientKeyBothBackRow.holds Tryd.pinned (OpenSpec.ofChange fnClientKeyBothBackSpec)

/-- ITS FALSE NEIGHBOUR: 'it returns false'. Refute it at one input. -/
def fnClientKeyBothBackWrong : ChangeSpec := { name := "fnClientKeyBothBack", fn := fun _ => fun
  | [d1, d2] => { results := [.lit (.bool false)], args := [d1, d2] }
  | _ => none }
def FnClientKeyBothBackWrongFalsely : Prop := fnClientKeyBothBackRow.holds Tryd.pinned (OpenSpec.ofChange fnClientKeyBothBackWrong)

/- THE SECOND FORM. 'bulk': how many values and letters a reading holds, each counted each time it is reached (what is shared counts as often as it is met; a slice's spare places count too). A statement '..UptoSaid' is the law's where the arguments, and the package variables that the reading takes, are together of bulk at most 1048576: NARROWER than '..Said'. Prove '..Said' where nothing that the law and all that it calls make is longer than what came in: it says more and counts as full. Else prove '..UptoSaid'. A law counts once. -/
mutual
def uptoBulk {H : Type} : DataW H → Nat
  | .lit (.string bytes) => bytes.length + 1
  | .lit _ => 1
  | .nil => 1
  | .ptr d => uptoBulk d + 1
  | .slice elems spare => uptoBulkAll elems + uptoBulkAll spare + 1
  | .agg parts => uptoBulkAll parts + 1
  | .iface _ d => uptoBulk d + 1
  | .map entries => uptoBulkEntries entries + 1
  | .held _ => 1
def uptoBulkAll {H : Type} : List (DataW H) → Nat
  | [] => 0
  | d :: r => uptoBulk d + uptoBulkAll r
def uptoBulkEntries {H : Type} : List (Lit × DataW H) → Nat
  | [] => 0
  | x :: r => uptoBulkEntry x + uptoBulkEntries r
def uptoBulkEntry {H : Type} : Lit × DataW H → Nat
  | (.string bytes, d) => bytes.length + uptoBulk d + 1
  | (_, d) => uptoBulk d + 1
 end
def uptoSmall : (H : Type) → List (DataW H) → Bool := fun _ ds => decide (uptoBulkAll ds ≤ 1048576)
def OpenSpec.upto (s : _root_.Go.ChangeSpec) : _root_.Go.OpenSpec := { _root_.Go.OpenSpec.ofChange s with cond := some uptoSmall }

/-- 'laws.FnVersions', WHERE WHAT IT READS IS OF BULK AT MOST 1048576: true; the input reads as it did. -/
def fnVersionsUptoRow : OpenClaim := { program := "ytlofkkmonkdjjaadoor", sum := "65498e18c7c8c4f03648040bd663daab02933d4f020209c35bc7e86ac107bcbe", func := "pub-convoy/laws.FnVersions", spec := "fnVersions", named := ["pub-convoy/pub/dtls/pkg/protocol.Version1_2"], apart := false, laid := [("pub-convoy/pub/dtls/pkg/protocol.Version1_2", laid_pub_convoy_pub_dtls_pkg_protocol_Version1_2)], narrowed := true }
def FnVersionsUptoSaid : Prop := fnVersionsUptoRow.holds Tryd.pinned (OpenSpec.upto fnVersionsSpec)

/-- 'laws.FnInnerRead', WHERE WHAT IT READS IS OF BULK AT MOST 1048576: true; the input reads as it did. -/
def fnInnerReadUptoRow : OpenClaim := { program := "ytlofkkmonkdjjaadoor", sum := "65498e18c7c8c4f03648040bd663daab02933d4f020209c35bc7e86ac107bcbe", func := "pub-convoy/laws.FnInnerRead", spec := "fnInnerRead", named := ["pub-convoy/pub/dtls/pkg/protocol/recordlayer.errBufferTooSmall"], apart := false, laid := [("pub-convoy/pub/dtls/pkg/protocol/recordlayer.errBufferTooSmall", laid_pub_convoy_pub_dtls_pkg_protocol_recordlayer_errBufferTooSmall)], narrowed := true }
def FnInnerReadUptoSaid : Prop := fnInnerReadUptoRow.holds Tryd.pinned (OpenSpec.upto fnInnerReadSpec)

/-- 'laws.FnRenegotiationCut', WHERE WHAT IT READS IS OF BULK AT MOST 1048576: true; the input reads as it did. -/
def fnRenegotiationCutUptoRow : OpenClaim := { program := "ytlofkkmonkdjjaadoor", sum := "65498e18c7c8c4f03648040bd663daab02933d4f020209c35bc7e86ac107bcbe", func := "pub-convoy/laws.FnRenegotiationCut", spec := "fnRenegotiationCut", named := ["pub-convoy/pub/dtls/pkg/protocol/extension.errBufferTooSmall", "encoding/binary.BigEndian", "pub-convoy/pub/dtls/pkg/protocol/extension.errInvalidExtensionType", "pub-convoy/pub/dtls/pkg/protocol/extension.errLengthMismatch"], apart := false, laid := [("pub-convoy/pub/dtls/pkg/protocol/extension.errBufferTooSmall", laid_pub_convoy_pub_dtls_pkg_protocol_extension_errBufferTooSmall), ("pub-convoy/pub/dtls/pkg/protocol/extension.errInvalidExtensionType", laid_pub_convoy_pub_dtls_pkg_protocol_extension_errInvalidExtensionType), ("pub-convoy/pub/dtls/pkg/protocol/extension.errLengthMismatch", laid_pub_convoy_pub_dtls_pkg_protocol_extension_errLengthMismatch)], narrowed := true }
def FnRenegotiationCutUptoSaid : Prop := fnRenegotiationCutUptoRow.holds Tryd.pinned (OpenSpec.upto fnRenegotiationCutSpec)

/-- 'laws.FnDatagramCut', WHERE WHAT IT READS IS OF BULK AT MOST 1048576: true; the input reads as it did. -/
def fnDatagramCutUptoRow : OpenClaim := { program := "ytlofkkmonkdjjaadoor", sum := "65498e18c7c8c4f03648040bd663daab02933d4f020209c35bc7e86ac107bcbe", func := "pub-convoy/laws.FnDatagramCut", spec := "fnDatagramCut", named := ["pub-convoy/pub/dtls/pkg/protocol/recordlayer.ErrInvalidPacketLength", "encoding/binary.BigEndian"], apart := false, laid := [("pub-convoy/pub/dtls/pkg/protocol/recordlayer.ErrInvalidPacketLength", laid_pub_convoy_pub_dtls_pkg_protocol_recordlayer_ErrInvalidPacketLength)], narrowed := true }
def FnDatagramCutUptoSaid : Prop := fnDatagramCutUptoRow.holds Tryd.pinned (OpenSpec.upto fnDatagramCutSpec)

/-- 'laws.FnSuitesCut', WHERE WHAT IT READS IS OF BULK AT MOST 1048576: true; the input reads as it did. -/
def fnSuitesCutUptoRow : OpenClaim := { program := "ytlofkkmonkdjjaadoor", sum := "65498e18c7c8c4f03648040bd663daab02933d4f020209c35bc7e86ac107bcbe", func := "pub-convoy/laws.FnSuitesCut", spec := "fnSuitesCut", named := ["encoding/binary.BigEndian", "pub-convoy/pub/dtls/pkg/protocol/handshake.errBufferTooSmall"], apart := false, laid := [("pub-convoy/pub/dtls/pkg/protocol/handshake.errBufferTooSmall", laid_pub_convoy_pub_dtls_pkg_protocol_handshake_errBufferTooSmall)], narrowed := true }
def FnSuitesCutUptoSaid : Prop := fnSuitesCutUptoRow.holds Tryd.pinned (OpenSpec.upto fnSuitesCutSpec)

/-- 'laws.FnPointFormatsBack', WHERE WHAT IT READS IS OF BULK AT MOST 1048576: true; the input reads as it did. -/
def fnPointFormatsBackUptoRow : OpenClaim := { program := "ytlofkkmonkdjjaadoor", sum := "65498e18c7c8c4f03648040bd663daab02933d4f020209c35bc7e86ac107bcbe", func := "pub-convoy/laws.FnPointFormatsBack", spec := "fnPointFormatsBack", unfollowed := true, recurses := true, named := ["pub-convoy/pub/dtls/pkg/protocol/extension.errBufferTooSmall", "encoding/binary.BigEndian", "pub-convoy/pub/dtls/pkg/protocol/extension.errInvalidExtensionType", "pub-convoy/pub/dtls/pkg/protocol/extension.errLengthMismatch"], apart := false, laid := [("pub-convoy/pub/dtls/pkg/protocol/extension.errBufferTooSmall", laid_pub_convoy_pub_dtls_pkg_protocol_extension_errBufferTooSmall), ("pub-convoy/pub/dtls/pkg/protocol/extension.errInvalidExtensionType", laid_pub_convoy_pub_dtls_pkg_protocol_extension_errInvalidExtensionType), ("pub-convoy/pub/dtls/pkg/protocol/extension.errLengthMismatch", laid_pub_convoy_pub_dtls_pkg_protocol_extension_errLengthMismatch)], narrowed := true }
def FnPointFormatsBackUptoSaid : Prop := fnPointFormatsBackUptoRow.holds Tryd.pinned (OpenSpec.upto fnPointFormatsBackSpec)

/-- 'laws.FnClientKeyBothBack', WHERE WHAT IT READS IS OF BULK AT MOST 1048576: true; the input reads as it did. -/
def fnClientKeyBothBackUptoRow : OpenClaim := { program := "ytlofkkmonkdjjaadoor", sum := "65498e18c7c8c4f03648040bd663daab02933d4f020209c35bc7e86ac107bcbe", func := "pub-convoy/laws.FnClientKeyBothBack", spec := "fnClientKeyBothBack", unfollowed := true, recurses := true, named := ["pub-convoy/pub/dtls/pkg/protocol/handshake.errBufferTooSmall", "pub-convoy/pub/dtls/pkg/protocol/handshake.errCipherSuiteUnset", "encoding/binary.BigEndian"], apart := false, laid := [("pub-convoy/pub/dtls/pkg/protocol/handshake.errBufferTooSmall", laid_pub_convoy_pub_dtls_pkg_protocol_handshake_errBufferTooSmall), ("pub-convoy/pub/dtls/pkg/protocol/handshake.errCipherSuiteUnset", laid_pub_convoy_pub_dtls_pkg_protocol_handshake_errCipherSuiteUnset)], narrowed := true }
def FnClientKeyBothBackUptoSaid : Prop := fnClientKeyBothBackUptoRow.holds Tryd.pinned (OpenSpec.upto fnClientKeyBothBackSpec)

end Rows
end Go.Proofs.YtlofkkmonkdjjaaDoor
