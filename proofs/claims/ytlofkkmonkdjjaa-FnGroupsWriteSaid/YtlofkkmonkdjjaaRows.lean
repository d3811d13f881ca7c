/-
  No cell of these rows narrows 'for every input' (looked for: loops, veiled, ifaces, maps, wideKeys, modest, calm, conditions, laid).
  DERIVED. THE GIVEN ROWS OF THIS SEAT. 5 by the template 'for every input the law returns true; each argument reads behind the call as it read before'; 0 by the template 'total and deterministic' (their statements: YtlofkkmonkdjjaaTotals.lean).
  GIVEN WITH THE SEED: the statements are not yours to turn. If you find one false, say at which input.
  Laid BY PROGRAM, IN A SANDBOX (cutbox-rows.mjs): the forced cells as the released guide's own fill.sh prints them over the translation 36a884f64ea4ef96… (all of the seat's roots in one cut). By AI agents, Wed Nov 11 2026. No macro, syntax, notation, axiom, sorry.
-/
import Derived.Test.YtlofkkmonkdjjaaChecked
import GoSem.Claim
import GoSem.ClaimJoined
import GoSem.ClaimMapViews
import Derived.JoinedTies
import Derived.KernelRfl
namespace Go.Proofs.Ytlofkkmonkdjjaa
/- THE CELL 'sum', in the pinned program and in every row, IS THE sha256 OF THE DUMP (.gsa) THAT YtlofkkmonkdjjaaProg.lean LOADS. Nothing in Lean hashes anything: it is a label: what it is worth is what the hold of that sum in a sandbox is worth. -/
noncomputable def Try.pinned : Pinned := { name := "ytlofkkmonkdjjaa", sum := "36a884f64ea4ef964709f255c9dd44f3143b35872d74e1fd74d154f89720c22c", checked := Try.checked }
namespace Rows
def none {H : Type} : Left H := { results := [], args := [] }

/-- 'laws.FnNonceLength': WHATEVER THE INPUT: true; the input reads as it did. -/
def fnNonceLengthSpec : ChangeSpec := { name := "fnNonceLength", fn := fun _ => fun
  | [d] => { results := [.lit (.bool true)], args := [d] }
  | _ => none }
def fnNonceLengthRow : OpenClaim := { program := "ytlofkkmonkdjjaa", sum := "36a884f64ea4ef964709f255c9dd44f3143b35872d74e1fd74d154f89720c22c", func := "pub-convoy/laws.FnNonceLength", spec := "fnNonceLength", apart := false }
def FnNonceLengthSaid : Prop := fnNonceLengthRow.holds Try.pinned (OpenSpec.ofChange fnNonceLengthSpec)

/-- ITS FALSE NEIGHBOUR: 'it returns false'. Refute it at one input. -/
def fnNonceLengthWrong : ChangeSpec := { name := "fnNonceLength", fn := fun _ => fun
  | [d] => { results := [.lit (.bool false)], args := [d] }
  | _ => none }
def FnNonceLengthWrongFalsely : Prop := fnNonceLengthRow.holds Try.pinned (OpenSpec.ofChange fnNonceLengthWrong)

/-- 'laws.FnChooseCurve': WHATEVER THE INPUT: true; the input reads as it did. -/
def fnChooseCurveSpec : ChangeSpec := { name := "fnChooseCurve", fn := fun _ => fun
  | [d1, d2] => { results := [.lit (.bool true)], args := [d1, d2] }
  | _ => none }
def fnChooseCurveRow : OpenClaim := { program := "ytlofkkmonkdjjaa", sum := "36a884f64ea4ef964709f255c9dd44f3143b35872d74e1fd74d154f89720c22c", func := "pub-convoy/laws.FnChooseCurve", spec := "fnChooseCurve", apart := false }
def FnChooseCurveSaid : Prop := fnChooseCurveRow.holds Try.pinned (OpenSpec.ofChange fnChooseCurveSpec)

/-- ITS FALSE NEIGHBOUR: 'it returns false'. Refute it at one input. -/
def fnChooseCurveWrong : ChangeSpec := { name := "fnChooseCurve", fn := fun _ => fun
  | [d1, d2] => { results := [.lit (.bool false)], args := [d1, d2] }
  | _ => none }
def FnChooseCurveWrongFalsely : Prop := fnChooseCurveRow.holds Try.pinned (OpenSpec.ofChange fnChooseCurveWrong)

/-- 'laws.FnPadding': WHATEVER THE INPUT: true; the input reads as it did. -/
def fnPaddingSpec : ChangeSpec := { name := "fnPadding", fn := fun _ => fun
  | [d] => { results := [.lit (.bool true)], args := [d] }
  | _ => none }
def fnPaddingRow : OpenClaim := { program := "ytlofkkmonkdjjaa", sum := "36a884f64ea4ef964709f255c9dd44f3143b35872d74e1fd74d154f89720c22c", func := "pub-convoy/laws.FnPadding", spec := "fnPadding", apart := false }
def FnPaddingSaid : Prop := fnPaddingRow.holds Try.pinned (OpenSpec.ofChange fnPaddingSpec)

/-- ITS FALSE NEIGHBOUR: 'it returns false'. Refute it at one input. -/
def fnPaddingWrong : ChangeSpec := { name := "fnPadding", fn := fun _ => fun
  | [d] => { results := [.lit (.bool false)], args := [d] }
  | _ => none }
def FnPaddingWrongFalsely : Prop := fnPaddingRow.holds Try.pinned (OpenSpec.ofChange fnPaddingWrong)

/-- 'laws.FnCompact': WHATEVER THE INPUT: true; the input reads as it did. -/
def fnCompactSpec : ChangeSpec := { name := "fnCompact", fn := fun _ => fun
  | [d1, d2] => { results := [.lit (.bool true)], args := [d1, d2] }
  | _ => none }
def fnCompactRow : OpenClaim := { program := "ytlofkkmonkdjjaa", sum := "36a884f64ea4ef964709f255c9dd44f3143b35872d74e1fd74d154f89720c22c", func := "pub-convoy/laws.FnCompact", spec := "fnCompact", apart := false }
def FnCompactSaid : Prop := fnCompactRow.holds Try.pinned (OpenSpec.ofChange fnCompactSpec)

/-- ITS FALSE NEIGHBOUR: 'it returns false'. Refute it at one input. -/
def fnCompactWrong : ChangeSpec := { name := "fnCompact", fn := fun _ => fun
  | [d1, d2] => { results := [.lit (.bool false)], args := [d1, d2] }
  | _ => none }
def FnCompactWrongFalsely : Prop := fnCompactRow.holds Try.pinned (OpenSpec.ofChange fnCompactWrong)

/-- 'laws.FnGroupsWrite': WHATEVER THE INPUT: true; the input reads as it did. -/
def fnGroupsWriteSpec : ChangeSpec := { name := "fnGroupsWrite", fn := fun _ => fun
  | [d] => { results := [.lit (.bool true)], args := [d] }
  | _ => none }
def fnGroupsWriteRow : OpenClaim := { program := "ytlofkkmonkdjjaa", sum := "36a884f64ea4ef964709f255c9dd44f3143b35872d74e1fd74d154f89720c22c", func := "pub-convoy/laws.FnGroupsWrite", spec := "fnGroupsWrite", named := ["encoding/binary.BigEndian"], apart := false }
def FnGroupsWriteSaid : Prop := fnGroupsWriteRow.holds Try.pinned (OpenSpec.ofChange fnGroupsWriteSpec)

/-- ITS FALSE NEIGHBOUR: 'it returns false'. Refute it at one input. -/
def fnGroupsWriteWrong : ChangeSpec := { name := "fnGroupsWrite", fn := fun _ => fun
  | [d] => { results := [.lit (.bool false)], args := [d] }
  | _ => none }
def FnGroupsWriteWrongFalsely : Prop := fnGroupsWriteRow.holds Try.pinned (OpenSpec.ofChange fnGroupsWriteWrong)

/- THE SECOND FORM. 'bulk': how many values and letters a reading holds, each counted each time it is reached (what is shared counts as often as it is met; a slice's spare places count too). A statement '..UptoSaid' is the law's where the arguments, and the package variables that the reading takes, are together of bulk at most 1048576: NARROWER than '..Said'. Prove '..Said' where nothing that the law and all that it calls make is longer than what came in: it says more and counts as full. Else prove '..UptoSaid'. A law counts once. -/
mutual
def uptoBulk {H : Type} : DataW H → Nat
  | .lit (.string bytes) => bytes.length + 1
  | .lit _ => 1
  | .nil => 1
  | .ptr d => uptoBulk d + 1
  | .slice elems spare => uptoBulkAll elems + uptoBulkAll spare + 1
  | .agg parts => uptoBulkAll parts + 1
  | .iface _ d => uptoBulk d + 1
  | .map entries => uptoBulkEntries entries + 1
  | .held _ => 1
def uptoBulkAll {H : Type} : List (DataW H) → Nat
  | [] => 0
  | d :: r => uptoBulk d + uptoBulkAll r
def uptoBulkEntries {H : Type} : List (Lit × DataW H) → Nat
  | [] => 0
  | x :: r => uptoBulkEntry x + uptoBulkEntries r
def uptoBulkEntry {H : Type} : Lit × DataW H → Nat
  | (.string bytes, d) => bytes.length + uptoBulk d + 1
  | (_, d) => uptoBulk d + 1
 end
def uptoSmall : (H : Type) → List (DataW H) → Bool := fun _ ds => decide (uptoBulkAll ds ≤ 1048576)
def OpenSpec.upto (s : _root_.Go.ChangeSpec) : _root_.Go.OpenSpec := { _root_.Go.OpenSpec.ofChange s with cond := some uptoSmall }

/-- 'laws.FnNonceLength', WHERE WHAT IT READS IS OF BULK AT MOST 1048576: true; the input reads as it did. -/
def fnNonceLengthUptoRow : OpenClaim := { program := "ytlofkkmonkdjjaa", sum := "36a884f64ea4ef964709f255c9dd44f3143b35872d74e1fd74d154f89720c22c", func := "pub-convoy/laws.FnNonceLength", spec := "fnNonceLength", apart := false, narrowed := true }
def FnNonceLengthUptoSaid : Prop := fnNonceLengthUptoRow.holds Try.pinned (OpenSpec.upto fnNonceLengthSpec)

/-- 'laws.FnChooseCurve', WHERE WHAT IT READS IS OF BULK AT MOST 1048576: true; the input reads as it did. -/
def fnChooseCurveUptoRow : OpenClaim := { program := "ytlofkkmonkdjjaa", sum := "36a884f64ea4ef964709f255c9dd44f3143b35872d74e1fd74d154f89720c22c", func := "pub-convoy/laws.FnChooseCurve", spec := "fnChooseCurve", apart := false, narrowed := true }
def FnChooseCurveUptoSaid : Prop := fnChooseCurveUptoRow.holds Try.pinned (OpenSpec.upto fnChooseCurveSpec)

/-- 'laws.FnPadding', WHERE WHAT IT READS IS OF BULK AT MOST 1048576: true; the input reads as it did. -/
def fnPaddingUptoRow : OpenClaim := { program := "ytlofkkmonkdjjaa", sum := "36a884f64ea4ef964709f255c9dd44f3143b35872d74e1fd74d154f89720c22c", func := "pub-convoy/laws.FnPadding", spec := "fnPadding", apart := false, narrowed := true }
def FnPaddingUptoSaid : Prop := fnPaddingUptoRow.holds Try.pinned (OpenSpec.upto fnPaddingSpec)

/-- 'laws.FnCompact', WHERE WHAT IT READS IS OF BULK AT MOST 1048576: true; the input reads as it did. -/
def fnCompactUptoRow : OpenClaim := { program := "ytlofkkmonkdjjaa", sum := "36a884f64ea4ef964709f255c9dd44f3143b35872d74e1fd74d154f89720c22c", func := "pub-convoy/laws.FnCompact", spec := "fnCompact", apart := false, narrowed := true }
def FnCompactUptoSaid : Prop := fnCompactUptoRow.holds Try.pinned (OpenSpec.upto fnCompactSpec)

/-- 'laws.FnGroupsWrite', WHERE WHAT IT READS IS OF BULK AT MOST 1048576: true; the input reads as it did. -/
def fnGroupsWriteUptoRow : OpenClaim := { program := "ytlofkkmonkdjjaa", sum := "36a884f64ea4ef964709f255c9dd44f3143b35872d74e1fd74d154f89720c22c", func := "pub-convoy/laws.FnGroupsWrite", spec := "fnGroupsWrite", named := ["encoding/binary.BigEndian"], apart := false, narrowed := true }
def FnGroupsWriteUptoSaid : Prop := fnGroupsWriteUptoRow.holds Try.pinned (OpenSpec.upto fnGroupsWriteSpec)

end Rows
end Go.Proofs.Ytlofkkmonkdjjaa
