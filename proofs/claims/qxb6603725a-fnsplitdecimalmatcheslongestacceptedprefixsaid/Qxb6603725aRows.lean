/-
  No cell of these rows narrows 'for every input' (looked for: loops, veiled, ifaces, maps, wideKeys, modest, calm, conditions, laid).
  DERIVED. THE GIVEN ROWS OF THIS SEAT. 5 by the template 'for every input the law returns true; each argument reads behind the call as it read before'; 0 by the template 'total and deterministic' (their statements: Qxb6603725aTotals.lean).
  GIVEN WITH THE SEED: the statements are not yours to turn. If you find one false, say at which input.
  Laid BY PROGRAM, IN A SANDBOX (cutbox-rows.mjs): the forced cells as the released guide's own fill.sh prints them over the translation c54c0e5cbfba55ec… (all of the seat's roots in one cut). By AI agents, Wed Nov 11 2026. No macro, syntax, notation, axiom, sorry.
-/
import Derived.Test.Qxb6603725aChecked
import GoSem.Claim
import GoSem.ClaimJoined
import GoSem.ClaimMapViews
import Derived.JoinedTies
import Derived.KernelRfl
namespace Go.Proofs.Qxb6603725a
/- THE CELL 'sum', in the pinned program and in every row, IS THE sha256 OF THE DUMP (.gsa) THAT Qxb6603725aProg.lean LOADS. Nothing in Lean hashes anything: it is a label: what it is worth is what the hold of that sum in a sandbox is worth. -/
noncomputable def Try.pinned : Pinned := { name := "qxb6603725a", sum := "c54c0e5cbfba55ec077b142245225092af7a15909abc62649dace37b9155ad9a", checked := Try.checked }
namespace Rows
def none {H : Type} : Left H := { results := [], args := [] }

/-- 'zzlaws_internal_input_b1.FnUnescapeMatchesPrintableHexTable': WHATEVER THE INPUT: true; the input reads as it did. -/
def fnUnescapeMatchesPrintableHexTableSpec : ChangeSpec := { name := "fnUnescapeMatchesPrintableHexTable", fn := fun _ => fun
  | [d] => { results := [.lit (.bool true)], args := [d] }
  | _ => none }
def fnUnescapeMatchesPrintableHexTableRow : OpenClaim := { program := "qxb6603725a", sum := "c54c0e5cbfba55ec077b142245225092af7a15909abc62649dace37b9155ad9a", func := "example.com/lockstep/lockstep/zzlaws_internal_input_b1.FnUnescapeMatchesPrintableHexTable", spec := "fnUnescapeMatchesPrintableHexTable", apart := false }
def FnUnescapeMatchesPrintableHexTableSaid : Prop := fnUnescapeMatchesPrintableHexTableRow.holds Try.pinned (OpenSpec.ofChange fnUnescapeMatchesPrintableHexTableSpec)

/-- ITS FALSE NEIGHBOUR: 'it returns false'. Refute it at one input. -/
def fnUnescapeMatchesPrintableHexTableWrong : ChangeSpec := { name := "fnUnescapeMatchesPrintableHexTable", fn := fun _ => fun
  | [d] => { results := [.lit (.bool false)], args := [d] }
  | _ => none }
def FnUnescapeMatchesPrintableHexTableWrongFalsely : Prop := fnUnescapeMatchesPrintableHexTableRow.holds Try.pinned (OpenSpec.ofChange fnUnescapeMatchesPrintableHexTableWrong)

/-- 'zzlaws_internal_input_b1.FnWriteStringThenUnescapeGivesBack': WHATEVER THE INPUT: true; the input reads as it did. -/
def fnWriteStringThenUnescapeGivesBackSpec : ChangeSpec := { name := "fnWriteStringThenUnescapeGivesBack", fn := fun _ => fun
  | [d] => { results := [.lit (.bool true)], args := [d] }
  | _ => none }
def fnWriteStringThenUnescapeGivesBackRow : OpenClaim := { program := "qxb6603725a", sum := "c54c0e5cbfba55ec077b142245225092af7a15909abc62649dace37b9155ad9a", func := "example.com/lockstep/lockstep/zzlaws_internal_input_b1.FnWriteStringThenUnescapeGivesBack", spec := "fnWriteStringThenUnescapeGivesBack", apart := false }
def FnWriteStringThenUnescapeGivesBackSaid : Prop := fnWriteStringThenUnescapeGivesBackRow.holds Try.pinned (OpenSpec.ofChange fnWriteStringThenUnescapeGivesBackSpec)

/-- ITS FALSE NEIGHBOUR: 'it returns false'. Refute it at one input. -/
def fnWriteStringThenUnescapeGivesBackWrong : ChangeSpec := { name := "fnWriteStringThenUnescapeGivesBack", fn := fun _ => fun
  | [d] => { results := [.lit (.bool false)], args := [d] }
  | _ => none }
def FnWriteStringThenUnescapeGivesBackWrongFalsely : Prop := fnWriteStringThenUnescapeGivesBackRow.holds Try.pinned (OpenSpec.ofChange fnWriteStringThenUnescapeGivesBackWrong)

/-- 'zzlaws_internal_input_b1.FnWriteStringAppendsQuotedPerByteEscapes': WHATEVER THE INPUT: true; the input reads as it did. -/
def fnWriteStringAppendsQuotedPerByteEscapesSpec : ChangeSpec := { name := "fnWriteStringAppendsQuotedPerByteEscapes", fn := fun _ => fun
  | [d1, d2] => { results := [.lit (.bool true)], args := [d1, d2] }
  | _ => none }
def fnWriteStringAppendsQuotedPerByteEscapesRow : OpenClaim := { program := "qxb6603725a", sum := "c54c0e5cbfba55ec077b142245225092af7a15909abc62649dace37b9155ad9a", func := "example.com/lockstep/lockstep/zzlaws_internal_input_b1.FnWriteStringAppendsQuotedPerByteEscapes", spec := "fnWriteStringAppendsQuotedPerByteEscapes", apart := false }
def FnWriteStringAppendsQuotedPerByteEscapesSaid : Prop := fnWriteStringAppendsQuotedPerByteEscapesRow.holds Try.pinned (OpenSpec.ofChange fnWriteStringAppendsQuotedPerByteEscapesSpec)

/-- ITS FALSE NEIGHBOUR: 'it returns false'. Refute it at one input. -/
def fnWriteStringAppendsQuotedPerByteEscapesWrong : ChangeSpec := { name := "fnWriteStringAppendsQuotedPerByteEscapes", fn := fun _ => fun
  | [d1, d2] => { results := [.lit (.bool false)], args := [d1, d2] }
  | _ => none }
def FnWriteStringAppendsQuotedPerByteEscapesWrongFalsely : Prop := fnWriteStringAppendsQuotedPerByteEscapesRow.holds Try.pinned (OpenSpec.ofChange fnWriteStringAppendsQuotedPerByteEscapesWrong)

/-- 'zzlaws_internal_input_b1.FnWriteStringSplitsAtAnyCut': WHATEVER THE INPUT: true; the input reads as it did. -/
def fnWriteStringSplitsAtAnyCutSpec : ChangeSpec := { name := "fnWriteStringSplitsAtAnyCut", fn := fun _ => fun
  | [d1, d2] => { results := [.lit (.bool true)], args := [d1, d2] }
  | _ => none }
def fnWriteStringSplitsAtAnyCutRow : OpenClaim := { program := "qxb6603725a", sum := "c54c0e5cbfba55ec077b142245225092af7a15909abc62649dace37b9155ad9a", func := "example.com/lockstep/lockstep/zzlaws_internal_input_b1.FnWriteStringSplitsAtAnyCut", spec := "fnWriteStringSplitsAtAnyCut", apart := false }
def FnWriteStringSplitsAtAnyCutSaid : Prop := fnWriteStringSplitsAtAnyCutRow.holds Try.pinned (OpenSpec.ofChange fnWriteStringSplitsAtAnyCutSpec)

/-- ITS FALSE NEIGHBOUR: 'it returns false'. Refute it at one input. -/
def fnWriteStringSplitsAtAnyCutWrong : ChangeSpec := { name := "fnWriteStringSplitsAtAnyCut", fn := fun _ => fun
  | [d1, d2] => { results := [.lit (.bool false)], args := [d1, d2] }
  | _ => none }
def FnWriteStringSplitsAtAnyCutWrongFalsely : Prop := fnWriteStringSplitsAtAnyCutRow.holds Try.pinned (OpenSpec.ofChange fnWriteStringSplitsAtAnyCutWrong)

/-- 'zzlaws_internal_input_b1.FnSplitDecimalMatchesLongestAcceptedPrefix': WHATEVER THE INPUT: true; the input reads as it did. -/
def fnSplitDecimalMatchesLongestAcceptedPrefixSpec : ChangeSpec := { name := "fnSplitDecimalMatchesLongestAcceptedPrefix", fn := fun _ => fun
  | [d] => { results := [.lit (.bool true)], args := [d] }
  | _ => none }
def fnSplitDecimalMatchesLongestAcceptedPrefixRow : OpenClaim := { program := "qxb6603725a", sum := "c54c0e5cbfba55ec077b142245225092af7a15909abc62649dace37b9155ad9a", func := "example.com/lockstep/lockstep/zzlaws_internal_input_b1.FnSplitDecimalMatchesLongestAcceptedPrefix", spec := "fnSplitDecimalMatchesLongestAcceptedPrefix", apart := false }
def FnSplitDecimalMatchesLongestAcceptedPrefixSaid : Prop := fnSplitDecimalMatchesLongestAcceptedPrefixRow.holds Try.pinned (OpenSpec.ofChange fnSplitDecimalMatchesLongestAcceptedPrefixSpec)

/-- ITS FALSE NEIGHBOUR: 'it returns false'. Refute it at one input. -/
def fnSplitDecimalMatchesLongestAcceptedPrefixWrong : ChangeSpec := { name := "fnSplitDecimalMatchesLongestAcceptedPrefix", fn := fun _ => fun
  | [d] => { results := [.lit (.bool false)], args := [d] }
  | _ => none }
def FnSplitDecimalMatchesLongestAcceptedPrefixWrongFalsely : Prop := fnSplitDecimalMatchesLongestAcceptedPrefixRow.holds Try.pinned (OpenSpec.ofChange fnSplitDecimalMatchesLongestAcceptedPrefixWrong)

end Rows
end Go.Proofs.Qxb6603725a
