/-
  No cell of these rows narrows 'for every input' (looked for: loops, veiled, ifaces, maps, wideKeys, modest, calm, conditions, laid).
  DERIVED. THE GIVEN ROWS OF THIS SEAT. 3 by the template 'for every input the law returns true; each argument reads behind the call as it read before'; 0 by the template 'total and deterministic' (their statements: Qxb6603824aTotals.lean).
  GIVEN WITH THE SEED: the statements are not yours to turn. If you find one false, say at which input.
  Laid BY PROGRAM, IN A SANDBOX (cutbox-rows.mjs): the forced cells as the released guide's own fill.sh prints them over the translation 762dd0792055d575… (all of the seat's roots in one cut). By AI agents, Wed Nov 11 2026. No macro, syntax, notation, axiom, sorry.
-/
import Derived.Test.Qxb6603824aChecked
import GoSem.Claim
import GoSem.ClaimJoined
import GoSem.ClaimMapViews
import Derived.JoinedTies
import Derived.KernelRfl
namespace Go.Proofs.Qxb6603824a
/- THE CELL 'sum', in the pinned program and in every row, IS THE sha256 OF THE DUMP (.gsa) THAT Qxb6603824aProg.lean LOADS. Nothing in Lean hashes anything: it is a label: what it is worth is what the hold of that sum in a sandbox is worth. -/
noncomputable def Try.pinned : Pinned := { name := "qxb6603824a", sum := "762dd0792055d575cf09764057cfc110ebf5872ab265bfecd65b1719caaaab97", checked := Try.checked }
namespace Rows
def none {H : Type} : Left H := { results := [], args := [] }

/-- 'zzlaws_root_b1.FnCertSizeOrderFreeAndBounded': WHATEVER THE INPUT: true; the input reads as it did. -/
def fnCertSizeOrderFreeAndBoundedSpec : ChangeSpec := { name := "fnCertSizeOrderFreeAndBounded", fn := fun _ => fun
  | [d1, d2] => { results := [.lit (.bool true)], args := [d1, d2] }
  | _ => none }
def fnCertSizeOrderFreeAndBoundedRow : OpenClaim := { program := "qxb6603824a", sum := "762dd0792055d575cf09764057cfc110ebf5872ab265bfecd65b1719caaaab97", func := "example.com/hawser/hawser/zzlaws_root_b1.FnCertSizeOrderFreeAndBounded", spec := "fnCertSizeOrderFreeAndBounded", apart := false }
def FnCertSizeOrderFreeAndBoundedSaid : Prop := fnCertSizeOrderFreeAndBoundedRow.holds Try.pinned (OpenSpec.ofChange fnCertSizeOrderFreeAndBoundedSpec)

/-- ITS FALSE NEIGHBOUR: 'it returns false'. Refute it at one input. -/
def fnCertSizeOrderFreeAndBoundedWrong : ChangeSpec := { name := "fnCertSizeOrderFreeAndBounded", fn := fun _ => fun
  | [d1, d2] => { results := [.lit (.bool false)], args := [d1, d2] }
  | _ => none }
def FnCertSizeOrderFreeAndBoundedWrongFalsely : Prop := fnCertSizeOrderFreeAndBoundedRow.holds Try.pinned (OpenSpec.ofChange fnCertSizeOrderFreeAndBoundedWrong)

/-- 'zzlaws_root_b1.FnGroundRoundTrip': WHATEVER THE INPUT: true; the input reads as it did. -/
def fnGroundRoundTripSpec : ChangeSpec := { name := "fnGroundRoundTrip", fn := fun _ => fun
  | [d] => { results := [.lit (.bool true)], args := [d] }
  | _ => none }
def fnGroundRoundTripRow : OpenClaim := { program := "qxb6603824a", sum := "762dd0792055d575cf09764057cfc110ebf5872ab265bfecd65b1719caaaab97", func := "example.com/hawser/hawser/zzlaws_root_b1.FnGroundRoundTrip", spec := "fnGroundRoundTrip", apart := false }
def FnGroundRoundTripSaid : Prop := fnGroundRoundTripRow.holds Try.pinned (OpenSpec.ofChange fnGroundRoundTripSpec)

/-- ITS FALSE NEIGHBOUR: 'it returns false'. Refute it at one input. -/
def fnGroundRoundTripWrong : ChangeSpec := { name := "fnGroundRoundTrip", fn := fun _ => fun
  | [d] => { results := [.lit (.bool false)], args := [d] }
  | _ => none }
def FnGroundRoundTripWrongFalsely : Prop := fnGroundRoundTripRow.holds Try.pinned (OpenSpec.ofChange fnGroundRoundTripWrong)

/-- 'zzlaws_root_b1.FnGroundRoundOrder': WHATEVER THE INPUT: true; the input reads as it did. -/
def fnGroundRoundOrderSpec : ChangeSpec := { name := "fnGroundRoundOrder", fn := fun _ => fun
  | [d1, d2] => { results := [.lit (.bool true)], args := [d1, d2] }
  | _ => none }
def fnGroundRoundOrderRow : OpenClaim := { program := "qxb6603824a", sum := "762dd0792055d575cf09764057cfc110ebf5872ab265bfecd65b1719caaaab97", func := "example.com/hawser/hawser/zzlaws_root_b1.FnGroundRoundOrder", spec := "fnGroundRoundOrder", apart := false }
def FnGroundRoundOrderSaid : Prop := fnGroundRoundOrderRow.holds Try.pinned (OpenSpec.ofChange fnGroundRoundOrderSpec)

/-- ITS FALSE NEIGHBOUR: 'it returns false'. Refute it at one input. -/
def fnGroundRoundOrderWrong : ChangeSpec := { name := "fnGroundRoundOrder", fn := fun _ => fun
  | [d1, d2] => { results := [.lit (.bool false)], args := [d1, d2] }
  | _ => none }
def FnGroundRoundOrderWrongFalsely : Prop := fnGroundRoundOrderRow.holds Try.pinned (OpenSpec.ofChange fnGroundRoundOrderWrong)

end Rows
end Go.Proofs.Qxb6603824a
