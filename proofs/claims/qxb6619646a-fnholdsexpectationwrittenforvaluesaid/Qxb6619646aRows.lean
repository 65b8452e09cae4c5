/-
  No cell of these rows narrows 'for every input' (looked for: loops, veiled, ifaces, maps, wideKeys, modest, calm, conditions, laid).
  DERIVED. THE GIVEN ROWS OF THIS SEAT. 2 by the template 'for every input the law returns true; each argument reads behind the call as it read before'; 0 by the template 'total and deterministic' (their statements: Qxb6619646aTotals.lean).
  GIVEN WITH THE SEED: the statements are not yours to turn. If you find one false, say at which input.
  Laid BY PROGRAM, IN A SANDBOX (cutbox-rows.mjs): the forced cells as the released guide's own fill.sh prints them over the translation 9ecc334b32a0ebcd… (all of the seat's roots in one cut). By AI agents, Wed Nov 11 2026. No macro, syntax, notation, axiom, sorry.
-/
import Derived.Test.Qxb6619646aChecked
import GoSem.Claim
import GoSem.ClaimJoined
import GoSem.ClaimMapViews
import Derived.JoinedTies
import Derived.KernelRfl
namespace Go.Proofs.Qxb6619646a
/- THE CELL 'sum', in the pinned program and in every row, IS THE sha256 OF THE DUMP (.gsa) THAT Qxb6619646aProg.lean LOADS. Nothing in Lean hashes anything: it is a label: what it is worth is what the hold of that sum in a sandbox is worth. -/
noncomputable def Try.pinned : Pinned := { name := "qxb6619646a", sum := "9ecc334b32a0ebcd7e8f4c5c67eccb27f2122b8791b109e564731c54056c1c00", checked := Try.checked }
namespace Rows
def none {H : Type} : Left H := { results := [], args := [] }

/-- 'zzlaws_conformance_b1.FnHoldsExpectationWrittenForValue': WHATEVER THE INPUT: true; the input reads as it did. -/
def fnHoldsExpectationWrittenForValueSpec : ChangeSpec := { name := "fnHoldsExpectationWrittenForValue", fn := fun _ => fun
  | [d1, d2] => { results := [.lit (.bool true)], args := [d1, d2] }
  | _ => none }
def fnHoldsExpectationWrittenForValueRow : OpenClaim := { program := "qxb6619646a", sum := "9ecc334b32a0ebcd7e8f4c5c67eccb27f2122b8791b109e564731c54056c1c00", func := "example.com/steer/steer/zzlaws_conformance_b1.FnHoldsExpectationWrittenForValue", spec := "fnHoldsExpectationWrittenForValue", apart := false }
def FnHoldsExpectationWrittenForValueSaid : Prop := fnHoldsExpectationWrittenForValueRow.holds Try.pinned (OpenSpec.ofChange fnHoldsExpectationWrittenForValueSpec)

/-- ITS FALSE NEIGHBOUR: 'it returns false'. Refute it at one input. -/
def fnHoldsExpectationWrittenForValueWrong : ChangeSpec := { name := "fnHoldsExpectationWrittenForValue", fn := fun _ => fun
  | [d1, d2] => { results := [.lit (.bool false)], args := [d1, d2] }
  | _ => none }
def FnHoldsExpectationWrittenForValueWrongFalsely : Prop := fnHoldsExpectationWrittenForValueRow.holds Try.pinned (OpenSpec.ofChange fnHoldsExpectationWrittenForValueWrong)

/-- 'zzlaws_conformance_b1.FnHoldsWildcardAllOthersOne': WHATEVER THE INPUT: true; the input reads as it did. -/
def fnHoldsWildcardAllOthersOneSpec : ChangeSpec := { name := "fnHoldsWildcardAllOthersOne", fn := fun _ => fun
  | [d1, d2, d3] => { results := [.lit (.bool true)], args := [d1, d2, d3] }
  | _ => none }
def fnHoldsWildcardAllOthersOneRow : OpenClaim := { program := "qxb6619646a", sum := "9ecc334b32a0ebcd7e8f4c5c67eccb27f2122b8791b109e564731c54056c1c00", func := "example.com/steer/steer/zzlaws_conformance_b1.FnHoldsWildcardAllOthersOne", spec := "fnHoldsWildcardAllOthersOne", apart := false }
def FnHoldsWildcardAllOthersOneSaid : Prop := fnHoldsWildcardAllOthersOneRow.holds Try.pinned (OpenSpec.ofChange fnHoldsWildcardAllOthersOneSpec)

/-- ITS FALSE NEIGHBOUR: 'it returns false'. Refute it at one input. -/
def fnHoldsWildcardAllOthersOneWrong : ChangeSpec := { name := "fnHoldsWildcardAllOthersOne", fn := fun _ => fun
  | [d1, d2, d3] => { results := [.lit (.bool false)], args := [d1, d2, d3] }
  | _ => none }
def FnHoldsWildcardAllOthersOneWrongFalsely : Prop := fnHoldsWildcardAllOthersOneRow.holds Try.pinned (OpenSpec.ofChange fnHoldsWildcardAllOthersOneWrong)

end Rows
end Go.Proofs.Qxb6619646a
