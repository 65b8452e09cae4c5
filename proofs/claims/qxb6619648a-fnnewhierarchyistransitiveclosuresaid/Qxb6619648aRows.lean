/-
  No cell of these rows narrows 'for every input' (looked for: loops, veiled, ifaces, maps, wideKeys, modest, calm, conditions, laid).
  DERIVED. THE GIVEN ROWS OF THIS SEAT. 1 by the template 'for every input the law returns true; each argument reads behind the call as it read before'; 0 by the template 'total and deterministic' (their statements: Qxb6619648aTotals.lean).
  GIVEN WITH THE SEED: the statements are not yours to turn. If you find one false, say at which input.
  Laid BY PROGRAM, IN A SANDBOX (cutbox-rows.mjs): the forced cells as the released guide's own fill.sh prints them over the translation 3b049b12d322f489… (all of the seat's roots in one cut). By AI agents, Wed Nov 11 2026. No macro, syntax, notation, axiom, sorry.
-/
import Derived.Test.Qxb6619648aChecked
import GoSem.Claim
import GoSem.ClaimJoined
import GoSem.ClaimMapViews
import Derived.JoinedTies
import Derived.KernelRfl
namespace Go.Proofs.Qxb6619648a
/- THE CELL 'sum', in the pinned program and in every row, IS THE sha256 OF THE DUMP (.gsa) THAT Qxb6619648aProg.lean LOADS. Nothing in Lean hashes anything: it is a label: what it is worth is what the hold of that sum in a sandbox is worth. -/
noncomputable def Try.pinned : Pinned := { name := "qxb6619648a", sum := "3b049b12d322f489b3d81a4a9d12c787f00d6173ef8494121f2e07197588afe7", checked := Try.checked }
namespace Rows
def none {H : Type} : Left H := { results := [], args := [] }

/-- 'zzlaws_internal_scope_b1.FnNewHierarchyIsTransitiveClosure': WHATEVER THE INPUT: true; the input reads as it did. -/
def fnNewHierarchyIsTransitiveClosureSpec : ChangeSpec := { name := "fnNewHierarchyIsTransitiveClosure", fn := fun _ => fun
  | [d1, d2] => { results := [.lit (.bool true)], args := [d1, d2] }
  | _ => none }
def fnNewHierarchyIsTransitiveClosureRow : OpenClaim := { program := "qxb6619648a", sum := "3b049b12d322f489b3d81a4a9d12c787f00d6173ef8494121f2e07197588afe7", func := "example.com/ration-scope/ration-scope/zzlaws_internal_scope_b1.FnNewHierarchyIsTransitiveClosure", spec := "fnNewHierarchyIsTransitiveClosure", apart := false }
def FnNewHierarchyIsTransitiveClosureSaid : Prop := fnNewHierarchyIsTransitiveClosureRow.holds Try.pinned (OpenSpec.ofChange fnNewHierarchyIsTransitiveClosureSpec)

/-- ITS FALSE NEIGHBOUR: 'it returns false'. Refute it at one input. -/
def fnNewHierarchyIsTransitiveClosureWrong : ChangeSpec := { name := "fnNewHierarchyIsTransitiveClosure", fn := fun _ => fun
  | [d1, d2] => { results := [.lit (.bool false)], args := [d1, d2] }
  | _ => none }
def FnNewHierarchyIsTransitiveClosureWrongFalsely : Prop := fnNewHierarchyIsTransitiveClosureRow.holds Try.pinned (OpenSpec.ofChange fnNewHierarchyIsTransitiveClosureWrong)

end Rows
end Go.Proofs.Qxb6619648a
