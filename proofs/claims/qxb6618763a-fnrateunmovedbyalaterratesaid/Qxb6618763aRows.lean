/-
  No cell of these rows narrows 'for every input' (looked for: loops, veiled, ifaces, maps, wideKeys, modest, calm, conditions, laid).
  DERIVED. THE GIVEN ROWS OF THIS SEAT. 2 by the template 'for every input the law returns true; each argument reads behind the call as it read before'; 0 by the template 'total and deterministic' (their statements: Qxb6618763aTotals.lean).
  GIVEN WITH THE SEED: the statements are not yours to turn. If you find one false, say at which input.
  Laid BY PROGRAM, IN A SANDBOX (cutbox-rows.mjs): the forced cells as the released guide's own fill.sh prints them over the translation 02bcba93b162c675… (all of the seat's roots in one cut). By AI agents, Wed Nov 11 2026. No macro, syntax, notation, axiom, sorry.
-/
import Derived.Test.Qxb6618763aChecked
import GoSem.Claim
import GoSem.ClaimJoined
import GoSem.ClaimMapViews
import Derived.JoinedTies
import Derived.KernelRfl
namespace Go.Proofs.Qxb6618763a
/- THE CELL 'sum', in the pinned program and in every row, IS THE sha256 OF THE DUMP (.gsa) THAT Qxb6618763aProg.lean LOADS. Nothing in Lean hashes anything: it is a label: what it is worth is what the hold of that sum in a sandbox is worth. -/
noncomputable def Try.pinned : Pinned := { name := "qxb6618763a", sum := "02bcba93b162c675a5aacec9e86b3d8d023ed13e991be723baccc3e4026c2e6a", checked := Try.checked }
namespace Rows
def none {H : Type} : Left H := { results := [], args := [] }

/-- 'zzlaws_fund_b1.FnRateHoldsOverEachRateSpan': WHATEVER THE INPUT: true; the input reads as it did. -/
def fnRateHoldsOverEachRateSpanSpec : ChangeSpec := { name := "fnRateHoldsOverEachRateSpan", fn := fun _ => fun
  | [d1, d2, d3, d4] => { results := [.lit (.bool true)], args := [d1, d2, d3, d4] }
  | _ => none }
def fnRateHoldsOverEachRateSpanRow : OpenClaim := { program := "qxb6618763a", sum := "02bcba93b162c675a5aacec9e86b3d8d023ed13e991be723baccc3e4026c2e6a", func := "example.com/zhaomu/zhaomu/zzlaws_fund_b1.FnRateHoldsOverEachRateSpan", spec := "fnRateHoldsOverEachRateSpan", unfollowed := true, recurses := true, apart := false }
def FnRateHoldsOverEachRateSpanSaid : Prop := fnRateHoldsOverEachRateSpanRow.holds Try.pinned (OpenSpec.ofChange fnRateHoldsOverEachRateSpanSpec)

/-- ITS FALSE NEIGHBOUR: 'it returns false'. Refute it at one input. -/
def fnRateHoldsOverEachRateSpanWrong : ChangeSpec := { name := "fnRateHoldsOverEachRateSpan", fn := fun _ => fun
  | [d1, d2, d3, d4] => { results := [.lit (.bool false)], args := [d1, d2, d3, d4] }
  | _ => none }
def FnRateHoldsOverEachRateSpanWrongFalsely : Prop := fnRateHoldsOverEachRateSpanRow.holds Try.pinned (OpenSpec.ofChange fnRateHoldsOverEachRateSpanWrong)

/-- 'zzlaws_fund_b1.FnRateUnmovedByALaterRate': WHATEVER THE INPUT: true; the input reads as it did. -/
def fnRateUnmovedByALaterRateSpec : ChangeSpec := { name := "fnRateUnmovedByALaterRate", fn := fun _ => fun
  | [d1, d2, d3, d4, d5, d6, d7] => { results := [.lit (.bool true)], args := [d1, d2, d3, d4, d5, d6, d7] }
  | _ => none }
def fnRateUnmovedByALaterRateRow : OpenClaim := { program := "qxb6618763a", sum := "02bcba93b162c675a5aacec9e86b3d8d023ed13e991be723baccc3e4026c2e6a", func := "example.com/zhaomu/zhaomu/zzlaws_fund_b1.FnRateUnmovedByALaterRate", spec := "fnRateUnmovedByALaterRate", unfollowed := true, recurses := true, apart := false }
def FnRateUnmovedByALaterRateSaid : Prop := fnRateUnmovedByALaterRateRow.holds Try.pinned (OpenSpec.ofChange fnRateUnmovedByALaterRateSpec)

/-- ITS FALSE NEIGHBOUR: 'it returns false'. Refute it at one input. -/
def fnRateUnmovedByALaterRateWrong : ChangeSpec := { name := "fnRateUnmovedByALaterRate", fn := fun _ => fun
  | [d1, d2, d3, d4, d5, d6, d7] => { results := [.lit (.bool false)], args := [d1, d2, d3, d4, d5, d6, d7] }
  | _ => none }
def FnRateUnmovedByALaterRateWrongFalsely : Prop := fnRateUnmovedByALaterRateRow.holds Try.pinned (OpenSpec.ofChange fnRateUnmovedByALaterRateWrong)

end Rows
end Go.Proofs.Qxb6618763a
