/-
  No cell of these rows narrows 'for every input' (looked for: loops, veiled, ifaces, maps, wideKeys, modest, calm, conditions, laid).
  DERIVED. THE GIVEN ROWS OF THIS SEAT. 3 by the template 'for every input the law returns true; each argument reads behind the call as it read before'; 0 by the template 'total and deterministic' (their statements: Qxb6619631aTotals.lean).
  GIVEN WITH THE SEED: the statements are not yours to turn. If you find one false, say at which input.
  Laid BY PROGRAM, IN A SANDBOX (cutbox-rows.mjs): the forced cells as the released guide's own fill.sh prints them over the translation c2e3ebcdd415d7e7… (all of the seat's roots in one cut). By AI agents, Wed Nov 11 2026. No macro, syntax, notation, axiom, sorry.
-/
import Derived.Test.Qxb6619631aChecked
import GoSem.Claim
import GoSem.ClaimJoined
import GoSem.ClaimMapViews
import Derived.JoinedTies
import Derived.KernelRfl
namespace Go.Proofs.Qxb6619631a
/- THE CELL 'sum', in the pinned program and in every row, IS THE sha256 OF THE DUMP (.gsa) THAT Qxb6619631aProg.lean LOADS. Nothing in Lean hashes anything: it is a label: what it is worth is what the hold of that sum in a sandbox is worth. -/
noncomputable def Try.pinned : Pinned := { name := "qxb6619631a", sum := "c2e3ebcdd415d7e723edf1fcef9664b0dc85d7d513e0361f377241a506b23abf", checked := Try.checked }
namespace Rows
def none {H : Type} : Left H := { results := [], args := [] }

/-- 'zzlaws_pkg_screen_b1.FnIsMonthMatchesMonthNames': WHATEVER THE INPUT: true; the input reads as it did. -/
def fnIsMonthMatchesMonthNamesSpec : ChangeSpec := { name := "fnIsMonthMatchesMonthNames", fn := fun _ => fun
  | [d] => { results := [.lit (.bool true)], args := [d] }
  | _ => none }
def fnIsMonthMatchesMonthNamesRow : OpenClaim := { program := "qxb6619631a", sum := "c2e3ebcdd415d7e723edf1fcef9664b0dc85d7d513e0361f377241a506b23abf", func := "example.com/ringfence/ringfence/zzlaws_pkg_screen_b1.FnIsMonthMatchesMonthNames", spec := "fnIsMonthMatchesMonthNames", apart := false }
def FnIsMonthMatchesMonthNamesSaid : Prop := fnIsMonthMatchesMonthNamesRow.holds Try.pinned (OpenSpec.ofChange fnIsMonthMatchesMonthNamesSpec)

/-- ITS FALSE NEIGHBOUR: 'it returns false'. Refute it at one input. -/
def fnIsMonthMatchesMonthNamesWrong : ChangeSpec := { name := "fnIsMonthMatchesMonthNames", fn := fun _ => fun
  | [d] => { results := [.lit (.bool false)], args := [d] }
  | _ => none }
def FnIsMonthMatchesMonthNamesWrongFalsely : Prop := fnIsMonthMatchesMonthNamesRow.holds Try.pinned (OpenSpec.ofChange fnIsMonthMatchesMonthNamesWrong)

/-- 'zzlaws_pkg_screen_b1.FnNeedsQuotesInsertOneByte': WHATEVER THE INPUT: true; the input reads as it did. -/
def fnNeedsQuotesInsertOneByteSpec : ChangeSpec := { name := "fnNeedsQuotesInsertOneByte", fn := fun _ => fun
  | [d1, d2, d3] => { results := [.lit (.bool true)], args := [d1, d2, d3] }
  | _ => none }
def fnNeedsQuotesInsertOneByteRow : OpenClaim := { program := "qxb6619631a", sum := "c2e3ebcdd415d7e723edf1fcef9664b0dc85d7d513e0361f377241a506b23abf", func := "example.com/ringfence/ringfence/zzlaws_pkg_screen_b1.FnNeedsQuotesInsertOneByte", spec := "fnNeedsQuotesInsertOneByte", apart := false }
def FnNeedsQuotesInsertOneByteSaid : Prop := fnNeedsQuotesInsertOneByteRow.holds Try.pinned (OpenSpec.ofChange fnNeedsQuotesInsertOneByteSpec)

/-- ITS FALSE NEIGHBOUR: 'it returns false'. Refute it at one input. -/
def fnNeedsQuotesInsertOneByteWrong : ChangeSpec := { name := "fnNeedsQuotesInsertOneByte", fn := fun _ => fun
  | [d1, d2, d3] => { results := [.lit (.bool false)], args := [d1, d2, d3] }
  | _ => none }
def FnNeedsQuotesInsertOneByteWrongFalsely : Prop := fnNeedsQuotesInsertOneByteRow.holds Try.pinned (OpenSpec.ofChange fnNeedsQuotesInsertOneByteWrong)

/-- 'zzlaws_pkg_screen_b1.FnNeedsQuotesCutAnywhere': WHATEVER THE INPUT: true; the input reads as it did. -/
def fnNeedsQuotesCutAnywhereSpec : ChangeSpec := { name := "fnNeedsQuotesCutAnywhere", fn := fun _ => fun
  | [d1, d2] => { results := [.lit (.bool true)], args := [d1, d2] }
  | _ => none }
def fnNeedsQuotesCutAnywhereRow : OpenClaim := { program := "qxb6619631a", sum := "c2e3ebcdd415d7e723edf1fcef9664b0dc85d7d513e0361f377241a506b23abf", func := "example.com/ringfence/ringfence/zzlaws_pkg_screen_b1.FnNeedsQuotesCutAnywhere", spec := "fnNeedsQuotesCutAnywhere", apart := false }
def FnNeedsQuotesCutAnywhereSaid : Prop := fnNeedsQuotesCutAnywhereRow.holds Try.pinned (OpenSpec.ofChange fnNeedsQuotesCutAnywhereSpec)

/-- ITS FALSE NEIGHBOUR: 'it returns false'. Refute it at one input. -/
def fnNeedsQuotesCutAnywhereWrong : ChangeSpec := { name := "fnNeedsQuotesCutAnywhere", fn := fun _ => fun
  | [d1, d2] => { results := [.lit (.bool false)], args := [d1, d2] }
  | _ => none }
def FnNeedsQuotesCutAnywhereWrongFalsely : Prop := fnNeedsQuotesCutAnywhereRow.holds Try.pinned (OpenSpec.ofChange fnNeedsQuotesCutAnywhereWrong)

end Rows
end Go.Proofs.Qxb6619631a
