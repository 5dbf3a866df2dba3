/-
  No cell of these rows narrows 'for every input' (looked for: loops, veiled, ifaces, maps, wideKeys, modest, calm, conditions, laid).
  DERIVED. THE GIVEN ROWS OF THIS SEAT. 3 by the template 'for every input the law returns true; each argument reads behind the call as it read before'; 0 by the template 'total and deterministic' (their statements: Qxb6000507aModsTotals.lean).
  GIVEN WITH THE SEED: the statements are not yours to turn. If you find one false, say at which input.
  Laid BY PROGRAM, IN A SANDBOX (cutbox-rows.mjs): the forced cells as the released guide's own fill.sh prints them over the translation 139cde871b5e6c2f… (all of the seat's roots in one cut). By AI agents, Wed Nov 11 2026. No macro, syntax, notation, axiom, sorry.
-/
import Derived.Test.Qxb6000507aModsChecked
import GoSem.Claim
import GoSem.ClaimJoined
import GoSem.ClaimMapViews
import Derived.JoinedTies
import Derived.KernelRfl
namespace Go.Proofs.Qxb6000507aMods
/- THE CELL 'sum', in the pinned program and in every row, IS THE sha256 OF THE DUMP (.gsa) THAT Qxb6000507aModsProg.lean LOADS. Nothing in Lean hashes anything: it is a label: what it is worth is what the hold of that sum in a sandbox is worth. -/
noncomputable def Trym.pinned : Pinned := { name := "qxb6000507amods", sum := "139cde871b5e6c2f21702f7ed226b0453306cbae7d4d205b014c935ddd31c1a9", checked := Trym.checked }
namespace Rows
def none {H : Type} : Left H := { results := [], args := [] }

/-- 'zzlaws_internal_store_b1.FnAbortedIndexFirstBelowMatchesScan': WHATEVER THE INPUT: true; the input reads as it did. -/
def fnAbortedIndexFirstBelowMatchesScanSpec : ChangeSpec := { name := "fnAbortedIndexFirstBelowMatchesScan", fn := fun _ => fun
  | [d1, d2, d3] => { results := [.lit (.bool true)], args := [d1, d2, d3] }
  | _ => none }
def fnAbortedIndexFirstBelowMatchesScanRow : OpenClaim := { program := "qxb6000507amods", sum := "139cde871b5e6c2f21702f7ed226b0453306cbae7d4d205b014c935ddd31c1a9", func := "example.com/stablemark/stablemark/zzlaws_internal_store_b1.FnAbortedIndexFirstBelowMatchesScan", spec := "fnAbortedIndexFirstBelowMatchesScan", make := .lifted ["publicsums"], apart := false }
def FnAbortedIndexFirstBelowMatchesScanSaid : Prop := fnAbortedIndexFirstBelowMatchesScanRow.holds Trym.pinned (OpenSpec.ofChange fnAbortedIndexFirstBelowMatchesScanSpec)

/-- ITS FALSE NEIGHBOUR: 'it returns false'. Refute it at one input. -/
def fnAbortedIndexFirstBelowMatchesScanWrong : ChangeSpec := { name := "fnAbortedIndexFirstBelowMatchesScan", fn := fun _ => fun
  | [d1, d2, d3] => { results := [.lit (.bool false)], args := [d1, d2, d3] }
  | _ => none }
def FnAbortedIndexFirstBelowMatchesScanWrongFalsely : Prop := fnAbortedIndexFirstBelowMatchesScanRow.holds Trym.pinned (OpenSpec.ofChange fnAbortedIndexFirstBelowMatchesScanWrong)

/-- 'zzlaws_internal_store_b1.FnAbortedIndexQueriesAfterEveryAdd': WHATEVER THE INPUT: true; the input reads as it did. -/
def fnAbortedIndexQueriesAfterEveryAddSpec : ChangeSpec := { name := "fnAbortedIndexQueriesAfterEveryAdd", fn := fun _ => fun
  | [d1, d2, d3] => { results := [.lit (.bool true)], args := [d1, d2, d3] }
  | _ => none }
def fnAbortedIndexQueriesAfterEveryAddRow : OpenClaim := { program := "qxb6000507amods", sum := "139cde871b5e6c2f21702f7ed226b0453306cbae7d4d205b014c935ddd31c1a9", func := "example.com/stablemark/stablemark/zzlaws_internal_store_b1.FnAbortedIndexQueriesAfterEveryAdd", spec := "fnAbortedIndexQueriesAfterEveryAdd", make := .lifted ["publicsums"], apart := false }
def FnAbortedIndexQueriesAfterEveryAddSaid : Prop := fnAbortedIndexQueriesAfterEveryAddRow.holds Trym.pinned (OpenSpec.ofChange fnAbortedIndexQueriesAfterEveryAddSpec)

/-- ITS FALSE NEIGHBOUR: 'it returns false'. Refute it at one input. -/
def fnAbortedIndexQueriesAfterEveryAddWrong : ChangeSpec := { name := "fnAbortedIndexQueriesAfterEveryAdd", fn := fun _ => fun
  | [d1, d2, d3] => { results := [.lit (.bool false)], args := [d1, d2, d3] }
  | _ => none }
def FnAbortedIndexQueriesAfterEveryAddWrongFalsely : Prop := fnAbortedIndexQueriesAfterEveryAddRow.holds Trym.pinned (OpenSpec.ofChange fnAbortedIndexQueriesAfterEveryAddWrong)

/-- 'zzlaws_internal_store_b1.FnAbortedIndexFirstBelowIsMonotone': WHATEVER THE INPUT: true; the input reads as it did. -/
def fnAbortedIndexFirstBelowIsMonotoneSpec : ChangeSpec := { name := "fnAbortedIndexFirstBelowIsMonotone", fn := fun _ => fun
  | [d1, d2, d3, d4, d5] => { results := [.lit (.bool true)], args := [d1, d2, d3, d4, d5] }
  | _ => none }
def fnAbortedIndexFirstBelowIsMonotoneRow : OpenClaim := { program := "qxb6000507amods", sum := "139cde871b5e6c2f21702f7ed226b0453306cbae7d4d205b014c935ddd31c1a9", func := "example.com/stablemark/stablemark/zzlaws_internal_store_b1.FnAbortedIndexFirstBelowIsMonotone", spec := "fnAbortedIndexFirstBelowIsMonotone", make := .lifted ["publicsums"], apart := false }
def FnAbortedIndexFirstBelowIsMonotoneSaid : Prop := fnAbortedIndexFirstBelowIsMonotoneRow.holds Trym.pinned (OpenSpec.ofChange fnAbortedIndexFirstBelowIsMonotoneSpec)

/-- ITS FALSE NEIGHBOUR: 'it returns false'. Refute it at one input. -/
def fnAbortedIndexFirstBelowIsMonotoneWrong : ChangeSpec := { name := "fnAbortedIndexFirstBelowIsMonotone", fn := fun _ => fun
  | [d1, d2, d3, d4, d5] => { results := [.lit (.bool false)], args := [d1, d2, d3, d4, d5] }
  | _ => none }
def FnAbortedIndexFirstBelowIsMonotoneWrongFalsely : Prop := fnAbortedIndexFirstBelowIsMonotoneRow.holds Trym.pinned (OpenSpec.ofChange fnAbortedIndexFirstBelowIsMonotoneWrong)

end Rows
end Go.Proofs.Qxb6000507aMods
