/-
  No cell of these rows narrows 'for every input' (looked for: loops, veiled, ifaces, maps, wideKeys, modest, calm, conditions, laid).
  DERIVED. THE GIVEN ROWS OF THIS SEAT. 3 by the template 'for every input the law returns true; each argument reads behind the call as it read before'; 0 by the template 'total and deterministic' (their statements: Qxb6001519aModsTotals.lean).
  GIVEN WITH THE SEED: the statements are not yours to turn. If you find one false, say at which input.
  Laid BY PROGRAM, IN A SANDBOX (cutbox-rows.mjs): the forced cells as the released guide's own fill.sh prints them over the translation e5756a0d62a72cbe… (all of the seat's roots in one cut). By AI agents, Wed Nov 11 2026. No macro, syntax, notation, axiom, sorry.
-/
import Derived.Test.Qxb6001519aModsChecked
import GoSem.Claim
import GoSem.ClaimJoined
import GoSem.ClaimMapViews
import Derived.JoinedTies
import Derived.KernelRfl
namespace Go.Proofs.Qxb6001519aMods
/- THE CELL 'sum', in the pinned program and in every row, IS THE sha256 OF THE DUMP (.gsa) THAT Qxb6001519aModsProg.lean LOADS. Nothing in Lean hashes anything: it is a label: what it is worth is what the hold of that sum in a sandbox is worth. -/
noncomputable def Trym.pinned : Pinned := { name := "qxb6001519amods", sum := "e5756a0d62a72cbe9bc4fb7b2f849e01c66506b45d81636785e3d9bc7e169307", checked := Trym.checked }
namespace Rows
def none {H : Type} : Left H := { results := [], args := [] }

/-- 'zzlaws_root_b1.FnDistanceSymmetricZeroIffEqual': WHATEVER THE INPUT: true; the input reads as it did. -/
def fnDistanceSymmetricZeroIffEqualSpec : ChangeSpec := { name := "fnDistanceSymmetricZeroIffEqual", fn := fun _ => fun
  | [d1, d2] => { results := [.lit (.bool true)], args := [d1, d2] }
  | _ => none }
def fnDistanceSymmetricZeroIffEqualRow : OpenClaim := { program := "qxb6001519amods", sum := "e5756a0d62a72cbe9bc4fb7b2f849e01c66506b45d81636785e3d9bc7e169307", func := "example.com/xorweave/xorweave/zzlaws_root_b1.FnDistanceSymmetricZeroIffEqual", spec := "fnDistanceSymmetricZeroIffEqual", make := .lifted ["publicsums"], apart := false }
def FnDistanceSymmetricZeroIffEqualSaid : Prop := fnDistanceSymmetricZeroIffEqualRow.holds Trym.pinned (OpenSpec.ofChange fnDistanceSymmetricZeroIffEqualSpec)

/-- ITS FALSE NEIGHBOUR: 'it returns false'. Refute it at one input. -/
def fnDistanceSymmetricZeroIffEqualWrong : ChangeSpec := { name := "fnDistanceSymmetricZeroIffEqual", fn := fun _ => fun
  | [d1, d2] => { results := [.lit (.bool false)], args := [d1, d2] }
  | _ => none }
def FnDistanceSymmetricZeroIffEqualWrongFalsely : Prop := fnDistanceSymmetricZeroIffEqualRow.holds Trym.pinned (OpenSpec.ofChange fnDistanceSymmetricZeroIffEqualWrong)

/-- 'zzlaws_root_b1.FnDistanceTriangle': WHATEVER THE INPUT: true; the input reads as it did. -/
def fnDistanceTriangleSpec : ChangeSpec := { name := "fnDistanceTriangle", fn := fun _ => fun
  | [d1, d2, d3] => { results := [.lit (.bool true)], args := [d1, d2, d3] }
  | _ => none }
def fnDistanceTriangleRow : OpenClaim := { program := "qxb6001519amods", sum := "e5756a0d62a72cbe9bc4fb7b2f849e01c66506b45d81636785e3d9bc7e169307", func := "example.com/xorweave/xorweave/zzlaws_root_b1.FnDistanceTriangle", spec := "fnDistanceTriangle", make := .lifted ["publicsums"], apart := false }
def FnDistanceTriangleSaid : Prop := fnDistanceTriangleRow.holds Trym.pinned (OpenSpec.ofChange fnDistanceTriangleSpec)

/-- ITS FALSE NEIGHBOUR: 'it returns false'. Refute it at one input. -/
def fnDistanceTriangleWrong : ChangeSpec := { name := "fnDistanceTriangle", fn := fun _ => fun
  | [d1, d2, d3] => { results := [.lit (.bool false)], args := [d1, d2, d3] }
  | _ => none }
def FnDistanceTriangleWrongFalsely : Prop := fnDistanceTriangleRow.holds Trym.pinned (OpenSpec.ofChange fnDistanceTriangleWrong)

/-- 'zzlaws_root_b1.FnDistanceInjective': WHATEVER THE INPUT: true; the input reads as it did. -/
def fnDistanceInjectiveSpec : ChangeSpec := { name := "fnDistanceInjective", fn := fun _ => fun
  | [d1, d2, d3] => { results := [.lit (.bool true)], args := [d1, d2, d3] }
  | _ => none }
def fnDistanceInjectiveRow : OpenClaim := { program := "qxb6001519amods", sum := "e5756a0d62a72cbe9bc4fb7b2f849e01c66506b45d81636785e3d9bc7e169307", func := "example.com/xorweave/xorweave/zzlaws_root_b1.FnDistanceInjective", spec := "fnDistanceInjective", make := .lifted ["publicsums"], apart := false }
def FnDistanceInjectiveSaid : Prop := fnDistanceInjectiveRow.holds Trym.pinned (OpenSpec.ofChange fnDistanceInjectiveSpec)

/-- ITS FALSE NEIGHBOUR: 'it returns false'. Refute it at one input. -/
def fnDistanceInjectiveWrong : ChangeSpec := { name := "fnDistanceInjective", fn := fun _ => fun
  | [d1, d2, d3] => { results := [.lit (.bool false)], args := [d1, d2, d3] }
  | _ => none }
def FnDistanceInjectiveWrongFalsely : Prop := fnDistanceInjectiveRow.holds Trym.pinned (OpenSpec.ofChange fnDistanceInjectiveWrong)

end Rows
end Go.Proofs.Qxb6001519aMods
