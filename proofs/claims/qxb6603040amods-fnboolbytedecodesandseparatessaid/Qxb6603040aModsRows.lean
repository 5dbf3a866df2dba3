/-
  No cell of these rows narrows 'for every input' (looked for: loops, veiled, ifaces, maps, wideKeys, modest, calm, conditions, laid).
  DERIVED. THE GIVEN ROWS OF THIS SEAT. 2 by the template 'for every input the law returns true; each argument reads behind the call as it read before'; 0 by the template 'total and deterministic' (their statements: Qxb6603040aModsTotals.lean).
  GIVEN WITH THE SEED: the statements are not yours to turn. If you find one false, say at which input.
  Laid BY PROGRAM, IN A SANDBOX (cutbox-rows.mjs): the forced cells as the released guide's own fill.sh prints them over the translation 4946a9ec68380d8a… (all of the seat's roots in one cut). By AI agents, Wed Nov 11 2026. No macro, syntax, notation, axiom, sorry.
-/
import Derived.Test.Qxb6603040aModsChecked
import GoSem.Claim
import GoSem.ClaimJoined
import GoSem.ClaimMapViews
import Derived.JoinedTies
import Derived.KernelRfl
namespace Go.Proofs.Qxb6603040aMods
/- THE CELL 'sum', in the pinned program and in every row, IS THE sha256 OF THE DUMP (.gsa) THAT Qxb6603040aModsProg.lean LOADS. Nothing in Lean hashes anything: it is a label: what it is worth is what the hold of that sum in a sandbox is worth. -/
noncomputable def Trym.pinned : Pinned := { name := "qxb6603040amods", sum := "4946a9ec68380d8ac15654b5cf0d6798b3019046839b95450018acef78cb6c48", checked := Trym.checked }
namespace Rows
def none {H : Type} : Left H := { results := [], args := [] }

/-- 'zzlaws_internal_ipni_b1.FnBoolByteDecodesAndSeparates': WHATEVER THE INPUT: true; the input reads as it did. -/
def fnBoolByteDecodesAndSeparatesSpec : ChangeSpec := { name := "fnBoolByteDecodesAndSeparates", fn := fun _ => fun
  | [d] => { results := [.lit (.bool true)], args := [d] }
  | _ => none }
def fnBoolByteDecodesAndSeparatesRow : OpenClaim := { program := "qxb6603040amods", sum := "4946a9ec68380d8ac15654b5cf0d6798b3019046839b95450018acef78cb6c48", func := "example.com/waymark/waymark/zzlaws_internal_ipni_b1.FnBoolByteDecodesAndSeparates", spec := "fnBoolByteDecodesAndSeparates", make := .lifted ["publicsums"], apart := false }
def FnBoolByteDecodesAndSeparatesSaid : Prop := fnBoolByteDecodesAndSeparatesRow.holds Trym.pinned (OpenSpec.ofChange fnBoolByteDecodesAndSeparatesSpec)

/-- ITS FALSE NEIGHBOUR: 'it returns false'. Refute it at one input. -/
def fnBoolByteDecodesAndSeparatesWrong : ChangeSpec := { name := "fnBoolByteDecodesAndSeparates", fn := fun _ => fun
  | [d] => { results := [.lit (.bool false)], args := [d] }
  | _ => none }
def FnBoolByteDecodesAndSeparatesWrongFalsely : Prop := fnBoolByteDecodesAndSeparatesRow.holds Trym.pinned (OpenSpec.ofChange fnBoolByteDecodesAndSeparatesWrong)

/-- 'zzlaws_internal_ipni_b1.FnBoolByteFreshEachCall': WHATEVER THE INPUT: true; the input reads as it did. -/
def fnBoolByteFreshEachCallSpec : ChangeSpec := { name := "fnBoolByteFreshEachCall", fn := fun _ => fun
  | [d] => { results := [.lit (.bool true)], args := [d] }
  | _ => none }
def fnBoolByteFreshEachCallRow : OpenClaim := { program := "qxb6603040amods", sum := "4946a9ec68380d8ac15654b5cf0d6798b3019046839b95450018acef78cb6c48", func := "example.com/waymark/waymark/zzlaws_internal_ipni_b1.FnBoolByteFreshEachCall", spec := "fnBoolByteFreshEachCall", make := .lifted ["publicsums"], apart := false }
def FnBoolByteFreshEachCallSaid : Prop := fnBoolByteFreshEachCallRow.holds Trym.pinned (OpenSpec.ofChange fnBoolByteFreshEachCallSpec)

/-- ITS FALSE NEIGHBOUR: 'it returns false'. Refute it at one input. -/
def fnBoolByteFreshEachCallWrong : ChangeSpec := { name := "fnBoolByteFreshEachCall", fn := fun _ => fun
  | [d] => { results := [.lit (.bool false)], args := [d] }
  | _ => none }
def FnBoolByteFreshEachCallWrongFalsely : Prop := fnBoolByteFreshEachCallRow.holds Trym.pinned (OpenSpec.ofChange fnBoolByteFreshEachCallWrong)

end Rows
end Go.Proofs.Qxb6603040aMods
