/-
  No cell of these rows narrows 'for every input' (looked for: loops, veiled, ifaces, maps, wideKeys, modest, calm, conditions, laid).
  DERIVED. THE GIVEN ROWS OF THIS SEAT. 5 by the template 'for every input the law returns true; each argument reads behind the call as it read before'; 0 by the template 'total and deterministic' (their statements: Qxb6600277aModsTotals.lean).
  GIVEN WITH THE SEED: the statements are not yours to turn. If you find one false, say at which input.
  Laid BY PROGRAM, IN A SANDBOX (cutbox-rows.mjs): the forced cells as the released guide's own fill.sh prints them over the translation 2dd66d1429f3a9e4… (all of the seat's roots in one cut). By AI agents, Wed Nov 11 2026. No macro, syntax, notation, axiom, sorry.
-/
import Derived.Test.Qxb6600277aModsChecked
import GoSem.Claim
import GoSem.ClaimJoined
import GoSem.ClaimMapViews
import Derived.JoinedTies
import Derived.KernelRfl
namespace Go.Proofs.Qxb6600277aMods
/- THE CELL 'sum', in the pinned program and in every row, IS THE sha256 OF THE DUMP (.gsa) THAT Qxb6600277aModsProg.lean LOADS. Nothing in Lean hashes anything: it is a label: what it is worth is what the hold of that sum in a sandbox is worth. -/
noncomputable def Trym.pinned : Pinned := { name := "qxb6600277amods", sum := "2dd66d1429f3a9e407b9a89cf77688e844bed50da5b9a01559336f9ae313f033", checked := Trym.checked }
namespace Rows
def none {H : Type} : Left H := { results := [], args := [] }

/-- 'zzlaws_pkg_decimal_b1.FnIsPlainMatchesAutomaton': WHATEVER THE INPUT: true; the input reads as it did. -/
def fnIsPlainMatchesAutomatonSpec : ChangeSpec := { name := "fnIsPlainMatchesAutomaton", fn := fun _ => fun
  | [d] => { results := [.lit (.bool true)], args := [d] }
  | _ => none }
def fnIsPlainMatchesAutomatonRow : OpenClaim := { program := "qxb6600277amods", sum := "2dd66d1429f3a9e407b9a89cf77688e844bed50da5b9a01559336f9ae313f033", func := "example.com/plumbline/plumbline/zzlaws_pkg_decimal_b1.FnIsPlainMatchesAutomaton", spec := "fnIsPlainMatchesAutomaton", make := .lifted ["publicsums"], apart := false }
def FnIsPlainMatchesAutomatonSaid : Prop := fnIsPlainMatchesAutomatonRow.holds Trym.pinned (OpenSpec.ofChange fnIsPlainMatchesAutomatonSpec)

/-- ITS FALSE NEIGHBOUR: 'it returns false'. Refute it at one input. -/
def fnIsPlainMatchesAutomatonWrong : ChangeSpec := { name := "fnIsPlainMatchesAutomaton", fn := fun _ => fun
  | [d] => { results := [.lit (.bool false)], args := [d] }
  | _ => none }
def FnIsPlainMatchesAutomatonWrongFalsely : Prop := fnIsPlainMatchesAutomatonRow.holds Trym.pinned (OpenSpec.ofChange fnIsPlainMatchesAutomatonWrong)

/-- 'zzlaws_pkg_decimal_b1.FnIsPlainLeadingMinusOnce': WHATEVER THE INPUT: true; the input reads as it did. -/
def fnIsPlainLeadingMinusOnceSpec : ChangeSpec := { name := "fnIsPlainLeadingMinusOnce", fn := fun _ => fun
  | [d] => { results := [.lit (.bool true)], args := [d] }
  | _ => none }
def fnIsPlainLeadingMinusOnceRow : OpenClaim := { program := "qxb6600277amods", sum := "2dd66d1429f3a9e407b9a89cf77688e844bed50da5b9a01559336f9ae313f033", func := "example.com/plumbline/plumbline/zzlaws_pkg_decimal_b1.FnIsPlainLeadingMinusOnce", spec := "fnIsPlainLeadingMinusOnce", make := .lifted ["publicsums"], apart := false }
def FnIsPlainLeadingMinusOnceSaid : Prop := fnIsPlainLeadingMinusOnceRow.holds Trym.pinned (OpenSpec.ofChange fnIsPlainLeadingMinusOnceSpec)

/-- ITS FALSE NEIGHBOUR: 'it returns false'. Refute it at one input. -/
def fnIsPlainLeadingMinusOnceWrong : ChangeSpec := { name := "fnIsPlainLeadingMinusOnce", fn := fun _ => fun
  | [d] => { results := [.lit (.bool false)], args := [d] }
  | _ => none }
def FnIsPlainLeadingMinusOnceWrongFalsely : Prop := fnIsPlainLeadingMinusOnceRow.holds Trym.pinned (OpenSpec.ofChange fnIsPlainLeadingMinusOnceWrong)

/-- 'zzlaws_pkg_decimal_b1.FnIsPlainExtensions': WHATEVER THE INPUT: true; the input reads as it did. -/
def fnIsPlainExtensionsSpec : ChangeSpec := { name := "fnIsPlainExtensions", fn := fun _ => fun
  | [d] => { results := [.lit (.bool true)], args := [d] }
  | _ => none }
def fnIsPlainExtensionsRow : OpenClaim := { program := "qxb6600277amods", sum := "2dd66d1429f3a9e407b9a89cf77688e844bed50da5b9a01559336f9ae313f033", func := "example.com/plumbline/plumbline/zzlaws_pkg_decimal_b1.FnIsPlainExtensions", spec := "fnIsPlainExtensions", make := .lifted ["publicsums"], apart := false }
def FnIsPlainExtensionsSaid : Prop := fnIsPlainExtensionsRow.holds Trym.pinned (OpenSpec.ofChange fnIsPlainExtensionsSpec)

/-- ITS FALSE NEIGHBOUR: 'it returns false'. Refute it at one input. -/
def fnIsPlainExtensionsWrong : ChangeSpec := { name := "fnIsPlainExtensions", fn := fun _ => fun
  | [d] => { results := [.lit (.bool false)], args := [d] }
  | _ => none }
def FnIsPlainExtensionsWrongFalsely : Prop := fnIsPlainExtensionsRow.holds Trym.pinned (OpenSpec.ofChange fnIsPlainExtensionsWrong)

/-- 'zzlaws_pkg_decimal_b1.FnDigitRunIsMaximalDigitPrefix': WHATEVER THE INPUT: true; the input reads as it did. -/
def fnDigitRunIsMaximalDigitPrefixSpec : ChangeSpec := { name := "fnDigitRunIsMaximalDigitPrefix", fn := fun _ => fun
  | [d] => { results := [.lit (.bool true)], args := [d] }
  | _ => none }
def fnDigitRunIsMaximalDigitPrefixRow : OpenClaim := { program := "qxb6600277amods", sum := "2dd66d1429f3a9e407b9a89cf77688e844bed50da5b9a01559336f9ae313f033", func := "example.com/plumbline/plumbline/zzlaws_pkg_decimal_b1.FnDigitRunIsMaximalDigitPrefix", spec := "fnDigitRunIsMaximalDigitPrefix", make := .lifted ["publicsums"], apart := false }
def FnDigitRunIsMaximalDigitPrefixSaid : Prop := fnDigitRunIsMaximalDigitPrefixRow.holds Trym.pinned (OpenSpec.ofChange fnDigitRunIsMaximalDigitPrefixSpec)

/-- ITS FALSE NEIGHBOUR: 'it returns false'. Refute it at one input. -/
def fnDigitRunIsMaximalDigitPrefixWrong : ChangeSpec := { name := "fnDigitRunIsMaximalDigitPrefix", fn := fun _ => fun
  | [d] => { results := [.lit (.bool false)], args := [d] }
  | _ => none }
def FnDigitRunIsMaximalDigitPrefixWrongFalsely : Prop := fnDigitRunIsMaximalDigitPrefixRow.holds Trym.pinned (OpenSpec.ofChange fnDigitRunIsMaximalDigitPrefixWrong)

/-- 'zzlaws_pkg_decimal_b1.FnDigitRunOfConcatenation': WHATEVER THE INPUT: true; the input reads as it did. -/
def fnDigitRunOfConcatenationSpec : ChangeSpec := { name := "fnDigitRunOfConcatenation", fn := fun _ => fun
  | [d1, d2] => { results := [.lit (.bool true)], args := [d1, d2] }
  | _ => none }
def fnDigitRunOfConcatenationRow : OpenClaim := { program := "qxb6600277amods", sum := "2dd66d1429f3a9e407b9a89cf77688e844bed50da5b9a01559336f9ae313f033", func := "example.com/plumbline/plumbline/zzlaws_pkg_decimal_b1.FnDigitRunOfConcatenation", spec := "fnDigitRunOfConcatenation", make := .lifted ["publicsums"], apart := false }
def FnDigitRunOfConcatenationSaid : Prop := fnDigitRunOfConcatenationRow.holds Trym.pinned (OpenSpec.ofChange fnDigitRunOfConcatenationSpec)

/-- ITS FALSE NEIGHBOUR: 'it returns false'. Refute it at one input. -/
def fnDigitRunOfConcatenationWrong : ChangeSpec := { name := "fnDigitRunOfConcatenation", fn := fun _ => fun
  | [d1, d2] => { results := [.lit (.bool false)], args := [d1, d2] }
  | _ => none }
def FnDigitRunOfConcatenationWrongFalsely : Prop := fnDigitRunOfConcatenationRow.holds Trym.pinned (OpenSpec.ofChange fnDigitRunOfConcatenationWrong)

end Rows
end Go.Proofs.Qxb6600277aMods
