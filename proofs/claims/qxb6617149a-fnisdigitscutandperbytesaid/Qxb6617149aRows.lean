/-
  No cell of these rows narrows 'for every input' (looked for: loops, veiled, ifaces, maps, wideKeys, modest, calm, conditions, laid).
  DERIVED. THE GIVEN ROWS OF THIS SEAT. 3 by the template 'for every input the law returns true; each argument reads behind the call as it read before'; 0 by the template 'total and deterministic' (their statements: Qxb6617149aTotals.lean).
  GIVEN WITH THE SEED: the statements are not yours to turn. If you find one false, say at which input.
  Laid BY PROGRAM, IN A SANDBOX (cutbox-rows.mjs): the forced cells as the released guide's own fill.sh prints them over the translation 1ff8a5caa739c431… (all of the seat's roots in one cut). By AI agents, Wed Nov 11 2026. No macro, syntax, notation, axiom, sorry.
-/
import Derived.Test.Qxb6617149aChecked
import GoSem.Claim
import GoSem.ClaimJoined
import GoSem.ClaimMapViews
import Derived.JoinedTies
import Derived.KernelRfl
namespace Go.Proofs.Qxb6617149a
/- THE CELL 'sum', in the pinned program and in every row, IS THE sha256 OF THE DUMP (.gsa) THAT Qxb6617149aProg.lean LOADS. Nothing in Lean hashes anything: it is a label: what it is worth is what the hold of that sum in a sandbox is worth. -/
noncomputable def Try.pinned : Pinned := { name := "qxb6617149a", sum := "1ff8a5caa739c431ceea97e1a49321d90e949a112a523211dcdcd7c63b0135c1", checked := Try.checked }
namespace Rows
def none {H : Type} : Left H := { results := [], args := [] }

/-- 'zzlaws_pkg_amount_b1.FnIsDigitsCutAndPerByte': WHATEVER THE INPUT: true; the input reads as it did. -/
def fnIsDigitsCutAndPerByteSpec : ChangeSpec := { name := "fnIsDigitsCutAndPerByte", fn := fun _ => fun
  | [d1, d2] => { results := [.lit (.bool true)], args := [d1, d2] }
  | _ => none }
def fnIsDigitsCutAndPerByteRow : OpenClaim := { program := "qxb6617149a", sum := "1ff8a5caa739c431ceea97e1a49321d90e949a112a523211dcdcd7c63b0135c1", func := "example.com/allotment/allotment/zzlaws_pkg_amount_b1.FnIsDigitsCutAndPerByte", spec := "fnIsDigitsCutAndPerByte", apart := false }
def FnIsDigitsCutAndPerByteSaid : Prop := fnIsDigitsCutAndPerByteRow.holds Try.pinned (OpenSpec.ofChange fnIsDigitsCutAndPerByteSpec)

/-- ITS FALSE NEIGHBOUR: 'it returns false'. Refute it at one input. -/
def fnIsDigitsCutAndPerByteWrong : ChangeSpec := { name := "fnIsDigitsCutAndPerByte", fn := fun _ => fun
  | [d1, d2] => { results := [.lit (.bool false)], args := [d1, d2] }
  | _ => none }
def FnIsDigitsCutAndPerByteWrongFalsely : Prop := fnIsDigitsCutAndPerByteRow.holds Try.pinned (OpenSpec.ofChange fnIsDigitsCutAndPerByteWrong)

/-- 'zzlaws_pkg_amount_b1.FnAppendDigitsCutAndPositional': WHATEVER THE INPUT: true; the input reads as it did. -/
def fnAppendDigitsCutAndPositionalSpec : ChangeSpec := { name := "fnAppendDigitsCutAndPositional", fn := fun _ => fun
  | [d1, d2, d3] => { results := [.lit (.bool true)], args := [d1, d2, d3] }
  | _ => none }
def fnAppendDigitsCutAndPositionalRow : OpenClaim := { program := "qxb6617149a", sum := "1ff8a5caa739c431ceea97e1a49321d90e949a112a523211dcdcd7c63b0135c1", func := "example.com/allotment/allotment/zzlaws_pkg_amount_b1.FnAppendDigitsCutAndPositional", spec := "fnAppendDigitsCutAndPositional", apart := false }
def FnAppendDigitsCutAndPositionalSaid : Prop := fnAppendDigitsCutAndPositionalRow.holds Try.pinned (OpenSpec.ofChange fnAppendDigitsCutAndPositionalSpec)

/-- ITS FALSE NEIGHBOUR: 'it returns false'. Refute it at one input. -/
def fnAppendDigitsCutAndPositionalWrong : ChangeSpec := { name := "fnAppendDigitsCutAndPositional", fn := fun _ => fun
  | [d1, d2, d3] => { results := [.lit (.bool false)], args := [d1, d2, d3] }
  | _ => none }
def FnAppendDigitsCutAndPositionalWrongFalsely : Prop := fnAppendDigitsCutAndPositionalRow.holds Try.pinned (OpenSpec.ofChange fnAppendDigitsCutAndPositionalWrong)

/-- 'zzlaws_pkg_amount_b1.FnAppendDigitsOrderOfEqualLengths': WHATEVER THE INPUT: true; the input reads as it did. -/
def fnAppendDigitsOrderOfEqualLengthsSpec : ChangeSpec := { name := "fnAppendDigitsOrderOfEqualLengths", fn := fun _ => fun
  | [d1, d2, d3] => { results := [.lit (.bool true)], args := [d1, d2, d3] }
  | _ => none }
def fnAppendDigitsOrderOfEqualLengthsRow : OpenClaim := { program := "qxb6617149a", sum := "1ff8a5caa739c431ceea97e1a49321d90e949a112a523211dcdcd7c63b0135c1", func := "example.com/allotment/allotment/zzlaws_pkg_amount_b1.FnAppendDigitsOrderOfEqualLengths", spec := "fnAppendDigitsOrderOfEqualLengths", apart := false }
def FnAppendDigitsOrderOfEqualLengthsSaid : Prop := fnAppendDigitsOrderOfEqualLengthsRow.holds Try.pinned (OpenSpec.ofChange fnAppendDigitsOrderOfEqualLengthsSpec)

/-- ITS FALSE NEIGHBOUR: 'it returns false'. Refute it at one input. -/
def fnAppendDigitsOrderOfEqualLengthsWrong : ChangeSpec := { name := "fnAppendDigitsOrderOfEqualLengths", fn := fun _ => fun
  | [d1, d2, d3] => { results := [.lit (.bool false)], args := [d1, d2, d3] }
  | _ => none }
def FnAppendDigitsOrderOfEqualLengthsWrongFalsely : Prop := fnAppendDigitsOrderOfEqualLengthsRow.holds Try.pinned (OpenSpec.ofChange fnAppendDigitsOrderOfEqualLengthsWrong)

end Rows
end Go.Proofs.Qxb6617149a
