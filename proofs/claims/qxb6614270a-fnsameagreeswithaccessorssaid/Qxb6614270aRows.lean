/-
  No cell of these rows narrows 'for every input' (looked for: loops, veiled, ifaces, maps, wideKeys, modest, calm, conditions, laid).
  DERIVED. THE GIVEN ROWS OF THIS SEAT. 5 by the template 'for every input the law returns true; each argument reads behind the call as it read before'; 0 by the template 'total and deterministic' (their statements: Qxb6614270aTotals.lean).
  GIVEN WITH THE SEED: the statements are not yours to turn. If you find one false, say at which input.
  Laid BY PROGRAM, IN A SANDBOX (cutbox-rows.mjs): the forced cells as the released guide's own fill.sh prints them over the translation a13c5b48ed7b9da1… (all of the seat's roots in one cut). By AI agents, Wed Nov 11 2026. No macro, syntax, notation, axiom, sorry.
-/
import Derived.Test.Qxb6614270aChecked
import GoSem.Claim
import GoSem.ClaimJoined
import GoSem.ClaimMapViews
import Derived.JoinedTies
import Derived.KernelRfl
namespace Go.Proofs.Qxb6614270a
/- THE CELL 'sum', in the pinned program and in every row, IS THE sha256 OF THE DUMP (.gsa) THAT Qxb6614270aProg.lean LOADS. Nothing in Lean hashes anything: it is a label: what it is worth is what the hold of that sum in a sandbox is worth. -/
noncomputable def Try.pinned : Pinned := { name := "qxb6614270a", sum := "a13c5b48ed7b9da1e36742e7c1a0c311b1b0e15826a7f3707f1d9d878574f9a4", checked := Try.checked }
namespace Rows
def none {H : Type} : Left H := { results := [], args := [] }

/-- 'zzlaws_pkg_classad_b1.FnKindAgreesWithAccessors': WHATEVER THE INPUT: true; the input reads as it did. -/
def fnKindAgreesWithAccessorsSpec : ChangeSpec := { name := "fnKindAgreesWithAccessors", fn := fun _ => fun
  | [d1, d2] => { results := [.lit (.bool true)], args := [d1, d2] }
  | _ => none }
def fnKindAgreesWithAccessorsRow : OpenClaim := { program := "qxb6614270a", sum := "a13c5b48ed7b9da1e36742e7c1a0c311b1b0e15826a7f3707f1d9d878574f9a4", func := "example.com/slotwarden/slotwarden/zzlaws_pkg_classad_b1.FnKindAgreesWithAccessors", spec := "fnKindAgreesWithAccessors", apart := false }
def FnKindAgreesWithAccessorsSaid : Prop := fnKindAgreesWithAccessorsRow.holds Try.pinned (OpenSpec.ofChange fnKindAgreesWithAccessorsSpec)

/-- ITS FALSE NEIGHBOUR: 'it returns false'. Refute it at one input. -/
def fnKindAgreesWithAccessorsWrong : ChangeSpec := { name := "fnKindAgreesWithAccessors", fn := fun _ => fun
  | [d1, d2] => { results := [.lit (.bool false)], args := [d1, d2] }
  | _ => none }
def FnKindAgreesWithAccessorsWrongFalsely : Prop := fnKindAgreesWithAccessorsRow.holds Try.pinned (OpenSpec.ofChange fnKindAgreesWithAccessorsWrong)

/-- 'zzlaws_pkg_classad_b1.FnIntRoundTrip': WHATEVER THE INPUT: true; the input reads as it did. -/
def fnIntRoundTripSpec : ChangeSpec := { name := "fnIntRoundTrip", fn := fun _ => fun
  | [d] => { results := [.lit (.bool true)], args := [d] }
  | _ => none }
def fnIntRoundTripRow : OpenClaim := { program := "qxb6614270a", sum := "a13c5b48ed7b9da1e36742e7c1a0c311b1b0e15826a7f3707f1d9d878574f9a4", func := "example.com/slotwarden/slotwarden/zzlaws_pkg_classad_b1.FnIntRoundTrip", spec := "fnIntRoundTrip", apart := false }
def FnIntRoundTripSaid : Prop := fnIntRoundTripRow.holds Try.pinned (OpenSpec.ofChange fnIntRoundTripSpec)

/-- ITS FALSE NEIGHBOUR: 'it returns false'. Refute it at one input. -/
def fnIntRoundTripWrong : ChangeSpec := { name := "fnIntRoundTrip", fn := fun _ => fun
  | [d] => { results := [.lit (.bool false)], args := [d] }
  | _ => none }
def FnIntRoundTripWrongFalsely : Prop := fnIntRoundTripRow.holds Try.pinned (OpenSpec.ofChange fnIntRoundTripWrong)

/-- 'zzlaws_pkg_classad_b1.FnIntRefusesNonIntegers': WHATEVER THE INPUT: true; the input reads as it did. -/
def fnIntRefusesNonIntegersSpec : ChangeSpec := { name := "fnIntRefusesNonIntegers", fn := fun _ => fun
  | [d1, d2] => { results := [.lit (.bool true)], args := [d1, d2] }
  | _ => none }
def fnIntRefusesNonIntegersRow : OpenClaim := { program := "qxb6614270a", sum := "a13c5b48ed7b9da1e36742e7c1a0c311b1b0e15826a7f3707f1d9d878574f9a4", func := "example.com/slotwarden/slotwarden/zzlaws_pkg_classad_b1.FnIntRefusesNonIntegers", spec := "fnIntRefusesNonIntegers", recurses := true, apart := false }
def FnIntRefusesNonIntegersSaid : Prop := fnIntRefusesNonIntegersRow.holds Try.pinned (OpenSpec.ofChange fnIntRefusesNonIntegersSpec)

/-- ITS FALSE NEIGHBOUR: 'it returns false'. Refute it at one input. -/
def fnIntRefusesNonIntegersWrong : ChangeSpec := { name := "fnIntRefusesNonIntegers", fn := fun _ => fun
  | [d1, d2] => { results := [.lit (.bool false)], args := [d1, d2] }
  | _ => none }
def FnIntRefusesNonIntegersWrongFalsely : Prop := fnIntRefusesNonIntegersRow.holds Try.pinned (OpenSpec.ofChange fnIntRefusesNonIntegersWrong)

/-- 'zzlaws_pkg_classad_b1.FnSameExactOnScalars': WHATEVER THE INPUT: true; the input reads as it did. -/
def fnSameExactOnScalarsSpec : ChangeSpec := { name := "fnSameExactOnScalars", fn := fun _ => fun
  | [d1, d2, d3, d4] => { results := [.lit (.bool true)], args := [d1, d2, d3, d4] }
  | _ => none }
def fnSameExactOnScalarsRow : OpenClaim := { program := "qxb6614270a", sum := "a13c5b48ed7b9da1e36742e7c1a0c311b1b0e15826a7f3707f1d9d878574f9a4", func := "example.com/slotwarden/slotwarden/zzlaws_pkg_classad_b1.FnSameExactOnScalars", spec := "fnSameExactOnScalars", recurses := true, apart := false }
def FnSameExactOnScalarsSaid : Prop := fnSameExactOnScalarsRow.holds Try.pinned (OpenSpec.ofChange fnSameExactOnScalarsSpec)

/-- ITS FALSE NEIGHBOUR: 'it returns false'. Refute it at one input. -/
def fnSameExactOnScalarsWrong : ChangeSpec := { name := "fnSameExactOnScalars", fn := fun _ => fun
  | [d1, d2, d3, d4] => { results := [.lit (.bool false)], args := [d1, d2, d3, d4] }
  | _ => none }
def FnSameExactOnScalarsWrongFalsely : Prop := fnSameExactOnScalarsRow.holds Try.pinned (OpenSpec.ofChange fnSameExactOnScalarsWrong)

/-- 'zzlaws_pkg_classad_b1.FnSameAgreesWithAccessors': WHATEVER THE INPUT: true; the input reads as it did. -/
def fnSameAgreesWithAccessorsSpec : ChangeSpec := { name := "fnSameAgreesWithAccessors", fn := fun _ => fun
  | [d1, d2, d3, d4] => { results := [.lit (.bool true)], args := [d1, d2, d3, d4] }
  | _ => none }
def fnSameAgreesWithAccessorsRow : OpenClaim := { program := "qxb6614270a", sum := "a13c5b48ed7b9da1e36742e7c1a0c311b1b0e15826a7f3707f1d9d878574f9a4", func := "example.com/slotwarden/slotwarden/zzlaws_pkg_classad_b1.FnSameAgreesWithAccessors", spec := "fnSameAgreesWithAccessors", recurses := true, apart := false }
def FnSameAgreesWithAccessorsSaid : Prop := fnSameAgreesWithAccessorsRow.holds Try.pinned (OpenSpec.ofChange fnSameAgreesWithAccessorsSpec)

/-- ITS FALSE NEIGHBOUR: 'it returns false'. Refute it at one input. -/
def fnSameAgreesWithAccessorsWrong : ChangeSpec := { name := "fnSameAgreesWithAccessors", fn := fun _ => fun
  | [d1, d2, d3, d4] => { results := [.lit (.bool false)], args := [d1, d2, d3, d4] }
  | _ => none }
def FnSameAgreesWithAccessorsWrongFalsely : Prop := fnSameAgreesWithAccessorsRow.holds Try.pinned (OpenSpec.ofChange fnSameAgreesWithAccessorsWrong)

end Rows
end Go.Proofs.Qxb6614270a
