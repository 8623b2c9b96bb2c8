/-
  No cell of these rows narrows 'for every input' (looked for: loops, veiled, ifaces, maps, wideKeys, modest, calm, conditions, laid).
  DERIVED. THE GIVEN ROWS OF THIS SEAT. 1 by the template 'for every input the law returns true; each argument reads behind the call as it read before'; 0 by the template 'total and deterministic' (their statements: Qxb6614070aTotals.lean).
  GIVEN WITH THE SEED: the statements are not yours to turn. If you find one false, say at which input.
  Laid BY PROGRAM, IN A SANDBOX (cutbox-rows.mjs): the forced cells as the released guide's own fill.sh prints them over the translation b7f9d66d35bf7ba2… (all of the seat's roots in one cut). By AI agents, Wed Nov 11 2026. No macro, syntax, notation, axiom, sorry.
-/
import Derived.Test.Qxb6614070aChecked
import GoSem.Claim
import GoSem.ClaimJoined
import GoSem.ClaimMapViews
import Derived.JoinedTies
import Derived.KernelRfl
namespace Go.Proofs.Qxb6614070a
/- THE CELL 'sum', in the pinned program and in every row, IS THE sha256 OF THE DUMP (.gsa) THAT Qxb6614070aProg.lean LOADS. Nothing in Lean hashes anything: it is a label: what it is worth is what the hold of that sum in a sandbox is worth. -/
noncomputable def Try.pinned : Pinned := { name := "qxb6614070a", sum := "b7f9d66d35bf7ba263e5945d8471613561582beab11b8c92a456060910bfa974", checked := Try.checked }
namespace Rows
def none {H : Type} : Left H := { results := [], args := [] }

/-- 'zzlaws_client_b1.FnIsSpaceExactlyFourBlankBytes': WHATEVER THE INPUT: true; the input reads as it did. -/
def fnIsSpaceExactlyFourBlankBytesSpec : ChangeSpec := { name := "fnIsSpaceExactlyFourBlankBytes", fn := fun _ => fun
  | [d] => { results := [.lit (.bool true)], args := [d] }
  | _ => none }
def fnIsSpaceExactlyFourBlankBytesRow : OpenClaim := { program := "qxb6614070a", sum := "b7f9d66d35bf7ba263e5945d8471613561582beab11b8c92a456060910bfa974", func := "example.com/rollcall/rollcall/zzlaws_client_b1.FnIsSpaceExactlyFourBlankBytes", spec := "fnIsSpaceExactlyFourBlankBytes", apart := false }
def FnIsSpaceExactlyFourBlankBytesSaid : Prop := fnIsSpaceExactlyFourBlankBytesRow.holds Try.pinned (OpenSpec.ofChange fnIsSpaceExactlyFourBlankBytesSpec)

/-- ITS FALSE NEIGHBOUR: 'it returns false'. Refute it at one input. -/
def fnIsSpaceExactlyFourBlankBytesWrong : ChangeSpec := { name := "fnIsSpaceExactlyFourBlankBytes", fn := fun _ => fun
  | [d] => { results := [.lit (.bool false)], args := [d] }
  | _ => none }
def FnIsSpaceExactlyFourBlankBytesWrongFalsely : Prop := fnIsSpaceExactlyFourBlankBytesRow.holds Try.pinned (OpenSpec.ofChange fnIsSpaceExactlyFourBlankBytesWrong)

end Rows
end Go.Proofs.Qxb6614070a
