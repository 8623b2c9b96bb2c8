/-
  NARROWER THAN 'FOR EVERY INPUT', by the rows' own cells (each row's printed sentence says how): FnNextPeeksWithoutPassing: laid.
  DERIVED. THE GIVEN ROWS OF THIS SEAT. 1 by the template 'for every input the law returns true; each argument reads behind the call as it read before'; 0 by the template 'total and deterministic' (their statements: Qxb6614070aFmtTotals.lean).
  GIVEN WITH THE SEED: the statements are not yours to turn. If you find one false, say at which input.
  Laid BY PROGRAM, IN A SANDBOX (cutbox-rows.mjs): the forced cells as the released guide's own fill.sh prints them over the translation 7f187fb6cd8501c6… (all of the seat's roots in one cut). By AI agents, Wed Nov 11 2026. No macro, syntax, notation, axiom, sorry.
-/
import Derived.Test.Qxb6614070aFmtChecked
import GoSem.Claim
import GoSem.ClaimJoined
import GoSem.ClaimMapViews
import Derived.JoinedTies
import Derived.KernelRfl
namespace Go.Proofs.Qxb6614070aFmt
/- THE CELL 'sum', in the pinned program and in every row, IS THE sha256 OF THE DUMP (.gsa) THAT Qxb6614070aFmtProg.lean LOADS. Nothing in Lean hashes anything: it is a label: what it is worth is what the hold of that sum in a sandbox is worth. -/
noncomputable def Tryf.pinned : Pinned := { name := "qxb6614070afmt", sum := "7f187fb6cd8501c62eb699860da9535a2e015f9ae727d1eabc5c4c5d58b8d081", checked := Tryf.checked }
namespace Rows
def none {H : Type} : Left H := { results := [], args := [] }

/- WHAT THE LISTED PACKAGE-LEVEL VARIABLES READ AS WHEN THE CALL BEGINS. Each datum BY PROGRAM (the guide's laid-datum.mjs) off the statement by which the dump's own 'gosem.cut.vars' lays the variable. In a bare row this is a premise. The card (Qxb6614070aFmtCards.lean) ties it to the program's text. -/
def laid_io_EOF {H : Type} : DataW H := .iface "*errors.errorString" (.ptr (.agg [.lit (.string [69, 79, 70])]))

/-- 'zzlaws_client_b1.FnNextPeeksWithoutPassing': WHATEVER THE INPUT: true; the input reads as it did. -/
def fnNextPeeksWithoutPassingSpec : ChangeSpec := { name := "fnNextPeeksWithoutPassing", fn := fun _ => fun
  | [d1, d2, d3, d4, d5, d6] => { results := [.lit (.bool true)], args := [d1, d2, d3, d4, d5, d6] }
  | _ => none }
def fnNextPeeksWithoutPassingRow : OpenClaim := { program := "qxb6614070afmt", sum := "7f187fb6cd8501c62eb699860da9535a2e015f9ae727d1eabc5c4c5d58b8d081", func := "example.com/rollcall/rollcall/zzlaws_client_b1.FnNextPeeksWithoutPassing", spec := "fnNextPeeksWithoutPassing", stops := ["fmt.Sprintf", "fmt.errorf"], inPlace := ["fmt.Sprintf", "fmt.errorf"], unfollowed := true, recurses := true, named := ["io.EOF"], apart := false, laid := [("io.EOF", laid_io_EOF)] }
/-- NO THEOREM (fmt's text is open here; it may be false): for the released tool's asking of the row's closed facts alone. THE STATEMENT IS 'FnNextPeeksWithoutPassingToldSaid' (Qxb6614070aFmtCards.lean). -/
def FnNextPeeksWithoutPassingFormAsk : Prop := fnNextPeeksWithoutPassingRow.holds Tryf.pinned (OpenSpec.ofChange fnNextPeeksWithoutPassingSpec)

/-- ITS FALSE NEIGHBOUR: 'it returns false'. Refute it at one input. -/
def fnNextPeeksWithoutPassingWrong : ChangeSpec := { name := "fnNextPeeksWithoutPassing", fn := fun _ => fun
  | [d1, d2, d3, d4, d5, d6] => { results := [.lit (.bool false)], args := [d1, d2, d3, d4, d5, d6] }
  | _ => none }
def FnNextPeeksWithoutPassingWrongFormAsk : Prop := fnNextPeeksWithoutPassingRow.holds Tryf.pinned (OpenSpec.ofChange fnNextPeeksWithoutPassingWrong)

end Rows
end Go.Proofs.Qxb6614070aFmt
