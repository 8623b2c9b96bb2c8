/-
  DERIVED. GIVEN WITH THE SEED: THE CARDS: each row of Qxb6614070aFmtRows.lean that lists a variable, with what it lists TIED to the program's text (the seventh form; the later family's looks); each row that meets fmt, with fmt's text TOLD by the authors' own Lean function (tested against real Go, not proved from fmt's source: count such statements apart). THE CARD IS WHAT COUNTS. Prove the row's statement (the work); the ties are given (Qxb6614070aFmtTie.lean); close each card by the builder's one call (the guide's Derived/Test/ToyasCard.lean, 'card_holds'). Laid BY PROGRAM, IN A SANDBOX (cutbox-door.mjs). By AI agents, Wed Nov 11 2026. No macro, syntax, notation, axiom, sorry.
-/
import Derived.Test.Qxb6614070aFmtRows
import GoSem.ClaimSeven
namespace Go.Proofs.Qxb6614070aFmt
namespace Rows

/-- THE TOLD AND TIED CARD OF 'zzlaws_client_b1.FnNextPeeksWithoutPassing'. -/
def fnNextPeeksWithoutPassingCard : Claim7 := { stood := { row := fnNextPeeksWithoutPassingRow, standIns := [], harness := (true, "59c122348c0fbbfb0d3d3535631cc85390d3463ea370cae8688c7d0c8ac31b9e"), looks := true }, told := true, laidByText := true, laidKinds := [.sentinel], laidTests := true, laidLooks := .later, goes := false }
def FnNextPeeksWithoutPassingToldSaid : Prop := Claim7.holds Tryf.pinned (.plain (OpenSpec.ofChange fnNextPeeksWithoutPassingSpec)) fnNextPeeksWithoutPassingCard
/-- ITS FALSE NEIGHBOUR. Refute it at one input. -/
def FnNextPeeksWithoutPassingToldWrongFalsely : Prop := Claim7.holds Tryf.pinned (.plain (OpenSpec.ofChange fnNextPeeksWithoutPassingWrong)) fnNextPeeksWithoutPassingCard
end Rows
end Go.Proofs.Qxb6614070aFmt
