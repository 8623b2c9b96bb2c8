/- fmt's two stopped functions, fmt.Errorf and (*scanner).errorf at this program: an error that is not nil. -/
import Derived.Test.Qxb6614070aFmtSmall
import Derived.Stop.CallBack
import Derived.Stop.IfaceNil
import Derived.WalkSpells
import Derived.Deep.RegionHeld3
namespace Go.Proofs.Qxb6614070aFmt.Nx
open Go.RowKit Go.Extern.Stop Go.Stop Go.Extern
set_option linter.unusedVariables false

/-- 'it ends within the document' -/
def endsB : ByteArray := ⟨#[105, 116, 32, 101, 110, 100, 115, 32, 119, 105, 116, 104, 105, 110, 32, 116, 104, 101, 32, 100, 111, 99, 117, 109, 101, 110, 116]⟩

theorem call14 (args : Array Value) (w : World) : (callFunc 14 args).run Tryf.prog w = ((FmtStop.sprintf #[9, 48] #[9] args).run Tryf.prog w).andThen fun v w' => .ok (.value v) w' :=
  run_callFunc_extern Tryf.func14 (by kernel_rfl) (by kernel_rfl) (by kernel_rfl) (by kernel_rfl) args w
theorem call15 (args : Array Value) (w : World) : (callFunc 15 args).run Tryf.prog w = ((FmtStop.errorf #[9, 48] #[28] args).run Tryf.prog w).andThen fun v w' => .ok (.value v) w' :=
  run_callFunc_extern Tryf.func15 (by kernel_rfl) (by kernel_rfl) (by kernel_rfl) (by kernel_rfl) args w
theorem guards (name : String) (w : World) : (FmtStop.guard name).run Tryf.prog w = .ok () w := by kernel_rfl
theorem fmtEnds : FmtStop.printed? ⟨#[105, 116, 32, 101, 110, 100, 115, 32, 119, 105, 116, 104, 105, 110, 32, 116, 104, 101, 32, 100, 111, 99, 117, 109, 101, 110, 116]⟩ 0 = some [] := by kernel_rfl
theorem fmtAt (w : World) : (FmtDoors.printed ⟨#[97, 116, 32, 98, 121, 116, 101, 32, 37, 100, 58, 32, 37, 115]⟩ 2).run Tryf.prog w = .ok [(0, 100, false), (1, 115, false)] w := by kernel_rfl
def shape2 : List UInt8 := [5, 5, 0, 0, 0, 0, 0, 0, 0, 105, 110, 116, 54, 52]
def shape9 : List UInt8 := [12, 6, 0, 0, 0, 0, 0, 0, 0, 115, 116, 114, 105, 110, 103]
theorem op2 (name : String) (x : Int) (w : World) : (FmtStop.operand name true 100 false (.iface 2 (.int .i64 x))).run Tryf.prog w = .ok (shape2, Go.Extern.Stop.digits 8 (x % 2 ^ 64).toNat) w := by kernel_rfl
theorem op9 (name : String) (x : ByteArray) (w : World) : (FmtStop.operand name true 115 false (.iface 9 (.string x))).run Tryf.prog w = .ok (shape9, FmtStop.pack x.data.toList) w := by kernel_rfl
theorem ptr52 (w : World) : (FmtStop.ptrTo "errors.errorString").run Tryf.prog w = .ok 52 w := by kernel_rfl
theorem elem52 (w : World) : (elemOf 52).run Tryf.prog w = .ok 54 w := by kernel_rfl

set_option maxHeartbeats 1000000 in
theorem errorf13 (F : Interp) (k : Nat) (x : Int) (s : ByteArray) (w : World) (hF : F.answers w.tape) (c0 : w.cell? ⟨k, 0, none⟩ = some (.iface 2 (.int .i64 x))) (c1 : w.cell? ⟨k, 1, none⟩ = some (.iface 9 (.string s))) :
    Calls Tryf.prog 13 #[.string ⟨#[97, 116, 32, 98, 121, 116, 101, 32, 37, 100, 58, 32, 37, 115]⟩, .slice (some ⟨k, 0, none⟩) 2 2] w fun e w' => e = .returned (.iface 52 (.pointer (some ⟨w.heap.size, 0, none⟩))) ∧ Below w.heap.size w w' := by
  have hF' := answers_open hF
  have q1 := call15
  have q2 := guards
  have q3 := fmtAt
  have q4 := op2
  have q5 := op9
  have q6 := ptr52
  have q7 := elem52
  go_enter Tryf.func13, Tryf.ntmps13
  go_wp2
  go_ret
  exact ⟨rfl, ((Below.refl _ _).alloc (Nat.le_refl _) _).drew⟩

/-- The scanner's ten cells (its copy is nil here). -/
def scn (R SB bl cap : Nat) (at_ st : Int) (en : Bool) : Array Value :=
  #[.iface 33 (.pointer (some ⟨R, 0, none⟩)), .nilIface, .slice (some ⟨SB, 0, none⟩) bl cap, .int .i64 at_, .int .i64 st, .bool en, .int .i64 0, .nilIface, .nilIface, .slice none 0 0]

set_option maxHeartbeats 3200000 in
set_option maxRecDepth 100000 in
theorem errorf12 (F : Interp) (S R SB bl cap : Nat) (at_ st : Int) (en : Bool) (w : World) (hF : F.answers w.tape) (hS : w.heap[S]? = some (.cells (scn R SB bl cap at_ st en) 40 (0, 0))) :
    Calls Tryf.prog 12 #[.pointer (some ⟨S, 0, none⟩), .string ⟨#[105, 116, 32, 101, 110, 100, 115, 32, 119, 105, 116, 104, 105, 110, 32, 116, 104, 101, 32, 100, 111, 99, 117, 109, 101, 110, 116]⟩, .slice none 0 0] w fun e w' => (∃ p, e = .returned (.iface 52 (.pointer (some p)))) ∧ Below w.heap.size w w' := by
  have c3 : w.cell? ⟨S, 3, none⟩ = some (.int .i64 at_) := by rw [Lib.cell_of_heap hS]; rfl
  have c4 : w.cell? ⟨S, 4, none⟩ = some (.int .i64 st) := by rw [Lib.cell_of_heap hS]; rfl
  have hSl := Lib.lt_of_heap hS
  have hF' := answers_open hF
  have q1 := call14
  have q2 := guards
  have q3 := fmtEnds
  clear hS
  go_enter Tryf.func12, Tryf.ntmps12
  go_wp2
  go_region_held3 (fun w' => w'.cell? ⟨S, 3, none⟩ = some (.int .i64 at_) ∧ w'.cell? ⟨S, 4, none⟩ = some (.int .i64 st)) (go_keep)
    (first
      | (go_at_call 13
         refine (errorf13 F _ (IntKind.i64.wrap (st + at_)) (FmtStop.textOf (F "fmt.Sprintf" [[105, 116, 32, 101, 110, 100, 115, 32, 119, 105, 116, 104, 105, 110, 32, 116, 104, 101, 32, 100, 111, 99, 117, 109, 101, 110, 116]] 0)) _ (by exact hF) (by go_simp) (by go_simp)).mono ?_
         rintro e w2 ⟨rfl, hb⟩
         have g3 : w2.cell? ⟨S, 3, none⟩ = some (.int .i64 at_) := (hb.cell (p := ⟨S, 3, none⟩) (by simp; omega)).trans (by go_simp)
         have g4 : w2.cell? ⟨S, 4, none⟩ = some (.int .i64 st) := (hb.cell (p := ⟨S, 4, none⟩) (by simp; omega)).trans (by go_simp)))
  all_goals (go_wp2; go_ret)
  all_goals exact ⟨⟨_, rfl⟩, (((Below.refl _ w).alloc (Nat.le_refl _) _).drew.drew).trans (hb.mono (by simp))⟩

end Go.Proofs.Qxb6614070aFmt.Nx
