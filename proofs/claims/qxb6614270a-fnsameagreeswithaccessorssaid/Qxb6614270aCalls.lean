/- The contracts of classad's small functions: each leaves at most new blocks, told exactly. -/
import Derived.Test.Qxb6614270aRows
import Derived.WalkKit
import Derived.ProofKit
import Derived.BigQuiet
import Derived.Deep.QuietTactic
import Derived.Deep.Draws
import Derived.Deep.RegionWith
import Derived.RegionTactic
import Derived.Lib.Hide
namespace Go.Proofs.Qxb6614270a.Ad
open Go.RowKit
set_option linter.unusedVariables false

/-- A block that holds one Value. -/
abbrev obj (k n : Int) (x : Value) : Obj := .cells #[.int .u8 k, .int .u64 n, x] 26
/-- A Value by value. -/
abbrev val (k n : Int) (x : Value) : Value := .agg #[.int .u8 k, .int .u64 n, x]

theorem int9 (i : Int) (w : World) :
    Calls Try.prog 9 #[.int .i64 i] w fun e w' => e = .returned (val 3 (IntKind.u64.wrap i) .nilIface) ∧ w' = w.alloc (obj 3 (IntKind.u64.wrap i) .nilIface) := by
  go_enter Try.func9, Try.ntmps9
  go_wp2
  exact bodyPost_ret (v := val 3 (IntKind.u64.wrap i) .nilIface) (by simp [results, Try.results9, go_sem]) rfl ⟨rfl, rfl⟩

theorem str10 (s : ByteArray) (w : World) :
    Calls Try.prog 10 #[.string s] w fun e w' => e = .returned (val 5 0 (.iface 9 (.string s))) ∧ w' = w.alloc (obj 5 0 (.iface 9 (.string s))) := by
  go_enter Try.func10, Try.ntmps10
  go_wp2
  exact bodyPost_ret (v := val 5 0 (.iface 9 (.string s))) (by simp [results, Try.results10, go_sem]) rfl ⟨rfl, rfl⟩

theorem kind11 (k n : Int) (x : Value) (w : World) (hx : x.oneCell' = true) :
    Calls Try.prog 11 #[val k n x] w fun e w' => e = .returned (.int .u8 k) ∧ w' = w.alloc (obj k n x) := by
  go_enter Try.func11, Try.ntmps11
  go_wp2
  go_ret
  exact ⟨rfl, rfl⟩

theorem integer18 (k n : Int) (x : Value) (w : World) (hx : x.oneCell' = true) :
    Calls Try.prog 18 #[val k n x] w fun e w' => e = .returned (.int .i64 (wrap64 n)) ∧ w' = w.alloc (obj k n x) := by
  go_enter Try.func18, Try.ntmps18
  go_wp2
  go_ret
  exact ⟨rfl, rfl⟩

theorem as_yes (s : ByteArray) (W : World) : (Instr.typeAssert (.iface 9 (.string s)) 20 9 true).run Try.prog W = .ok (.tuple #[.string s, .bool true]) W := by kernel_rfl
theorem as_nil (W : World) : (Instr.typeAssert .nilIface 20 9 true).run Try.prog W = .ok (.tuple #[.string ⟨#[]⟩, .bool false]) W := by kernel_rfl

theorem str19_yes (k n : Int) (s : ByteArray) (w : World) :
    Calls Try.prog 19 #[val k n (.iface 9 (.string s))] w fun e w' => e = .returned (.string s) ∧ w' = w.alloc (obj k n (.iface 9 (.string s))) := by
  have q := as_yes s
  go_enter Try.func19, Try.ntmps19
  go_wp2
  go_ret
  exact ⟨rfl, rfl⟩

theorem str19_nil (k n : Int) (w : World) :
    Calls Try.prog 19 #[val k n .nilIface] w fun e w' => e = .returned (.string ⟨#[]⟩) ∧ w' = w.alloc (obj k n .nilIface) := by
  have q := as_nil
  go_enter Try.func19, Try.ntmps19
  go_wp2
  go_ret
  exact ⟨rfl, rfl⟩

theorem wrap_back (i : Int) (h : (Lit.int .i64 i).wf = true) : wrap64 (IntKind.u64.wrap i) = i := by
  have e1 : IntKind.i64.min = -9223372036854775808 := rfl
  have e2 : IntKind.i64.max = 9223372036854775807 := rfl
  simp [Lit.wf, e1, e2] at h
  simp only [wrap64, IntKind.wrap_u64]
  omega

theorem wrap_same (i j : Int) (hi : (Lit.int .i64 i).wf = true) (hj : (Lit.int .i64 j).wf = true) (h : IntKind.u64.wrap i = IntKind.u64.wrap j) : i = j := by
  rw [← wrap_back i hi, ← wrap_back j hj, h]

/-- The Int accessor of Int(i). -/
theorem int12_yes (i : Int) (hi : (Lit.int .i64 i).wf = true) (w : World) :
    Calls Try.prog 12 #[val 3 (IntKind.u64.wrap i) .nilIface] w fun e w' => e = .returned (.tuple #[.int .i64 i, .bool true]) ∧ w' = (w.alloc (obj 3 (IntKind.u64.wrap i) .nilIface)).alloc (obj 3 (IntKind.u64.wrap i) .nilIface) := by
  have HB := Lib.hid (wrap_back i hi)
  clear hi
  go_enter Try.func12, Try.ntmps12
  go_wp2_with (go_at_call 18; refine (integer18 _ _ _ _ rfl).mono ?_; rw [HB.out]; rintro e w' ⟨rfl, rfl⟩)
  go_ret2
  exact ⟨rfl, rfl⟩

/-- .. of a value that is no integer. -/
theorem int12_no (k n : Int) (x : Value) (w : World) (hx : x.oneCell' = true) (hk : (k != 3) = true) :
    Calls Try.prog 12 #[val k n x] w fun e w' => e = .returned (.tuple #[.int .i64 0, .bool false]) ∧ w' = w.alloc (obj k n x) := by
  go_enter Try.func12, Try.ntmps12
  go_wp2
  go_ret2
  exact ⟨rfl, rfl⟩

/-- The Str accessor. -/
theorem str13_yes (n : Int) (s : ByteArray) (w : World) :
    Calls Try.prog 13 #[val 5 n (.iface 9 (.string s))] w fun e w' => e = .returned (.tuple #[.string s, .bool true]) ∧ w' = ((w.alloc (obj 5 n (.iface 9 (.string s)))).alloc (obj 5 n (.iface 9 (.string s)))).drew := by
  go_enter Try.func13, Try.ntmps13
  go_wp2
  go_region_with (go_at_call 19; refine (str19_yes _ _ _ _).mono ?_; rintro e w' ⟨rfl, rfl⟩)
  all_goals (go_wp2; go_ret2; exact ⟨rfl, rfl⟩)

theorem str13_nil (k n : Int) (w : World) (hk : (k == 5) = false) :
    Calls Try.prog 13 #[val k n .nilIface] w fun e w' => e = .returned (.tuple #[.string ⟨#[]⟩, .bool false]) ∧ w' = ((w.alloc (obj k n .nilIface)).alloc (obj k n .nilIface)).drew := by
  go_enter Try.func13, Try.ntmps13
  go_wp2
  go_region_with (go_at_call 19; refine (str19_nil _ _ _).mono ?_; rintro e w' ⟨rfl, rfl⟩)
  all_goals (go_wp2; go_ret2; exact ⟨rfl, rfl⟩)

end Go.Proofs.Qxb6614270a.Ad
