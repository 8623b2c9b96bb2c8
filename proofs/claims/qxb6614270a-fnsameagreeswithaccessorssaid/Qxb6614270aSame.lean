/- (Value).Same at the values that the laws make. -/
import Derived.Test.Qxb6614270aCalls
namespace Go.Proofs.Qxb6614270a.Ad
open Go.RowKit
set_option linter.unusedVariables false

set_option maxHeartbeats 1000000 in
/-- Of two kinds: never the same. -/
theorem same_kinds (k n k' n' : Int) (x x' : Value) (w : World) (hx : x.oneCell' = true) (hx' : x'.oneCell' = true) (hk : (k != k') = true) :
    Calls Try.prog 15 #[val k n x, val k' n' x'] w fun e w' => e = .returned (.bool false) ∧ w' = (w.alloc (obj k n x)).alloc (obj k' n' x') := by
  go_enter Try.func15, Try.ntmps15
  go_wp2
  go_ret
  exact ⟨rfl, rfl⟩

theorem wrap_beq (i j : Int) (hi : (Lit.int .i64 i).wf = true) (hj : (Lit.int .i64 j).wf = true) : (IntKind.u64.wrap i == IntKind.u64.wrap j) = (i == j) := by
  by_cases h : i = j
  · subst h; simp
  · have h1 : (i == j) = false := by simpa using h
    have h2 : (IntKind.u64.wrap i == IntKind.u64.wrap j) = false := by
      rw [beq_eq_false_iff_ne]
      exact fun e => h (wrap_same i j hi hj e)
    rw [h1, h2]

set_option maxHeartbeats 1000000 in
/-- Of one kind that is neither a string's nor a list's nor a record's. -/
theorem same_plain (k n n' : Int) (x x' : Value) (w : World) (hx : x.oneCell' = true) (hx' : x'.oneCell' = true) (h5 : (k == 5) = false) (h6 : (k == 6) = false) (h7 : (k == 7) = false) :
    Calls Try.prog 15 #[val k n x, val k n' x'] w fun e w' => e = .returned (.bool (n == n')) ∧ w' = (w.alloc (obj k n x)).alloc (obj k n' x') := by
  by_cases hn : n = n'
  · subst hn
    go_enter Try.func15, Try.ntmps15
    go_wp2
    go_ret
    exact ⟨by simp, rfl⟩
  · have hn' : (n != n') = true := by simpa using hn
    have hn2 : (n == n') = false := by simpa using hn
    rw [hn2]
    go_enter Try.func15, Try.ntmps15
    go_wp2
    go_ret
    exact ⟨rfl, rfl⟩

/-- Of Int(i) and Int(j). -/
theorem same_ints (i j : Int) (hi : (Lit.int .i64 i).wf = true) (hj : (Lit.int .i64 j).wf = true) (w : World) :
    Calls Try.prog 15 #[val 3 (IntKind.u64.wrap i) .nilIface, val 3 (IntKind.u64.wrap j) .nilIface] w fun e w' => e = .returned (.bool (i == j)) ∧ w' = (w.alloc (obj 3 (IntKind.u64.wrap i) .nilIface)).alloc (obj 3 (IntKind.u64.wrap j) .nilIface) := by
  rw [← wrap_beq i j hi hj]
  exact same_plain 3 _ _ _ _ w rfl rfl rfl rfl rfl

/-- Of the zero Value and itself. -/
theorem same_zero (w : World) : Calls Try.prog 15 #[val 0 0 .nilIface, val 0 0 .nilIface] w fun e w' => e = .returned (.bool true) ∧ w' = (w.alloc (obj 0 0 .nilIface)).alloc (obj 0 0 .nilIface) :=
  same_plain 0 0 0 _ _ w rfl rfl rfl rfl rfl

set_option maxHeartbeats 1000000 in
/-- Of two strings. -/
theorem same_strs (s t : ByteArray) (w : World) :
    Calls Try.prog 15 #[val 5 0 (.iface 9 (.string s)), val 5 0 (.iface 9 (.string t))] w fun e w' => e = .returned (.bool (s.toList == t.toList)) ∧
      w' = ((((w.alloc (obj 5 0 (.iface 9 (.string s)))).alloc (obj 5 0 (.iface 9 (.string t)))).alloc (obj 5 0 (.iface 9 (.string s)))).alloc (obj 5 0 (.iface 9 (.string t)))).drew := by
  go_enter Try.func15, Try.ntmps15
  go_wp2
  go_region_with (go_at_call 19; refine (str19_yes _ _ _ _).mono ?_; rintro e w' ⟨rfl, rfl⟩)
  all_goals (go_wp2; go_ret; exact ⟨rfl, rfl⟩)

end Go.Proofs.Qxb6614270a.Ad
