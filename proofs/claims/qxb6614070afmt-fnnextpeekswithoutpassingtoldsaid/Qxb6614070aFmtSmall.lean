/- The small functions on the road of FnFillDeliversTheAnswerAndItsCopy. -/
import Derived.Test.Qxb6614070aFmtRead
import Derived.LoopTactic
namespace Go.Proofs.Qxb6614070aFmt.Nx
open Go.RowKit

theorem zzBytes_yes (ao bo : Option Addr) (n c m d : Nat) (x y z : Int) (b : Bool) (w : World) (h : n + m ≤ 1048576) :
    Calls Tryf.prog 4 #[.slice ao n c, .slice bo m d, .int .i64 x, .int .i64 y, .int .i64 z, .bool b] w fun e w' => e = .returned (.bool true) ∧ w' = w := by
  go_enter Tryf.func4, Tryf.ntmps4
  go_wp2
  go_ret
  exact ⟨rfl, rfl⟩

theorem zzBytes_no (ao bo : Option Addr) (n c m d : Nat) (x y z : Int) (b : Bool) (w : World) (h : 1048576 < n + m) (hn : n ≤ maxLen) (hm : m ≤ maxLen) :
    Calls Tryf.prog 4 #[.slice ao n c, .slice bo m d, .int .i64 x, .int .i64 y, .int .i64 z, .bool b] w fun e w' => e = .returned (.bool false) ∧ w' = w := by
  unfold maxLen at hn hm
  by_cases h1 : 1048576 < n
  · go_enter Tryf.func4, Tryf.ntmps4
    go_wp2
    go_ret
    exact ⟨rfl, rfl⟩
  by_cases h2 : 1048576 < m
  · go_enter Tryf.func4, Tryf.ntmps4
    go_wp2
    go_ret
    exact ⟨rfl, rfl⟩
  · go_enter Tryf.func4, Tryf.ntmps4
    go_wp2
    go_ret
    exact ⟨rfl, rfl⟩

theorem newReader_any (ao : Option Addr) (n c : Nat) (w : World) :
    Calls Tryf.prog 9 #[.slice ao n c] w fun e w' => e = .returned (.pointer (some ⟨w.heap.size, 0, none⟩)) ∧ w' = w.alloc (.cells #[.slice ao n c, .int .i64 0, .int .i64 (-1)] 43) := by
  go_enter Tryf.func9, Tryf.ntmps9
  go_wp2
  go_ret
  exact ⟨rfl, rfl⟩

theorem clone_nil (w : World) : Calls Tryf.prog 5 #[.slice none 0 0] w fun e w' => e = .returned (.slice none 0 0) ∧ w' = w := by
  have hnil : ∀ W, (binOp .eql 22 (.slice none 0 0) (.slice none 0 0)).run Tryf.prog W = .ok (.bool true) W := fun W => Lib.run_eql_slice_nil_nil W _ _ Tryf.underlying22
  go_enter Tryf.func5, Tryf.ntmps5
  go_wp2
  go_ret
  exact ⟨rfl, rfl⟩

set_option maxHeartbeats 1000000 in
theorem clone_some (a : Addr) (n c : Nat) (xs : List Value) (w : World) (hn : n ≤ 1048576) (hxl : xs.length = n) (hsrc : ∀ j v, xs[j]? = some v → w.cell? (a.add j) = some v) (h1 : ∀ v ∈ xs, v.oneCell' = true) :
    Calls Tryf.prog 5 #[.slice (some a) n c] w fun e w' => e = .returned (.slice (some ⟨w.heap.size, 0, none⟩) n n) ∧ w'.heap[w.heap.size]? = some (.cells xs.toArray 5 (0, 0)) ∧ w'.heap.size = w.heap.size + 1 ∧ Below w.heap.size w w' := by
  obtain ⟨i0, hi, hz0, hz1, hz2⟩ := info5
  obtain ⟨M, hM⟩ : ∃ M, M = madeCells (Value.int .u8 0).cells ((n : Int).toNat * i0.size) := ⟨_, rfl⟩
  have hMs : M.size = n := by rw [hM, size_madeCells, hz1]; simp
  have hmk : (Instr.makeSlice 22 (.int .i64 (n : Int)) (.int .i64 (n : Int))).run Tryf.prog w = .ok (.slice (some ⟨w.heap.size, 0, none⟩) n n) (w.alloc (.cells M 5)) := by
    have h := run_makeSlice (P := Tryf.prog) w 22 5 i0 (.int .u8 0) Tryf.underlying22 hi hz0 .i64 .i64 (n : Int) (n : Int) (by omega) (by omega) (by rw [hz1]; omega) (by rw [hz2]; omega) (by omega)
    rw [← hM] at h
    simpa using h
  have hcp := run_copy_row (P := Tryf.prog) (w.alloc (.cells M 5)) 22 22 3 5 w.heap.size 0 n n a n c M 5 xs Tryf.underlying22 size5 (heap_alloc_new w _) (by rw [hxl]; exact (Nat.min_self n).symm)
    (fun j v hj => by
      have := hsrc j v hj
      have hlt := World.block_lt_of_cell? w _ this
      exact (World.cell?_of_block (Below.heap_alloc w _ _ hlt)).trans this) (by rw [hxl]; omega) h1
  rw [hxl] at hcp
  have hY : (M.toList.take 0 ++ xs ++ M.toList.drop (0 + n)).toArray = xs.toArray := by
    have : M.toList.drop (0 + n) = [] := List.drop_eq_nil_of_le (by rw [Array.length_toList]; omega)
    rw [this]; simp
  rw [hY] at hcp
  obtain ⟨W, hW⟩ : ∃ W, W = (w.alloc (.cells M 5)).setRow w.heap.size xs.toArray := ⟨_, rfl⟩
  rw [← hW] at hcp
  have hWh : W.heap[w.heap.size]? = some (.cells xs.toArray 5 (0, 0)) := by rw [hW]; exact setRow_heap _ _ M _ 5 (0, 0) (heap_alloc_new w _)
  have hWz : W.heap.size = w.heap.size + 1 := by rw [hW]; simp
  have hWb : Below w.heap.size w W := by rw [hW]; exact ⟨rfl, rfl, rfl, by simp, fun k hk => by rw [setRow_other _ _ _ _ (by omega)]; exact Below.heap_alloc w _ k hk⟩
  have H1 := Lib.hid hWh
  have H2 := Lib.hid hWz
  have H3 := Lib.hid hWb
  clear hW hWh hWz hWb hY hMs hM hz0 hz1 hz2 hi hsrc h1 hxl
  have hnil : ∀ W, (binOp .eql 22 (.slice (some a) n c) (.slice none 0 0)).run Tryf.prog W = .ok (.bool false) W := fun W => Lib.run_eql_slice_some_nil W _ _ _ Tryf.underlying22
  go_enter Tryf.func5, Tryf.ntmps5
  go_wp2
  go_ret
  exact ⟨rfl, H1.out, H2.out, H3.out⟩

set_option maxHeartbeats 1000000 in
theorem state_any (s : Nat) (v0 v1 v6 v9 : Value) (bo : Option Addr) (bl bc : Nat) (at_ st : Int) (en : Bool) (fl un : Value) (hfl : fl = .nilIface) (hun : un = .nilIface) (w : World)
    (hs : w.heap[s]? = some (.cells #[v0, v1, .slice bo bl bc, .int .i64 at_, .int .i64 st, .bool en, v6, fl, un, v9] 40 (0, 0))) :
    Calls Tryf.prog 8 #[.pointer (some ⟨s, 0, none⟩)] w fun e w' => e = .returned (.tuple #[.slice bo bl bc, .int .i64 at_, .int .i64 st, .bool en, fl, un]) ∧ ∃ k, w' = w.drewN k := by
  subst hfl hun
  have c2 : w.cell? ⟨s, 2, none⟩ = some (.slice bo bl bc) := by rw [Lib.cell_of_heap hs]; rfl
  have c3 : w.cell? ⟨s, 3, none⟩ = some (.int .i64 at_) := by rw [Lib.cell_of_heap hs]; rfl
  have c4 : w.cell? ⟨s, 4, none⟩ = some (.int .i64 st) := by rw [Lib.cell_of_heap hs]; rfl
  have c5 : w.cell? ⟨s, 5, none⟩ = some (.bool en) := by rw [Lib.cell_of_heap hs]; rfl
  have c7 : w.cell? ⟨s, 7, none⟩ = some .nilIface := by rw [Lib.cell_of_heap hs]; rfl
  have c8 : w.cell? ⟨s, 8, none⟩ = some .nilIface := by rw [Lib.cell_of_heap hs]; rfl
  clear hs
  go_enter Tryf.func8, Tryf.ntmps8
  go_wp2
  go_quiet (fail)
  go_wp2
  exact bodyPost_ret (v := .tuple #[.slice bo bl bc, .int .i64 at_, .int .i64 st, .bool en, .nilIface, .nilIface]) (by simp [results, Tryf.results8, go_sem]) rfl ⟨rfl, _, rfl⟩

end Go.Proofs.Qxb6614070aFmt.Nx
