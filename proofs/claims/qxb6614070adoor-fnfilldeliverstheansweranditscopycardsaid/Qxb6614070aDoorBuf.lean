/- (*bytes.Buffer).Len, tryGrowByReslice, grow, Write, Bytes at this program, with the frame told exactly (which block may turn). After the guide's shelf (Derived/Shelf/Bytes/), turned to this program's numbers. -/
import Derived.Test.Qxb6614070aDoorGrow
import Derived.Lib.BufferOwn
import Derived.Lib.BufferSrc
import Derived.Lib.BufferWrite
import Derived.Laws.MakeOwn
import Derived.RegionTactic
import Derived.Deep.RegionWith
import Derived.Deep.Draws
import Derived.BigCall
import Derived.BigGuard
namespace Go.Proofs.Qxb6614070aDoor.Buf
open Go.RowKit

set_option maxHeartbeats 1000000 in
theorem tryGrow_room (b : Nat) (ao : Option Addr) (l cap n : Nat) (w : World) (c0 : w.cell? ⟨b, 0, none⟩ = some (.slice ao l cap)) (f0 : w.frozen? ⟨b, 0, none⟩ = false)
    (hlc : l ≤ cap) (hcap : cap ≤ maxLen) (hn : n ≤ cap - l) :
    Calls Tryd.prog 73 #[.pointer (some ⟨b, 0, none⟩), .int .i64 n] w fun e w' => e = .returned (.tuple #[.int .i64 l, .bool true]) ∧ w' = w.setCell ⟨b, 0, none⟩ (.slice ao (l + n) cap) := by
  unfold maxLen at hcap
  go_enter Tryd.func73, Tryd.ntmps73
  go_wp2
  go_ret2
  exact ⟨rfl, rfl⟩

set_option maxHeartbeats 1000000 in
theorem tryGrow_none (b : Nat) (ao : Option Addr) (l cap n : Nat) (w : World) (c0 : w.cell? ⟨b, 0, none⟩ = some (.slice ao l cap))
    (hlc : l ≤ cap) (hcap : cap ≤ maxLen) (hn : cap - l < n) :
    Calls Tryd.prog 73 #[.pointer (some ⟨b, 0, none⟩), .int .i64 n] w fun e w' => e = .returned (.tuple #[.int .i64 0, .bool false]) ∧ w' = w := by
  unfold maxLen at hcap
  go_enter Tryd.func73, Tryd.ntmps73
  go_wp2
  go_ret2
  exact ⟨rfl, rfl⟩

set_option maxHeartbeats 1000000 in
theorem len_any (b : Nat) (ao : Option Addr) (l cap : Nat) (w : World) (c0 : w.cell? ⟨b, 0, none⟩ = some (.slice ao l cap)) (c1 : w.cell? ⟨b, 1, none⟩ = some (.int .i64 0)) (hmax : l ≤ maxLen) :
    Calls Tryd.prog 75 #[.pointer (some ⟨b, 0, none⟩)] w fun e w' => e = .returned (.int .i64 l) ∧ ∃ n, w' = w.drewN n := by
  unfold maxLen at hmax
  go_enter Tryd.func75, Tryd.ntmps75
  go_wp2
  go_region
  all_goals (go_wp2; go_ret; exact ⟨by simp, 1, rfl⟩)

/-- What grow leaves: the struct's 'buf' is the head of a NEW row that begins with the old bytes; no other old block turns. -/
def Grew (b l n : Nat) (lr : Int) (bs : List Value) (w w' : World) : Prop :=
  ∃ g cap cur, w.heap.size ≤ g ∧ w'.heap[b]? = some (.cells #[.slice (some ⟨g, 0, none⟩) (l + n) cap, .int .i64 0, .int .i8 lr] 54 (0, 0)) ∧ w'.heap[g]? = some (.cells cur 5 (0, 0)) ∧
    cur.size = cap ∧ l + n ≤ cap ∧ cap ≤ maxLen ∧ cur.toList.take l = bs ∧ w.grownBy w' (some b)

theorem grew_end {b N l n cap2 : Nat} {lr : Int} {w w2 : World} {v0 : Value} {cells : Array Value} {bs : List Value}
    (hbk2 : w2.heap[b]? = some (.cells #[v0, .int .i64 0, .int .i8 lr] 54 (0, 0))) (hN : w2.heap[N]? = some (.cells cells 5 (0, 0))) (hBN : w.heap.size ≤ N) (hNb : N ≠ b)
    (hcsz : cells.size = cap2) (htk : cells.toList.take l = bs) (hcap2 : l + n ≤ cap2) (hcm2 : cap2 ≤ maxLen) (hg : w.grownBy w2 (some b)) (v1 : Value) :
    Grew b l n lr bs w (((w2.setCell ⟨b, 0, none⟩ v1).setCell ⟨b, 1, none⟩ (.int .i64 0)).setCell ⟨b, 0, none⟩ (.slice (some ⟨N, 0, none⟩) (l + n) cap2)) := by
  refine ⟨N, cap2, cells, hBN, Lib.heap_setCell_same (i := 0) (Lib.heap_setCell_same (i := 1) (Lib.heap_setCell_same (i := 0) hbk2 v1) (.int .i64 0)) _, ?_, hcsz, hcap2, hcm2, htk, Lib.grownBy_setB (Lib.grownBy_setB (Lib.grownBy_setB hg 0 _) 1 _) 0 _⟩
  rw [Below.heap_setCell _ _ _ _ hNb, Below.heap_setCell _ _ _ _ hNb, Below.heap_setCell _ _ _ _ hNb]
  exact hN

set_option maxHeartbeats 3200000 in
set_option maxRecDepth 100000 in
theorem grow_nil_small (b n : Nat) (lr : Int) (w : World)
    (hbk : w.heap[b]? = some (.cells #[.slice none 0 0, .int .i64 0, .int .i8 lr] 54 (0, 0))) (hn : 1 ≤ n) (h64 : n ≤ 64) :
    Calls Tryd.prog 74 #[.pointer (some ⟨b, 0, none⟩), .int .i64 n] w fun e w' => e = .returned (.int .i64 0) ∧ Grew b 0 n lr [] w w' := by
  obtain ⟨i0, hi, hz0, hz1, hz2⟩ := info5
  obtain ⟨M, hM⟩ : ∃ M, M = madeCells (Value.int .u8 0).cells ((64 : Int).toNat * i0.size) := ⟨_, rfl⟩
  have hMs : M.size = 64 := by rw [hM, size_madeCells, hz1]; rfl
  have hmk : ∀ W : World, (Instr.makeSlice 22 (.int .i64 (n : Int)) (.int .i64 64)).run Tryd.prog W = .ok (.slice (some ⟨W.heap.size, 0, none⟩) n 64) (W.alloc (.cells M 5)) := fun W => by
    have h := run_makeSlice (P := Tryd.prog) W 22 5 i0 (.int .u8 0) Tryd.underlying22 hi hz0 .i64 .i64 (n : Int) 64 (by omega) (by omega) (by rw [hz1]; decide) (by rw [hz2]; decide) (by decide)
    rw [← hM] at h
    simpa using h
  clear hM hi hz0 hz1 hz2
  have HM := Lib.hid hMs
  clear hMs
  have hnil : ∀ W, (binOp .eql 22 (.slice none 0 0) (.slice none 0 0)).run Tryd.prog W = .ok (.bool true) W := fun W => Lib.run_eql_slice_nil_nil W _ _ Tryd.underlying22
  have d0 : w.cell? ⟨b, 0, none⟩ = some (.slice none 0 0) := by rw [Lib.cell_of_heap hbk]; rfl
  have d1 : w.cell? ⟨b, 1, none⟩ = some (.int .i64 0) := by rw [Lib.cell_of_heap hbk]; rfl
  go_enter Tryd.func74, Tryd.ntmps74
  go_wp2_with (go_at_call 75; refine (len_any b none 0 0 _ ?_ ?_ (Nat.zero_le _)).mono ?_)
  · exact d0
  · exact d1
  rintro e W0 ⟨rfl, k, hW0⟩
  have hbk0 : W0.heap[b]? = some (.cells #[.slice none 0 0, .int .i64 0, .int .i8 lr] 54 (0, 0)) := by rw [hW0]; exact hbk
  have c0 : W0.cell? ⟨b, 0, none⟩ = some (.slice none 0 0) := by rw [Lib.cell_of_heap hbk0]; rfl
  have c1 : W0.cell? ⟨b, 1, none⟩ = some (.int .i64 0) := by rw [Lib.cell_of_heap hbk0]; rfl
  have f0 : W0.frozen? ⟨b, 0, none⟩ = false := Lib.frozen_of_heap hbk0 0
  have f1 : W0.frozen? ⟨b, 1, none⟩ = false := Lib.frozen_of_heap hbk0 1
  have hbW0 := Lib.lt_of_heap hbk0
  have c0a : ∀ o, (W0.alloc o).cell? ⟨b, 0, none⟩ = some (.slice none 0 0) := fun o => (World.cell?_of_block (a := ⟨b, 0, none⟩) (Below.heap_alloc W0 o b hbW0)).trans c0
  have f0a : ∀ o, (W0.alloc o).frozen? ⟨b, 0, none⟩ = false := fun o => (World.frozen?_of_block (a := ⟨b, 0, none⟩) (Below.heap_alloc W0 o b hbW0)).trans f0
  have HW0 := Lib.hid hW0
  clear hW0 d0 d1
  go_wp2_with (go_at_call 73; refine (tryGrow_none b _ 0 0 n _ c0 (Nat.le_refl _) (Nat.zero_le _) (by omega)).mono ?_; rintro e w' ⟨rfl, rfl⟩)
  go_ret
  have hsz0 : w'.heap.size = w.heap.size := by rw [HW0.out]; rfl
  have hg0 : w.grownBy w' (some b) := by rw [HW0.out]; exact ⟨rfl, rfl, rfl, Nat.le_refl _, fun _ _ _ => rfl⟩
  refine ⟨rfl, w'.heap.size, 64, M, by omega, ?_, ?_, HM.out, by omega, by unfold maxLen; omega, by simp, Lib.grownBy_allocR (Lib.grownBy_setB hg0 0 _) _⟩
  · rw [Below.heap_alloc _ _ b (by simpa [World.setCell] using hbW0)]
    have := Lib.heap_setCell_same (i := 0) hbk0 (.slice (some ⟨w'.heap.size, 0, none⟩) n 64)
    simpa using this
  · have h := heap_alloc_new (w'.setCell ⟨b, 0, none⟩ (.slice (some ⟨w'.heap.size, 0, none⟩) n 64)) (.cells M 5)
    have hsz : (w'.setCell ⟨b, 0, none⟩ (.slice (some ⟨w'.heap.size, 0, none⟩) n 64)).heap.size = w'.heap.size := by simp [World.setCell]
    rw [hsz] at h
    exact h

end Go.Proofs.Qxb6614070aDoor.Buf
