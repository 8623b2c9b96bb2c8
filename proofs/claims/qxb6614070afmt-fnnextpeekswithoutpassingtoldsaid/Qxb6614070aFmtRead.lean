/- (*bytes.Reader).Read and bytes.NewReader at this program. -/
import Derived.Test.Qxb6614070aFmtRows
import Derived.Lib.ByteType
import Derived.Lib.Walk
import Derived.Lib.Buffer
import Derived.Lib.BufferOwn
import Derived.Lib.BufferSrc
import Derived.Lib.BufferWrite
import Derived.Lib.Hide
import Derived.Laws.CopyRow
import Derived.Laws.IdiomCopy
import Derived.Laws.MakeOwn
import Derived.WalkKit
import Derived.OwnWalk
import Derived.RegionTactic
import Derived.Deep.RegionWith
import Derived.Deep.Draws
import Derived.BigCall
import Derived.BigGuard
import Derived.BigQuiet
import Derived.BigRegion
import Derived.Deep.QuietTactic
namespace Go.Proofs.Qxb6614070aFmt.Nx
open Go.RowKit

theorem size5 : (Tryf.prog.info? 5).map (·.size) = some 1 := by kernel_rfl
theorem info5 : ∃ i, Tryf.prog.info? 5 = some i ∧ i.zero = some (.int .u8 0) ∧ i.size = 1 ∧ i.bytes = 1 := by
  have h : ((Tryf.prog.info? 5).map fun i => (i.zero, i.size, i.bytes)) = some (some (.int .u8 0), 1, 1) := by kernel_rfl
  cases hq : Tryf.prog.info? 5 with
  | none => rw [hq] at h; cases h
  | some i =>
    rw [hq] at h
    simp only [Option.map_some, Option.some.injEq, Prod.mk.injEq] at h
    exact ⟨i, rfl, h.1, h.2.1, h.2.2⟩


/-- All old blocks stand but a and b. -/
structure Kept2 (a b : Nat) (w w' : World) : Prop where
  os : w'.os = w.os
  tape : w'.tape = w.tape
  output : w'.output = w.output
  size : w'.heap.size = w.heap.size
  block : ∀ k, k ≠ a → k ≠ b → w'.heap[k]? = w.heap[k]?

set_option maxHeartbeats 1000000 in
theorem read_end (r pos n c : Nat) (ao : Option Addr) (pr : Int) (ev p : Value) (tp : TypeId) (hev : ev = .iface tp p) (dst : Value) (w : World) (hr : w.heap[r]? = some (.cells #[.slice ao n c, .int .i64 (pos : Int), .int .i64 pr] 43 (0, 0)))
    (hpos : n ≤ pos) (hg : w.cell? ⟨0, 0, none⟩ = some ev) :
    Calls Tryf.prog 33 #[.pointer (some ⟨r, 0, none⟩), dst] w fun e w' => e = .returned (.tuple #[.int .i64 0, ev]) ∧ ∃ k, w' = w.drewN k := by
  subst hev
  have c0 : w.cell? ⟨r, 0, none⟩ = some (.slice ao n c) := by rw [Lib.cell_of_heap hr]; rfl
  have c1 : w.cell? ⟨r, 1, none⟩ = some (.int .i64 (pos : Int)) := by rw [Lib.cell_of_heap hr]; rfl
  have hle : (n : Int) ≤ (pos : Int) := by omega
  go_enter Tryf.func33, Tryf.ntmps33
  go_wp2
  go_region
  all_goals (go_wp2; go_region)
  all_goals (go_wp2; go_ret2; exact ⟨rfl, 2, rfl⟩)

set_option maxHeartbeats 3200000 in
set_option maxRecDepth 100000 in
theorem read_some (r sb pos n c dLen dCap m : Nat) (a : Addr) (pr : Int) (cur : Array Value) (xs : List Value) (w : World) (hr : w.heap[r]? = some (.cells #[.slice (some a) n c, .int .i64 (pos : Int), .int .i64 pr] 43 (0, 0)))
    (hnc : n ≤ c) (hc : c ≤ maxLen) (hpos : pos < n) (hsb : w.heap[sb]? = some (.cells cur 5 (0, 0))) (hd : dLen ≤ cur.size) (hm : m = min (n - pos) dLen) (hrs : r ≠ sb) (hra : a.block ≠ r) (hasp : a.spot = none)
    (hxl : xs.length = n) (hsrc : ∀ j v, xs[j]? = some v → w.cell? (a.add j) = some v) (h1 : ∀ v ∈ xs, v.oneCell' = true) :
    Calls Tryf.prog 33 #[.pointer (some ⟨r, 0, none⟩), .slice (some ⟨sb, 0, none⟩) dLen dCap] w fun e w' => e = .returned (.tuple #[.int .i64 (m : Int), .nilIface]) ∧
      w'.heap[r]? = some (.cells #[.slice (some a) n c, .int .i64 ((pos + m : Nat) : Int), .int .i64 (-1)] 43 (0, 0)) ∧
      w'.heap[sb]? = some (.cells ((xs.drop pos).take m ++ cur.toList.drop m).toArray 5 (0, 0)) ∧ Kept2 r sb w w' := by
  obtain ⟨ab, aoff, asp⟩ := a
  simp only at hra hasp
  subst hasp
  have hc' := hc
  unfold maxLen at hc
  have c0 : w.cell? ⟨r, 0, none⟩ = some (.slice (some ⟨ab, aoff, none⟩) n c) := by rw [Lib.cell_of_heap hr]; rfl
  have c1 : w.cell? ⟨r, 1, none⟩ = some (.int .i64 (pos : Int)) := by rw [Lib.cell_of_heap hr]; rfl
  have c2 : w.cell? ⟨r, 2, none⟩ = some (.int .i64 pr) := by rw [Lib.cell_of_heap hr]; rfl
  have f1 : w.frozen? ⟨r, 1, none⟩ = false := Lib.frozen_of_heap hr 1
  have f2 : w.frozen? ⟨r, 2, none⟩ = false := Lib.frozen_of_heap hr 2
  have hle : (pos : Int) < (n : Int) := by omega
  have hcl : ((xs.drop pos).take m).length = m := by rw [List.length_take, List.length_drop]; omega
  have hcp := run_copy_row (P := Tryf.prog) (w.setCell ⟨r, 2, none⟩ (.int .i64 (-1))).drew.drew 22 22 3 5 sb 0 dLen dCap ⟨ab, aoff + pos, none⟩ (n - pos) (c - pos) cur 5 ((xs.drop pos).take m) Tryf.underlying22 size5
    (by show (w.setCell ⟨r, 2, none⟩ (.int .i64 (-1))).heap[sb]? = _; rw [Below.heap_setCell _ _ _ _ (Ne.symm hrs)]; exact hsb) (by rw [hcl, hm])
    (by
      intro j v hj
      show (w.setCell ⟨r, 2, none⟩ (.int .i64 (-1))).cell? _ = _
      rw [Lib.addr_add]
      rw [World.cell?_of_block (w := w) (Below.heap_setCell _ _ _ _ hra)]
      rw [List.getElem?_take] at hj
      split at hj
      · rw [List.getElem?_drop] at hj
        have := hsrc (pos + j) v hj
        rw [Lib.addr_add] at this
        rw [Nat.add_assoc]; exact this
      · cases hj)
    (by rw [hcl]; omega) (fun v hv => h1 v (List.mem_of_mem_drop (List.mem_of_mem_take hv)))
  rw [hcl] at hcp
  simp only [List.take_zero, List.nil_append, Nat.zero_add] at hcp
  obtain ⟨W, hW⟩ : ∃ W, W = (w.setCell ⟨r, 2, none⟩ (.int .i64 (-1))).drew.drew.setRow sb ((xs.drop pos).take m ++ cur.toList.drop m).toArray := ⟨_, rfl⟩
  rw [← hW] at hcp
  have hWr : W.heap[r]? = some (.cells #[.slice (some ⟨ab, aoff, none⟩) n c, .int .i64 (pos : Int), .int .i64 (-1)] 43 (0, 0)) := by
    rw [hW, setRow_other _ _ _ _ hrs]
    exact Lib.heap_setCell_same (i := 2) hr _
  have hWs : W.heap[sb]? = some (.cells ((xs.drop pos).take m ++ cur.toList.drop m).toArray 5 (0, 0)) := by
    rw [hW]
    exact setRow_heap _ sb cur _ 5 (0, 0) (by show (w.setCell ⟨r, 2, none⟩ (.int .i64 (-1))).heap[sb]? = _; rw [Below.heap_setCell _ _ _ _ (Ne.symm hrs)]; exact hsb)
  have hWk : Kept2 r sb w W := by
    rw [hW]
    refine ⟨rfl, rfl, rfl, by simp [World.setCell], fun k h1 h2 => ?_⟩
    rw [setRow_other _ _ _ _ h2]
    exact Below.heap_setCell _ _ _ _ h1
  have e1 : W.cell? ⟨r, 1, none⟩ = some (.int .i64 (pos : Int)) := by rw [Lib.cell_of_heap hWr]; rfl
  have g1 : W.frozen? ⟨r, 1, none⟩ = false := Lib.frozen_of_heap hWr 1
  have hmn : pos + m ≤ n := by omega
  have HR := Lib.hid hWr
  have HS := Lib.hid hWs
  have HK := Lib.hid hWk
  clear hsrc hxl hm hcl h1 hW hWr hWs hWk hsb hr
  go_enter Tryf.func33, Tryf.ntmps33
  go_wp2
  go_region
  all_goals (go_wp2; go_region)
  all_goals (go_wp2; go_ret2; refine ⟨rfl, ?_, ?_, ?_⟩)
  · have := Lib.heap_setCell_same (i := 1) HR.out (.int .i64 ((pos : Int) + (m : Int)))
    rw [show ((pos + m : Nat) : Int) = (pos : Int) + (m : Int) by omega]
    exact this
  · rw [Below.heap_setCell _ _ _ _ (Ne.symm hrs)]; exact HS.out
  · have hk := HK.out
    exact ⟨hk.os, hk.tape, hk.output, by simpa [World.setCell] using hk.size, fun k h1 h2 => (Below.heap_setCell _ _ _ _ h1).trans (hk.block k h1 h2)⟩

end Go.Proofs.Qxb6614070aFmt.Nx
