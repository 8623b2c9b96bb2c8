/- bytes.growSlice at this program: a new row, its number told. After the guide's shelf (Derived/Shelf/Bytes/GrowSlice.lean), turned to this program's numbers. -/
import Derived.Test.Qxb6614070aDoorRows
import Derived.Lib.ByteType
import Derived.Lib.Walk
import Derived.Lib.Buffer
import Derived.Lib.AppendZeros
import Derived.Lib.Hide
import Derived.Laws.CopyRow
import Derived.Laws.IdiomCopy
import Derived.WalkKit
import Derived.OwnWalk
import Derived.Defers
import Derived.Recover
namespace Go.Proofs.Qxb6614070aDoor.Buf
open Go.RowKit

theorem size5 : (Tryd.prog.info? 5).map (·.size) = some 1 := by kernel_rfl
theorem info5 : ∃ i, Tryd.prog.info? 5 = some i ∧ i.zero = some (.int .u8 0) ∧ i.size = 1 ∧ i.bytes = 1 := by
  have h : ((Tryd.prog.info? 5).map fun i => (i.zero, i.size, i.bytes)) = some (some (.int .u8 0), 1, 1) := by kernel_rfl
  cases hq : Tryd.prog.info? 5 with
  | none => rw [hq] at h; cases h
  | some i =>
    rw [hq] at h
    simp only [Option.map_some, Option.some.injEq, Prod.mk.injEq] at h
    exact ⟨i, rfl, h.1, h.2.1, h.2.2⟩

theorem catch_idle (w : World) :
    CallsD Tryd.prog 77 #[] .returning w fun e u' w' => e = .returned (.tuple #[]) ∧ u' = .returning ∧ w' = w := by
  have hnn : ∀ w, (binOp .neq 20 .nilIface .nilIface).run Tryd.prog w = .ok (.bool false) w := fun w => Lib.run_neq_nil_nil w Tryd.underlying20
  refine callsD_of_wpS Tryd.func77 rfl fun c₀ cs hu => ?_
  apply wpS_seq
  apply wpS_region
  simp [wpOpsS, go_sem, recoverD, hu, hnn, Tryd.ntmps77, Exit.thenS]
  refine wpS_cond (t := false) (by simp [Act.eval, Array.replicate]) ?_
  simp only [Bool.false_eq_true, if_false]
  refine wpS_of_wp (wp_skip ?_)
  cases c₀
  simp_all [bodyPostS, results, Tryd.results77]

set_option maxHeartbeats 1600000 in
set_option maxRecDepth 100000 in
theorem growSlice_row (g l c n : Nat) (cur : Array Value) (w : World) (hg : w.heap[g]? = some (.cells cur 5 (0, 0))) (hcs : cur.size = c) (hlc : l ≤ c) (hn : 1 ≤ n)
    (hlim : l + n ≤ 140737488355328) (hc2 : c ≤ 140737488355328) (h1 : ∀ v ∈ cur.toList.take l, v.oneCell' = true) :
    Calls Tryd.prog 76 #[.slice (some ⟨g, 0, none⟩) l c, .int .i64 n] w fun e w' => ∃ cap2 cells, e = .returned (.slice (some ⟨w.heap.size, 0, none⟩) l cap2) ∧ w'.heap[w.heap.size]? = some (.cells cells 5 (0, 0)) ∧
      cells.size = cap2 ∧ cells.toList.take l = cur.toList.take l ∧ l + n ≤ cap2 ∧ cap2 ≤ maxLen ∧ Below w.heap.size w w' := by
  obtain ⟨i0, hi, hz0, hz1, hz2⟩ := info5
  have hmain : ∀ C : Nat, (C = 2 * c ∧ l + n < 2 * c ∨ C = l + n ∧ ¬ l + n < 2 * c) → ∃ cap2 Z Y, (Builtin.append_ #[22, 3] 22 #[.slice none 0 0, .int .i64 (C : Int)]).run Tryd.prog w = .ok (.slice (some ⟨w.heap.size, 0, none⟩) C cap2) (w.drew.alloc (.cells Z 5)) ∧
      C ≤ cap2 ∧ cap2 ≤ maxLen ∧ Z.size = cap2 ∧ (Builtin.copy_ #[22, 22] 3 #[.slice (some ⟨w.heap.size, 0, none⟩) C cap2, .slice (some ⟨g, 0, none⟩) l c]).run Tryd.prog (w.alloc (.cells Z 5)).drew = .ok (goInt l) ((w.alloc (.cells Z 5)).drew.setRow w.heap.size Y) ∧ Y.toList = cur.toList.take l ++ Z.toList.drop l := by
    intro C hC
    have happ := Lib.run_append_nil_zeros (P := Tryd.prog) w 22 3 22 5 i0 (.int .u8 0) .i64 .i64 Tryd.underlying22 Tryd.underlying3 hi hz0 C (by omega) (by omega) (by omega) (by rw [hz2]; omega)
    generalize hcap : grownCap w C 0 5 = cap2 at happ
    have hcapge : C ≤ cap2 := by rw [← hcap]; exact grownCap_ge w _ 0 5
    have hcaple : cap2 ≤ maxLen := by rw [← hcap]; exact grownCap_le_maxLen w _ 0 5 (by unfold maxLen; omega)
    generalize hZ : (Builtin.zeroCells (Value.int .u8 0).cells C ++ Builtin.zeroCells (Value.int .u8 0).cells (cap2 - C)) = Z at happ
    have hZs : Z.size = cap2 := by rw [← hZ]; simp [size_zeroCells, Value.cells]; omega
    clear hcap hZ
    have hgl := Lib.lt_of_heap hg
    have hg1 : (w.alloc (.cells Z 5)).drew.heap[g]? = some (.cells cur 5 (0, 0)) := by show (w.alloc (.cells Z 5)).heap[g]? = _; rw [RowKit.Below.heap_alloc w _ g hgl]; exact hg
    have hxl : (cur.toList.take l).length = l := by rw [List.length_take, Array.length_toList]; omega
    have hcopy := run_copy_row (P := Tryd.prog) (w.alloc (.cells Z 5)).drew 22 22 3 5 w.heap.size 0 C cap2 ⟨g, 0, none⟩ l c Z 5 (cur.toList.take l) Tryd.underlying22 size5 (heap_alloc_new w _) (by rw [hxl]; exact (Nat.min_eq_left (by omega)).symm) (Lib.cells_of_row hg1 l) (by rw [hxl]; omega) h1
    rw [hxl] at hcopy
    exact ⟨cap2, Z, _, happ, hcapge, hcaple, hZs, hcopy, by simp⟩
  by_cases hC : l + n < 2 * c
  · obtain ⟨cap2, Z, Y, happ, hcapge, hcaple, hZs, hcopy, hYl⟩ := hmain (2 * c) (Or.inl ⟨rfl, hC⟩)
    rw [show (((2 * c : Nat)) : Int) = 2 * (c : Int) by omega] at happ
    clear hmain
    have HY := Lib.hid hYl
    have HZ := Lib.hid hZs
    clear hYl hZs
    go_enter_defers Tryd.func76, Tryd.ntmps76
    go_wp2_with (at_builtin; refine Lib.wpList_append_run _ rfl _ _ _ _ rfl _ _ rfl rfl _ _ happ ?_)
    refine leaves_cons (f := 77) (args := #[]) (by simp) (by simp [go_sem]) ?_
    refine (catch_idle _).mono ?_
    rintro e u' w'' ⟨rfl, rfl, rfl⟩
    refine ⟨_, results_tmp rfl _ _ _, ?_⟩
    have hxl : (cur.toList.take l).length = l := by rw [List.length_take, Array.length_toList]; omega
    refine ⟨cap2, Y, rfl, setRow_heap _ _ Z Y 5 (0, 0) (heap_alloc_new w _), ?_, ?_, by omega, hcaple, ?_⟩
    · have : Y.toList.length = cap2 := by rw [HY.out, List.length_append, hxl, List.length_drop, Array.length_toList, HZ.out]; omega
      simpa using this
    · rw [HY.out, List.take_append_of_le_length (by rw [hxl]; exact Nat.le_refl _), List.take_of_length_le (by rw [hxl]; exact Nat.le_refl _)]
    · exact ⟨rfl, rfl, rfl, by simp, fun k hk => by rw [setRow_other _ _ _ _ (by omega)]; exact Below.heap_alloc w _ k hk⟩
  · obtain ⟨cap2, Z, Y, happ, hcapge, hcaple, hZs, hcopy, hYl⟩ := hmain (l + n) (Or.inr ⟨rfl, hC⟩)
    rw [show (((l + n : Nat)) : Int) = (l : Int) + (n : Int) by omega] at happ
    clear hmain
    have HY := Lib.hid hYl
    have HZ := Lib.hid hZs
    clear hYl hZs
    go_enter_defers Tryd.func76, Tryd.ntmps76
    go_wp2_with (at_builtin; refine Lib.wpList_append_run _ rfl _ _ _ _ rfl _ _ rfl rfl _ _ happ ?_)
    refine leaves_cons (f := 77) (args := #[]) (by simp) (by simp [go_sem]) ?_
    refine (catch_idle _).mono ?_
    rintro e u' w'' ⟨rfl, rfl, rfl⟩
    refine ⟨_, results_tmp rfl _ _ _, ?_⟩
    have hxl : (cur.toList.take l).length = l := by rw [List.length_take, Array.length_toList]; omega
    refine ⟨cap2, Y, rfl, setRow_heap _ _ Z Y 5 (0, 0) (heap_alloc_new w _), ?_, ?_, by omega, hcaple, ?_⟩
    · have : Y.toList.length = cap2 := by rw [HY.out, List.length_append, hxl, List.length_drop, Array.length_toList, HZ.out]; omega
      simpa using this
    · rw [HY.out, List.take_append_of_le_length (by rw [hxl]; exact Nat.le_refl _), List.take_of_length_le (by rw [hxl]; exact Nat.le_refl _)]
    · exact ⟨rfl, rfl, rfl, by simp, fun k hk => by rw [setRow_other _ _ _ _ (by omega)]; exact Below.heap_alloc w _ k hk⟩

set_option maxHeartbeats 1600000 in
set_option maxRecDepth 100000 in
theorem growSlice_nil (n : Nat) (w : World) (hn : 1 ≤ n) (hlim : n ≤ 140737488355328) :
    Calls Tryd.prog 76 #[.slice none 0 0, .int .i64 n] w fun e w' => ∃ cap2 cells, e = .returned (.slice (some ⟨w.heap.size, 0, none⟩) 0 cap2) ∧ w'.heap[w.heap.size]? = some (.cells cells 5 (0, 0)) ∧
      cells.size = cap2 ∧ n ≤ cap2 ∧ cap2 ≤ maxLen ∧ Below w.heap.size w w' := by
  obtain ⟨i0, hi, hz0, hz1, hz2⟩ := info5
  have happ := Lib.run_append_nil_zeros (P := Tryd.prog) w 22 3 22 5 i0 (.int .u8 0) .i64 .i64 Tryd.underlying22 Tryd.underlying3 hi hz0 n (by omega) (by omega) (by omega) (by rw [hz2]; omega)
  generalize hcap : grownCap w n 0 5 = cap2 at happ
  have hcapge : n ≤ cap2 := by rw [← hcap]; exact grownCap_ge w _ 0 5
  have hcaple : cap2 ≤ maxLen := by rw [← hcap]; exact grownCap_le_maxLen w _ 0 5 (by unfold maxLen; omega)
  generalize hZ : (Builtin.zeroCells (Value.int .u8 0).cells n ++ Builtin.zeroCells (Value.int .u8 0).cells (cap2 - n)) = Z at happ
  have hZs : Z.size = cap2 := by rw [← hZ]; simp [size_zeroCells, Value.cells]; omega
  clear hcap hZ
  have hcopy := run_copy_nil (P := Tryd.prog) (w.alloc (.cells Z 5)).drew 22 22 3 5 ⟨w.heap.size, 0, none⟩ n cap2 Tryd.underlying22 (by rw [hi]; rfl)
  have HZ := Lib.hid hZs
  clear hZs
  go_enter_defers Tryd.func76, Tryd.ntmps76
  go_wp2_with (at_builtin; refine Lib.wpList_append_run _ rfl _ _ _ _ rfl _ _ rfl rfl _ _ happ ?_)
  refine leaves_cons (f := 77) (args := #[]) (by simp) (by simp [go_sem]) ?_
  refine (catch_idle _).mono ?_
  rintro e u' w'' ⟨rfl, rfl, rfl⟩
  refine ⟨_, results_tmp rfl _ _ _, ?_⟩
  exact ⟨cap2, Z, rfl, heap_alloc_new w _, HZ.out, hcapge, hcaple, ⟨rfl, rfl, rfl, by simp, fun k hk => Below.heap_alloc w _ k hk⟩⟩

end Go.Proofs.Qxb6614070aDoor.Buf
