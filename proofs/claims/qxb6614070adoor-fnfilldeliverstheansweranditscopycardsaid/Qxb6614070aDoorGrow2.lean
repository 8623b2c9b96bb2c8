/- (*bytes.Buffer).grow's other roads, Write, Bytes at this program. After the guide's shelf (Derived/Shelf/Bytes/), turned to this program's numbers; the frame is told exactly. -/
import Derived.Test.Qxb6614070aDoorBuf
namespace Go.Proofs.Qxb6614070aDoor.Buf
open Go.RowKit

set_option maxHeartbeats 6400000 in
set_option maxRecDepth 100000 in
theorem grow_nil_big (b n : Nat) (lr : Int) (w : World)
    (hbk : w.heap[b]? = some (.cells #[.slice none 0 0, .int .i64 0, .int .i8 lr] 54 (0, 0))) (h64 : 64 < n) (hlim : n ≤ 140737488355328) :
    Calls Tryd.prog 74 #[.pointer (some ⟨b, 0, none⟩), .int .i64 n] w fun e w' => e = .returned (.int .i64 0) ∧ Grew b 0 n lr [] w w' := by
  have hn : 1 ≤ n := by omega
  have hnil : ∀ W, (binOp .eql 22 (.slice none 0 0) (.slice none 0 0)).run Tryd.prog W = .ok (.bool true) W := fun W => Lib.run_eql_slice_nil_nil W _ _ Tryd.underlying22
  have d0 : w.cell? ⟨b, 0, none⟩ = some (.slice none 0 0) := by rw [Lib.cell_of_heap hbk]; rfl
  have d1 : w.cell? ⟨b, 1, none⟩ = some (.int .i64 0) := by rw [Lib.cell_of_heap hbk]; rfl
  go_enter Tryd.func74, Tryd.ntmps74
  go_wp2_with (go_at_call 75; refine (len_any b none 0 0 _ ?_ ?_ (Nat.zero_le _)).mono ?_)
  · exact d0
  · exact d1
  rintro e W0 ⟨rfl, k, hW0⟩
  have hbk0 : W0.heap[b]? = some (.cells #[.slice none 0 0, .int .i64 0, .int .i8 lr] 54 (0, 0)) := by rw [hW0]; exact hbk
  have c0 : W0.cell? ⟨b, 0, none⟩ = some (.slice none 0 0) := by rw [Lib.cell_of_heap hbk0]; rfl
  have c1 : W0.cell? ⟨b, 1, none⟩ = some (.int .i64 0) := by rw [Lib.cell_of_heap hbk0]; rfl
  have f0 : W0.frozen? ⟨b, 0, none⟩ = false := Lib.frozen_of_heap hbk0 0
  have f1 : W0.frozen? ⟨b, 1, none⟩ = false := Lib.frozen_of_heap hbk0 1
  have HW0 := Lib.hid hW0
  clear hW0 d0 d1
  go_wp2_with (go_at_call 73; refine (tryGrow_none b _ 0 0 n _ c0 (Nat.le_refl _) (Nat.zero_le _) (by omega)).mono ?_; rintro e w' ⟨rfl, rfl⟩)
  have hbW := Lib.lt_of_heap hbk0
  have hwn : IntKind.i64.wrap (n : Int) = n := by rw [IntKind.wrap_i64]; omega
  go_region_with (
      go_at_call 76
      refine (growSlice_nil n _ hn hlim).mono ?_
      rintro e w2 ⟨cap2, cells, rfl, hN, hcsz, hcap2, hcm2, hbel⟩
      have hbk2 : w2.heap[b]? = some (.cells #[.slice none 0 0, .int .i64 0, .int .i8 lr] 54 (0, 0)) := (hbel.block b hbW).trans hbk0
      have d0 : w2.cell? ⟨b, 0, none⟩ = some (.slice none 0 0) := by rw [Lib.cell_of_heap hbk2]; rfl
      have d1 : w2.cell? ⟨b, 1, none⟩ = some (.int .i64 0) := by rw [Lib.cell_of_heap hbk2]; rfl
      have e0 : w2.frozen? ⟨b, 0, none⟩ = false := Lib.frozen_of_heap hbk2 0
      have e1 : w2.frozen? ⟨b, 1, none⟩ = false := Lib.frozen_of_heap hbk2 1)
  all_goals (
    go_wp2
    go_ret
    have hsz0 : w'.heap.size = w.heap.size := by rw [HW0.out]; rfl
    have hg2 : w.grownBy w2 (some b) := Lib.grownBy_below (w := w'.drew) (by rw [HW0.out]; exact ⟨rfl, rfl, rfl, Nat.le_refl _, fun _ _ _ => rfl⟩) hbel
    have hend := grew_end (l := 0) (n := n) (bs := []) hbk2 hN (by show w.heap.size ≤ w'.heap.size; omega) (by show w'.heap.size ≠ b; omega) hcsz (by simp) (by omega) hcm2 hg2 (.slice (some ⟨w'.heap.size, 0, none⟩) 0 cap2)
    exact ⟨rfl, by simpa using hend⟩)

set_option maxHeartbeats 6400000 in
set_option maxRecDepth 100000 in
theorem grow_row (b g l cap n : Nat) (lr : Int) (cur : Array Value) (bs : List Value) (w : World)
    (hbk : w.heap[b]? = some (.cells #[.slice (some ⟨g, 0, none⟩) l cap, .int .i64 0, .int .i8 lr] 54 (0, 0)))
    (hl0 : ¬ l = 0) (hl : bs.length = l) (hg : w.heap[g]? = some (.cells cur 5 (0, 0))) (hlc : l ≤ cap) (hcm : cap ≤ maxLen) (hcs : cur.size = cap) (htake : cur.toList.take l = bs)
    (h1 : ∀ v ∈ bs, v.oneCell' = true) (hn : 1 ≤ n) (hroom : cap - l < n) (hlim : l + n ≤ 140737488355328) :
    Calls Tryd.prog 74 #[.pointer (some ⟨b, 0, none⟩), .int .i64 n] w fun e w' => e = .returned (.int .i64 l) ∧ Grew b l n lr bs w w' := by
  have hnil : ∀ W, (binOp .eql 22 (.slice (some ⟨g, 0, none⟩) l cap) (.slice none 0 0)).run Tryd.prog W = .ok (.bool false) W := fun W => Lib.run_eql_slice_some_nil W _ _ _ Tryd.underlying22
  have d0 : w.cell? ⟨b, 0, none⟩ = some (.slice (some ⟨g, 0, none⟩) l cap) := by rw [Lib.cell_of_heap hbk]; rfl
  have d1 : w.cell? ⟨b, 1, none⟩ = some (.int .i64 0) := by rw [Lib.cell_of_heap hbk]; rfl
  have HL := Lib.hid hl
  have HC := Lib.hid hcs
  have HT := Lib.hid htake
  clear hl hcs htake
  go_enter Tryd.func74, Tryd.ntmps74
  go_wp2_with (go_at_call 75; refine (len_any b (some ⟨g, 0, none⟩) l cap _ ?_ ?_ (Nat.le_trans hlc hcm)).mono ?_)
  · exact d0
  · exact d1
  rintro e W0 ⟨rfl, k, hW0⟩
  have hbk0 : W0.heap[b]? = some (.cells #[.slice (some ⟨g, 0, none⟩) l cap, .int .i64 0, .int .i8 lr] 54 (0, 0)) := by rw [hW0]; exact hbk
  have hg0 : W0.heap[g]? = some (.cells cur 5 (0, 0)) := by rw [hW0]; exact hg
  have c0 : W0.cell? ⟨b, 0, none⟩ = some (.slice (some ⟨g, 0, none⟩) l cap) := by rw [Lib.cell_of_heap hbk0]; rfl
  have c1 : W0.cell? ⟨b, 1, none⟩ = some (.int .i64 0) := by rw [Lib.cell_of_heap hbk0]; rfl
  have f0 : W0.frozen? ⟨b, 0, none⟩ = false := Lib.frozen_of_heap hbk0 0
  have f1 : W0.frozen? ⟨b, 1, none⟩ = false := Lib.frozen_of_heap hbk0 1
  have HW0 := Lib.hid hW0
  clear hW0 d0 d1
  have hcm' := hcm
  unfold maxLen at hcm'
  go_wp2_with (go_at_call 73; refine (tryGrow_none b _ l cap n _ c0 hlc hcm hroom).mono ?_; rintro e w' ⟨rfl, rfl⟩)
  have hc2 : cap ≤ 140737488355328 := by omega
  have h1' : ∀ v ∈ cur.toList.take l, v.oneCell' = true := by rw [HT.out]; exact h1
  have hbW := Lib.lt_of_heap hbk0
  have hwn : IntKind.i64.wrap (n : Int) = n := by rw [IntKind.wrap_i64]; omega
  go_region_with (
      go_at_call 76
      refine (growSlice_row g l cap n cur _ ?_ HC.out hlc hn hlim hc2 h1').mono ?_
      exact hg0
      rintro e w2 ⟨cap2, cells, rfl, hN, hcsz, htk, hcap2, hcm2, hbel⟩
      have hbk2 : w2.heap[b]? = some (.cells #[.slice (some ⟨g, 0, none⟩) l cap, .int .i64 0, .int .i8 lr] 54 (0, 0)) := (hbel.block b hbW).trans hbk0
      have d0 : w2.cell? ⟨b, 0, none⟩ = some (.slice (some ⟨g, 0, none⟩) l cap) := by rw [Lib.cell_of_heap hbk2]; rfl
      have d1 : w2.cell? ⟨b, 1, none⟩ = some (.int .i64 0) := by rw [Lib.cell_of_heap hbk2]; rfl
      have e0 : w2.frozen? ⟨b, 0, none⟩ = false := Lib.frozen_of_heap hbk2 0
      have e1 : w2.frozen? ⟨b, 1, none⟩ = false := Lib.frozen_of_heap hbk2 1)
  all_goals (
    go_wp2
    go_ret
    have hsz0 : w'.heap.size = w.heap.size := by rw [HW0.out]; rfl
    have hg2 : w.grownBy w2 (some b) := Lib.grownBy_below (w := w'.drew) (by rw [HW0.out]; exact ⟨rfl, rfl, rfl, Nat.le_refl _, fun _ _ _ => rfl⟩) hbel
    have hend := grew_end (l := l) (n := n) (bs := bs) hbk2 hN (by show w.heap.size ≤ w'.heap.size; omega) (by show w'.heap.size ≠ b; omega) hcsz (htk.trans HT.out) hcap2 hcm2 hg2 (.slice (some ⟨w'.heap.size, 0, none⟩) l cap2)
    exact ⟨rfl, hend⟩)

end Go.Proofs.Qxb6614070aDoor.Buf
