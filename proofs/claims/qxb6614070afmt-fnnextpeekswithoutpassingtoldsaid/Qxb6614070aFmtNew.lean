/- client.ZZnewScannerAt at this program. -/
import Derived.Test.Qxb6614070aFmtErr
namespace Go.Proofs.Qxb6614070aFmt.Nx
open Go.RowKit
set_option linter.unusedVariables false

/-- A slice that came in: nil, or with its cells known. -/
def Came (ao : Option Addr) (n c : Nat) (xs : List Value) (w : World) : Prop :=
  (ao = none ∧ n = 0 ∧ c = 0 ∧ xs = []) ∨ (∃ a, ao = some a ∧ xs.length = n ∧ ∀ j v, xs[j]? = some v → w.cell? (a.add j) = some v)

/-- What ZZnewScannerAt leaves. -/
def Made (ao : Option Addr) (n c bl cap : Nat) (ys : List Value) (at_ st : Int) (en : Bool) (w w' : World) (S : Nat) : Prop :=
  ∃ R SB cur, w.heap.size ≤ SB ∧ SB < R ∧ R < S ∧ w'.heap[S]? = some (.cells (scn R SB bl cap at_ st en) 40 (0, 0)) ∧ w'.heap[R]? = some (.cells #[.slice ao n c, .int .i64 ((0 : Nat) : Int), .int .i64 (-1)] 43 (0, 0)) ∧
    w'.heap[SB]? = some (.cells cur 5 (0, 0)) ∧ cur.size = cap ∧ cur.toList.take bl = ys ∧ Below w.heap.size w w'

theorem made_mk {ao : Option Addr} {n c bl cap : Nat} {ys : List Value} {at_ st : Int} {en : Bool} {w W : World} {cur : Array Value} (hW : W.heap[w.heap.size]? = some (.cells cur 5 (0, 0))) (hz : W.heap.size = w.heap.size + 1) (hb : Below w.heap.size w W) (hc : cur.size = cap) (ht : cur.toList.take bl = ys) :
    Made ao n c bl cap ys at_ st en w ((W.alloc (.cells #[.slice ao n c, .int .i64 0, .int .i64 (-1)] 43)).alloc (.cells (scn W.heap.size w.heap.size bl cap at_ st en) 40)) (W.heap.size + 1) := by
  have e1 : (W.alloc (.cells #[.slice ao n c, .int .i64 0, .int .i64 (-1)] 43)).heap.size = W.heap.size + 1 := by simp
  have n1 := heap_alloc_new W (.cells #[.slice ao n c, .int .i64 0, .int .i64 (-1)] 43)
  have n2 := heap_alloc_new (W.alloc (.cells #[.slice ao n c, .int .i64 0, .int .i64 (-1)] 43)) (.cells (scn W.heap.size w.heap.size bl cap at_ st en) 40)
  rw [e1] at n2
  refine ⟨W.heap.size, w.heap.size, cur, Nat.le_refl _, by omega, by omega, n2, ?_, ?_, hc, ht, ?_⟩
  · rw [Below.heap_alloc _ _ _ (by omega)]; exact n1
  · rw [Below.heap_alloc _ _ _ (by omega), Below.heap_alloc _ _ _ (by omega)]; exact hW
  · exact (hb.alloc (by omega) _).alloc (by omega) _

set_option maxHeartbeats 1000000 in
theorem new_any (ao : Option Addr) (n c : Nat) (bo : Option Addr) (bl bc cap : Nat) (ys : List Value) (at_ st : Int) (en : Bool) (w : World) (hin : Came bo bl bc ys w) (hbl : bl ≤ cap) (hcap : cap ≤ 65536) (h1 : ∀ v ∈ ys, v.oneCell' = true) :
    Calls Tryf.prog 6 #[.slice ao n c, .slice bo bl bc, .int .i64 at_, .int .i64 (cap : Int), .int .i64 st, .bool en] w fun e w' => ∃ S, e = .returned (.pointer (some ⟨S, 0, none⟩)) ∧ Made ao n c bl cap ys at_ st en w w' S := by
  obtain ⟨i0, hi, hz0, hz1, hz2⟩ := info5
  obtain ⟨M, hM⟩ : ∃ M, M = madeCells (Value.int .u8 0).cells ((cap : Int).toNat * i0.size) := ⟨_, rfl⟩
  have hMs : M.size = cap := by rw [hM, size_madeCells, hz1]; simp
  have hmk : (Instr.makeSlice 22 (.int .i64 (bl : Int)) (.int .i64 (cap : Int))).run Tryf.prog w = .ok (.slice (some ⟨w.heap.size, 0, none⟩) bl cap) (w.alloc (.cells M 5)) := by
    have h := run_makeSlice (P := Tryf.prog) w 22 5 i0 (.int .u8 0) Tryf.underlying22 hi hz0 .i64 .i64 (bl : Int) (cap : Int) (by omega) (by omega) (by rw [hz1]; omega) (by rw [hz2]; omega) (by omega)
    rw [← hM] at h
    simpa using h
  obtain ⟨W, cur, hcp, hWh, hWz, hWb, hcs, hct⟩ : ∃ W cur, (Builtin.copy_ #[22, 22] 3 #[.slice (some ⟨w.heap.size, 0, none⟩) bl cap, .slice bo bl bc]).run Tryf.prog (w.alloc (.cells M 5)) = .ok (goInt bl) W ∧
      W.heap[w.heap.size]? = some (.cells cur 5 (0, 0)) ∧ W.heap.size = w.heap.size + 1 ∧ Below w.heap.size w W ∧ cur.size = cap ∧ cur.toList.take bl = ys := by
    rcases hin with ⟨rfl, rfl, rfl, rfl⟩ | ⟨a, rfl, hyl, hsrc⟩
    · exact ⟨_, M, run_copy_nil (P := Tryf.prog) (w.alloc (.cells M 5)) 22 22 3 5 ⟨w.heap.size, 0, none⟩ 0 cap Tryf.underlying22 (by rw [hi]; rfl), heap_alloc_new w _, by simp, (Below.refl _ _).alloc (Nat.le_refl _) _, hMs, by simp⟩
    · have hcp := run_copy_row (P := Tryf.prog) (w.alloc (.cells M 5)) 22 22 3 5 w.heap.size 0 bl cap a bl bc M 5 ys Tryf.underlying22 size5 (heap_alloc_new w _) (by rw [hyl]; exact (Nat.min_self bl).symm)
        (fun j v hj => by
          have := hsrc j v hj
          have hlt := World.block_lt_of_cell? w _ this
          exact (World.cell?_of_block (Below.heap_alloc w _ _ hlt)).trans this) (by rw [hyl]; omega) h1
      rw [hyl] at hcp
      simp only [List.take_zero, List.nil_append, Nat.zero_add] at hcp
      refine ⟨_, _, hcp, setRow_heap _ _ M _ 5 (0, 0) (heap_alloc_new w _), by simp, ?_, ?_, ?_⟩
      · exact ⟨rfl, rfl, rfl, by simp, fun k hk => by rw [setRow_other _ _ _ _ (by omega)]; exact Below.heap_alloc w _ k hk⟩
      · simp only [List.size_toArray, List.length_append, hyl, List.length_drop, Array.length_toList]; omega
      · rw [List.toList_toArray, List.take_append_of_le_length (by rw [hyl]; exact Nat.le_refl _), List.take_of_length_le (by rw [hyl]; exact Nat.le_refl _)]
  have HH := Lib.hid hWh
  have HZ := Lib.hid hWz
  have HB := Lib.hid hWb
  have HC := Lib.hid hcs
  have HT := Lib.hid hct
  clear hWh hWz hWb hcs hct hM hMs hi hz0 hz1 hz2 hin h1
  go_enter Tryf.func6, Tryf.ntmps6
  go_wp2_with (go_at_call 9; refine (newReader_any _ _ _ _).mono ?_; rintro e w2 ⟨rfl, rfl⟩)
  go_ret
  exact ⟨_, rfl, made_mk HH.out HZ.out HB.out HC.out HT.out⟩

end Go.Proofs.Qxb6614070aFmt.Nx
