/- client.ZZnewScannerCopy at this program: the scanner, its reader, its row and the buffer, each in a block of its own. -/
import Derived.Test.Qxb6614070aDoorSmall
namespace Go.Proofs.Qxb6614070aDoor.Buf
open Go.RowKit

/-- The scanner's ten cells. -/
def scn (R b SB bl cap : Nat) (at_ st : Int) (en : Bool) : Array Value :=
  #[.iface 55 (.pointer (some ⟨R, 0, none⟩)), .iface 26 (.pointer (some ⟨b, 0, none⟩)), .slice (some ⟨SB, 0, none⟩) bl cap, .int .i64 at_, .int .i64 st, .bool en, .int .i64 0, .nilIface, .nilIface, .slice none 0 0]

/-- What ZZnewScannerCopy leaves. -/
def Made (ao : Option Addr) (n c bl cap : Nat) (st : Int) (en : Bool) (w w' : World) (S b : Nat) : Prop :=
  ∃ R SB M, w.heap.size ≤ b ∧ b < R ∧ b < SB ∧ R < S ∧ SB < S ∧ R ≠ SB ∧ w'.heap[S]? = some (.cells (scn R b SB bl cap 0 st en) 62 (0, 0)) ∧ w'.heap[R]? = some (.cells #[.slice ao n c, .int .i64 ((0 : Nat) : Int), .int .i64 (-1)] 85 (0, 0)) ∧
    w'.heap[SB]? = some (.cells M 5 (0, 0)) ∧ M.size = cap ∧ w'.heap[b]? = some (.cells #[.slice none 0 0, .int .i64 0, .int .i8 0] 54 (0, 0)) ∧ Below w.heap.size w w'

theorem heap4 (w : World) (o0 o1 o2 o3 : Obj) : ((((w.alloc o0).alloc o1).alloc o2).alloc o3).drew.heap[w.heap.size]? = some o0 ∧ ((((w.alloc o0).alloc o1).alloc o2).alloc o3).drew.heap[w.heap.size + 1]? = some o1 ∧
    ((((w.alloc o0).alloc o1).alloc o2).alloc o3).drew.heap[w.heap.size + 1 + 1]? = some o2 ∧ ((((w.alloc o0).alloc o1).alloc o2).alloc o3).drew.heap[w.heap.size + 1 + 1 + 1]? = some o3 := by
  have e1 : (w.alloc o0).heap.size = w.heap.size + 1 := by simp
  have e2 : ((w.alloc o0).alloc o1).heap.size = w.heap.size + 1 + 1 := by simp
  have e3 : (((w.alloc o0).alloc o1).alloc o2).heap.size = w.heap.size + 1 + 1 + 1 := by simp
  have n0 := heap_alloc_new w o0
  have n1 := heap_alloc_new (w.alloc o0) o1
  have n2 := heap_alloc_new ((w.alloc o0).alloc o1) o2
  have n3 := heap_alloc_new (((w.alloc o0).alloc o1).alloc o2) o3
  rw [e1] at n1; rw [e2] at n2; rw [e3] at n3
  refine ⟨?_, ?_, ?_, n3⟩
  · show ((((w.alloc o0).alloc o1).alloc o2).alloc o3).heap[_]? = _
    rw [Below.heap_alloc _ _ _ (by omega), Below.heap_alloc _ _ _ (by omega), Below.heap_alloc _ _ _ (by omega)]; exact n0
  · show ((((w.alloc o0).alloc o1).alloc o2).alloc o3).heap[_]? = _
    rw [Below.heap_alloc _ _ _ (by omega), Below.heap_alloc _ _ _ (by omega)]; exact n1
  · show ((((w.alloc o0).alloc o1).alloc o2).alloc o3).heap[_]? = _
    rw [Below.heap_alloc _ _ _ (by omega)]; exact n2

theorem below4 (w : World) (o0 o1 o2 o3 : Obj) : Below w.heap.size w ((((w.alloc o0).alloc o1).alloc o2).alloc o3).drew :=
  (((((Below.refl _ w).alloc (Nat.le_refl _) o0).alloc (by simp) o1).alloc (by simp; omega) o2).alloc (by simp; omega) o3).drew

theorem made1 {ao : Option Addr} {n c bl cap : Nat} {st : Int} {en : Bool} {w : World} {M : Array Value} (hM : M.size = cap) :
    Made ao n c bl cap st en w ((((w.alloc (.cells #[.slice none 0 0, .int .i64 0, .int .i8 0] 54)).alloc (.cells #[.slice ao n c, .int .i64 0, .int .i64 (-1)] 85)).alloc (.cells M 5)).alloc (.cells (scn (w.heap.size + 1) w.heap.size (w.heap.size + 1 + 1) bl cap 0 st en) 62)).drew (w.heap.size + 1 + 1 + 1) w.heap.size := by
  obtain ⟨q0, q1, q2, q3⟩ := heap4 w (.cells #[.slice none 0 0, .int .i64 0, .int .i8 0] 54) (.cells #[.slice ao n c, .int .i64 0, .int .i64 (-1)] 85) (.cells M 5) (.cells (scn (w.heap.size + 1) w.heap.size (w.heap.size + 1 + 1) bl cap 0 st en) 62)
  exact ⟨w.heap.size + 1, w.heap.size + 1 + 1, M, by omega, by omega, by omega, by omega, by omega, by omega, q3, q1, q2, hM, q0, below4 _ _ _ _ _⟩

theorem made2 {ao : Option Addr} {n c bl cap : Nat} {st : Int} {en : Bool} {w : World} {M : Array Value} (hM : M.size = cap) :
    Made ao n c bl cap st en w ((((w.alloc (.cells #[.slice none 0 0, .int .i64 0, .int .i8 0] 54)).alloc (.cells M 5)).alloc (.cells #[.slice ao n c, .int .i64 0, .int .i64 (-1)] 85)).alloc (.cells (scn (w.heap.size + 1 + 1) w.heap.size (w.heap.size + 1) bl cap 0 st en) 62)).drew (w.heap.size + 1 + 1 + 1) w.heap.size := by
  obtain ⟨q0, q1, q2, q3⟩ := heap4 w (.cells #[.slice none 0 0, .int .i64 0, .int .i8 0] 54) (.cells M 5) (.cells #[.slice ao n c, .int .i64 0, .int .i64 (-1)] 85) (.cells (scn (w.heap.size + 1 + 1) w.heap.size (w.heap.size + 1) bl cap 0 st en) 62)
  exact ⟨w.heap.size + 1 + 1, w.heap.size + 1, M, by omega, by omega, by omega, by omega, by omega, by omega, q3, q2, q1, hM, q0, below4 _ _ _ _ _⟩

set_option maxHeartbeats 3200000 in
set_option maxRecDepth 100000 in
theorem new_any (ao : Option Addr) (n c bl cap : Nat) (st : Int) (en : Bool) (w : World) (hbl : bl ≤ cap) (hcap : cap ≤ 65536) :
    Calls Tryd.prog 8 #[.slice ao n c, .int .i64 (bl : Int), .int .i64 (cap : Int), .int .i64 st, .bool en] w fun e w' => ∃ S b, e = .returned (.tuple #[.pointer (some ⟨S, 0, none⟩), .pointer (some ⟨b, 0, none⟩)]) ∧ Made ao n c bl cap st en w w' S b := by
  obtain ⟨i0, hi, hz0, hz1, hz2⟩ := info5
  obtain ⟨M, hM⟩ : ∃ M, M = madeCells (Value.int .u8 0).cells ((cap : Int).toNat * i0.size) := ⟨_, rfl⟩
  have hMs : M.size = cap := by rw [hM, size_madeCells, hz1]; simp
  have hmk : ∀ W : World, (Instr.makeSlice 22 (.int .i64 (bl : Int)) (.int .i64 (cap : Int))).run Tryd.prog W = .ok (.slice (some ⟨W.heap.size, 0, none⟩) bl cap) (W.alloc (.cells M 5)) := fun W => by
    have h := run_makeSlice (P := Tryd.prog) W 22 5 i0 (.int .u8 0) Tryd.underlying22 hi hz0 .i64 .i64 (bl : Int) (cap : Int) (by omega) (by omega) (by rw [hz1]; omega) (by rw [hz2]; omega) (by omega)
    rw [← hM] at h
    simpa using h
  have HM := Lib.hid hMs
  clear hM hMs hz0 hz1 hz2 hi
  go_enter Tryd.func8, Tryd.ntmps8
  go_wp2
  go_region_with (go_at_call 20; refine (newReader_any _ _ _ _).mono ?_; rintro e w2 ⟨rfl, rfl⟩)
  all_goals go_wp2
  all_goals go_ret2
  all_goals first | exact ⟨_, _, rfl, made1 HM.out⟩ | exact ⟨_, _, rfl, made2 HM.out⟩

end Go.Proofs.Qxb6614070aDoor.Buf
