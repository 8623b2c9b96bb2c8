/- (*scanner).fill at this program, at the answer's end; client.ZZfill. -/
import Derived.Test.Qxb6614070aDoorFill
import Derived.LaidEql
namespace Go.Proofs.Qxb6614070aDoor.Buf
open Go.RowKit
set_option linter.unusedVariables false

theorem neq_eof (a : Addr) (w : World) : (binOp .neq 31 (.iface 111 (.pointer (some a))) (.iface 111 (.pointer (some a)))).run Tryd.prog w = .ok (.bool false) w := by
  obtain ⟨i, hi, hc⟩ : ∃ i, Tryd.prog.info? 111 = some i ∧ i.comparable = true := by
    have h : (Tryd.prog.info? 111).map (·.comparable) = some true := by kernel_rfl
    cases hq : Tryd.prog.info? 111 with
    | none => rw [hq] at h; cases h
    | some i => rw [hq] at h; exact ⟨i, rfl, by simpa using h⟩
  obtain ⟨j, hj⟩ : ∃ j, Tryd.prog.info? 135 = some j := by
    have h : (Tryd.prog.info? 135).isSome = true := by kernel_rfl
    exact Option.isSome_iff_exists.1 h
  simp only [binOp]
  simp [Op.equal, Op.maxDepth, run_equalIn_iface_ptr_same w 9998 a Tryd.underlying31 Tryd.underlying111 hi hc hj]

/-- The loop's measure: 0 once 'ended' is set. -/
def endedOf : Option Value → Nat | some (.bool true) => 0 | _ => 1

/-- What fill leaves at the answer's end: the scanner alone has turned. -/
def Done (S R b SB cap : Nat) (w w' : World) : Prop := ∃ st', w'.heap[S]? = some (.cells (scn R b SB 0 cap 0 st' true) 62 (0, 0)) ∧ Kept2 S S w w'

set_option maxHeartbeats 3200000 in
set_option maxRecDepth 100000 in
theorem fill_eof (S R b SB bl cap n c pos : Nat) (ao : Option Addr) (p : Addr) (at_ st pr : Int) (w : World) (hS : w.heap[S]? = some (.cells (scn R b SB bl cap at_ st false) 62 (0, 0))) (hbl : bl ≤ cap) (hcap : cap ≤ 65536)
    (hR : w.heap[R]? = some (.cells #[.slice ao n c, .int .i64 (pos : Int), .int .i64 pr] 85 (0, 0))) (hSR : S ≠ R) (hS0 : S ≠ 0)
    (hpos : n ≤ pos) (hg : w.cell? ⟨0, 0, none⟩ = some (.iface 111 (.pointer (some p)))) :
    Calls Tryd.prog 21 #[.pointer (some ⟨S, 0, none⟩)] w fun e w' => e = .returned (.bool false) ∧ Done S R b SB cap w w' := by
  have c2 : w.cell? ⟨S, 2, none⟩ = some (.slice (some ⟨SB, 0, none⟩) bl cap) := by rw [Lib.cell_of_heap hS]; rfl
  have c4 : w.cell? ⟨S, 4, none⟩ = some (.int .i64 st) := by rw [Lib.cell_of_heap hS]; rfl
  have c5 : w.cell? ⟨S, 5, none⟩ = some (.bool false) := by rw [Lib.cell_of_heap hS]; rfl
  have f4 : w.frozen? ⟨S, 4, none⟩ = false := Lib.frozen_of_heap hS 4
  have HS := Lib.hid hS
  have HR := Lib.hid hR
  have HG := Lib.hid hg
  clear hS hR hg
  go_enter Tryd.func21, Tryd.ntmps21
  go_wp2
  go_loopw [2] (fun i wr => i = .bool false ∧ (wr = w ∨ Done S R b SB cap w wr)) (fun _ wr => endedOf (wr.cell? ⟨S, 5, none⟩))
  case atStart => exact ⟨rfl, Or.inl rfl⟩
  case round =>
    obtain ⟨rfl, hrel⟩ := hrel
    rcases hrel with rfl | ⟨stf, hf, hkf⟩
    · go_wp2
      go_region
      go_wp2
      generalize wrap64 (st + (bl : Int)) = st'
      obtain ⟨W1, hW1⟩ : ∃ W1, W1 = (wr.setCell ⟨S, 4, none⟩ (.int .i64 st')).drew := ⟨_, rfl⟩
      rw [← hW1]
      have k1 : Kept2 S S wr W1 := by rw [hW1]; exact ⟨rfl, rfl, rfl, by simp [World.setCell], fun k h _ => Below.heap_setCell _ _ _ _ h⟩
      have s1 : W1.heap[S]? = some (.cells (scn R b SB bl cap at_ st' false) 62 (0, 0)) := by rw [hW1]; exact Lib.heap_setCell_same (i := 4) HS.out _
      have r1 : W1.heap[R]? = some (.cells #[.slice ao n c, .int .i64 (pos : Int), .int .i64 pr] 85 (0, 0)) := by rw [k1.block R (Ne.symm hSR) (Ne.symm hSR)]; exact HR.out
      have g1 : W1.cell? ⟨0, 0, none⟩ = some (.iface 111 (.pointer (some p))) := by rw [← HG.out]; exact World.cell?_of_block (k1.block _ (Ne.symm hS0) (Ne.symm hS0))
      have e0 : W1.cell? ⟨S, 0, none⟩ = some (.iface 55 (.pointer (some ⟨R, 0, none⟩))) := by rw [Lib.cell_of_heap s1]; rfl
      have e2 : W1.cell? ⟨S, 2, none⟩ = some (.slice (some ⟨SB, 0, none⟩) bl cap) := by rw [Lib.cell_of_heap s1]; rfl
      have hread := fun W (q1 : W.heap[R]? = _) (q2 : W.cell? ⟨0, 0, none⟩ = some (.iface 111 (.pointer (some p)))) => read_end R pos n c ao pr (.iface 111 (.pointer (some p))) (.pointer (some p)) 111 rfl (.slice (some ⟨SB, 0, none⟩) cap cap) W q1 hpos q2
      have HRD := Lib.hid hread
      have S1 := Lib.hid s1
      have R1 := Lib.hid r1
      have K1 := Lib.hid k1
      have G1 := Lib.hid g1
      clear hread s1 r1 k1 hW1 c2 c4 c5 f4 g1
      have hme : ∀ (k : Nat) (W : World), (method 242 55 (.pointer (some ⟨k, 0, none⟩)) "Read").run Tryd.prog W = .ok (79, .pointer (some ⟨k, 0, none⟩)) W := fun _ _ => by kernel_rfl
      go_region_held3 (fun w' => w'.cell? ⟨S, 0, none⟩ = some (.iface 55 (.pointer (some ⟨R, 0, none⟩))) ∧ w'.cell? ⟨S, 2, none⟩ = some (.slice (some ⟨SB, 0, none⟩) bl cap)) (go_keep)
        (first
          | (go_at_call 79
             refine (HRD.out _ (by exact R1.out) (by exact G1.out)).mono ?_
             rintro e W2 ⟨rfl, q, hW2⟩
             have hh2 : ∀ k : Nat, W2.heap[k]? = W1.heap[k]? := fun k => by rw [hW2]; rfl
             have k2 : Kept2 S S W1 W2 := by rw [hW2]; exact ⟨rfl, rfl, rfl, rfl, fun _ _ _ => rfl⟩
             clear hW2
             have s2 : W2.heap[S]? = some (.cells (scn R b SB bl cap at_ st' false) 62 (0, 0)) := (hh2 S).trans S1.out
             have g0 : W2.cell? ⟨S, 0, none⟩ = some (.iface 55 (.pointer (some ⟨R, 0, none⟩))) := by rw [Lib.cell_of_heap s2]; rfl
             have g2 : W2.cell? ⟨S, 2, none⟩ = some (.slice (some ⟨SB, 0, none⟩) bl cap) := by rw [Lib.cell_of_heap s2]; rfl))
      have f2 : W2.frozen? ⟨S, 2, none⟩ = false := Lib.frozen_of_heap s2 2
      have f3 : W2.frozen? ⟨S, 3, none⟩ = false := Lib.frozen_of_heap s2 3
      have f5 : W2.frozen? ⟨S, 5, none⟩ = false := Lib.frozen_of_heap s2 5
      have g3 : W2.cell? ⟨S, 3, none⟩ = some (.int .i64 at_) := by rw [Lib.cell_of_heap s2]; rfl
      have g5 : W2.cell? ⟨S, 5, none⟩ = some (.bool false) := by rw [Lib.cell_of_heap s2]; rfl
      have gg : W2.cell? ⟨0, 0, none⟩ = some (.iface 111 (.pointer (some p))) := (World.cell?_of_block (hh2 0)).trans G1.out
      have S2 := Lib.hid s2
      have K2 := Lib.hid k2
      have hS0' : ¬ (0 = S) := Ne.symm hS0
      have hne := neq_eof p
      clear s2 k2 hh2 e0 e2 S1 R1 HRD
      go_wp2
      go_roundw
      case rel =>
        refine ⟨rfl, Or.inr ⟨st', Lib.heap_setCell_same (i := 5) (Lib.heap_setCell_same (i := 3) (Lib.heap_setCell_same (i := 2) S2.out _) _) _, ?_⟩⟩
        have k1 := K1.out
        have k2 := K2.out
        exact ⟨k2.os.trans k1.os, k2.tape.trans k1.tape, k2.output.trans k1.output, by have h1 := k1.size; have h2 := k2.size; simp [World.setCell]; omega, fun k h _ => ((Below.heap_setCell _ _ _ _ h).trans ((Below.heap_setCell _ _ _ _ h).trans (Below.heap_setCell _ _ _ _ h))).trans ((k2.block k h h).trans (k1.block k h h))⟩
      case measure =>
        have hf := Lib.heap_setCell_same (i := 5) (Lib.heap_setCell_same (i := 3) (Lib.heap_setCell_same (i := 2) S2.out (.slice (some ⟨SB, 0, none⟩) 0 cap)) (.int .i64 0)) (.bool true)
        have e1 : wr.cell? ⟨S, 5, none⟩ = some (.bool false) := by rw [Lib.cell_of_heap HS.out]; rfl
        rw [Lib.cell_of_heap hf, e1]
        exact Nat.zero_lt_one
    · have d5 : wr.cell? ⟨S, 5, none⟩ = some (.bool true) := by rw [Lib.cell_of_heap hf]; rfl
      have HF := Lib.hid hf
      have HK := Lib.hid hkf
      clear hf hkf
      go_wp2
      go_ret
      exact ⟨rfl, stf, HF.out, HK.out⟩

end Go.Proofs.Qxb6614070aDoor.Buf
