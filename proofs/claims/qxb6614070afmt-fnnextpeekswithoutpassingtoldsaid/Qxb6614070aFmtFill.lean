/- (*scanner).fill at this program (the scanner's copy is nil). -/
import Derived.Test.Qxb6614070aFmtNew
import Derived.LaidEql
namespace Go.Proofs.Qxb6614070aFmt.Nx
open Go.RowKit
set_option linter.unusedVariables false

set_option maxHeartbeats 1000000 in
theorem fill_ended (S R SB bl cap : Nat) (at_ st : Int) (w : World) (hS : w.heap[S]? = some (.cells (scn R SB bl cap at_ st true) 40 (0, 0))) :
    Calls Tryf.prog 11 #[.pointer (some ⟨S, 0, none⟩)] w fun e w' => e = .returned (.bool false) ∧ w' = w := by
  have c5 : w.cell? ⟨S, 5, none⟩ = some (.bool true) := by rw [Lib.cell_of_heap hS]; rfl
  clear hS
  go_enter Tryf.func11, Tryf.ntmps11
  go_wp2
  go_loopw [2] (fun i wr => i = .bool false ∧ wr = w) (fun _ _ => 0)
  case atStart => exact ⟨rfl, rfl⟩
  case round =>
    obtain ⟨rfl, rfl⟩ := hrel
    go_wp2
    go_ret
    exact ⟨rfl, rfl⟩

/-- All old blocks stand but S, R, SB. -/
structure Kept3 (S R SB : Nat) (w w' : World) : Prop where
  os : w'.os = w.os
  tape : w'.tape = w.tape
  output : w'.output = w.output
  size : w'.heap.size = w.heap.size
  block : ∀ k, k ≠ S → k ≠ R → k ≠ SB → w'.heap[k]? = w.heap[k]?

set_option maxHeartbeats 3200000 in
set_option maxRecDepth 100000 in
theorem fill_some (S R SB bl cap n c pos m : Nat) (a : Addr) (at_ st pr : Int) (xs : List Value) (cur : Array Value) (w : World) (hS : w.heap[S]? = some (.cells (scn R SB bl cap at_ st false) 40 (0, 0))) (hbl : bl ≤ cap) (hcap : cap ≤ 65536) (hcap1 : 1 ≤ cap)
    (hR : w.heap[R]? = some (.cells #[.slice (some a) n c, .int .i64 (pos : Int), .int .i64 pr] 43 (0, 0)))
    (hSB : w.heap[SB]? = some (.cells cur 5 (0, 0))) (hcs : cur.size = cap) (hSR : S ≠ R) (hSSB : S ≠ SB) (hRSB : R ≠ SB)
    (hnc : n ≤ c) (hc : c ≤ 1048576) (hpos : pos < n) (hm : m = min (n - pos) cap) (haS : a.block ≠ S) (haR : a.block ≠ R) (hasp : a.spot = none)
    (hxl : xs.length = n) (hsrc : ∀ j v, xs[j]? = some v → w.cell? (a.add j) = some v) (h1 : ∀ v ∈ xs, v.oneCell' = true) :
    Calls Tryf.prog 11 #[.pointer (some ⟨S, 0, none⟩)] w fun e w' => e = .returned (.bool true) ∧ ∃ pr' cur',
      w'.heap[S]? = some (.cells (scn R SB m cap 0 (wrap64 (st + (bl : Int))) false) 40 (0, 0)) ∧ w'.heap[R]? = some (.cells #[.slice (some a) n c, .int .i64 ((pos + m : Nat) : Int), .int .i64 pr'] 43 (0, 0)) ∧
      w'.heap[SB]? = some (.cells cur' 5 (0, 0)) ∧ cur'.size = cap ∧ cur'.toList.take m = (xs.drop pos).take m ∧ Kept3 S R SB w w' := by
  have c2 : w.cell? ⟨S, 2, none⟩ = some (.slice (some ⟨SB, 0, none⟩) bl cap) := by rw [Lib.cell_of_heap hS]; rfl
  have c4 : w.cell? ⟨S, 4, none⟩ = some (.int .i64 st) := by rw [Lib.cell_of_heap hS]; rfl
  have c5 : w.cell? ⟨S, 5, none⟩ = some (.bool false) := by rw [Lib.cell_of_heap hS]; rfl
  have f4 : w.frozen? ⟨S, 4, none⟩ = false := Lib.frozen_of_heap hS 4
  have HS := Lib.hid hS
  have HR := Lib.hid hR
  have HSB := Lib.hid hSB
  have HX := Lib.hid hsrc
  have HXl := Lib.hid hxl
  have HM := Lib.hid hm
  have HC := Lib.hid hcs
  have hm1 : 1 ≤ m := by omega
  have hmc : m ≤ cap := by omega
  have hmn : pos + m ≤ n := by omega
  clear hS hR hSB hsrc hxl hm hcs
  go_enter Tryf.func11, Tryf.ntmps11
  go_wp2
  go_loopw [2] (fun i wr => i = .bool false ∧ wr = w) (fun _ _ => 0)
  case atStart => exact ⟨rfl, rfl⟩
  case round =>
    obtain ⟨rfl, rfl⟩ := hrel
    go_wp2
    go_region
    go_wp2
    obtain ⟨st', hst⟩ : ∃ st', st' = wrap64 (st + (bl : Int)) := ⟨_, rfl⟩
    rw [← hst]
    have HST := Lib.hid hst
    clear hst
    obtain ⟨W1, hW1⟩ : ∃ W1, W1 = (wr.setCell ⟨S, 4, none⟩ (.int .i64 st')).drew := ⟨_, rfl⟩
    rw [← hW1]
    have k1 : Kept2 S S wr W1 := by rw [hW1]; exact ⟨rfl, rfl, rfl, by simp [World.setCell], fun k h _ => Below.heap_setCell _ _ _ _ h⟩
    have s1 : W1.heap[S]? = some (.cells (scn R SB bl cap at_ st' false) 40 (0, 0)) := by rw [hW1]; exact Lib.heap_setCell_same (i := 4) HS.out _
    have r1 : W1.heap[R]? = some (.cells #[.slice (some a) n c, .int .i64 (pos : Int), .int .i64 pr] 43 (0, 0)) := by rw [k1.block R (Ne.symm hSR) (Ne.symm hSR)]; exact HR.out
    have b1 : W1.heap[SB]? = some (.cells cur 5 (0, 0)) := by rw [k1.block SB (Ne.symm hSSB) (Ne.symm hSSB)]; exact HSB.out
    have x1 : ∀ j v, xs[j]? = some v → W1.cell? (a.add j) = some v := fun j v hj => by
      rw [← HX.out j v hj]; exact World.cell?_of_block (k1.block _ (by rw [Lib.block_add]; exact haS) (by rw [Lib.block_add]; exact haS))
    have e0 : W1.cell? ⟨S, 0, none⟩ = some (.iface 33 (.pointer (some ⟨R, 0, none⟩))) := by rw [Lib.cell_of_heap s1]; rfl
    have e2 : W1.cell? ⟨S, 2, none⟩ = some (.slice (some ⟨SB, 0, none⟩) bl cap) := by rw [Lib.cell_of_heap s1]; rfl
    have hread := fun W (q1 : W.heap[R]? = _) (q2 : W.heap[SB]? = _) (q3 : ∀ j v, xs[j]? = some v → W.cell? (a.add j) = some v) => read_some R SB pos n c cap cap m a pr cur xs W q1 hnc (by unfold maxLen; omega) hpos q2 (by rw [HC.out]; exact Nat.le_refl _) HM.out hRSB haR hasp HXl.out q3 h1
    have HRD := Lib.hid hread
    have S1 := Lib.hid s1
    have R1 := Lib.hid r1
    have B1 := Lib.hid b1
    have X1 := Lib.hid x1
    have K1 := Lib.hid k1
    clear hread s1 r1 b1 x1 k1 hW1 c2 c4 c5 f4
    have hme : ∀ (k : Nat) (W : World), (method 178 33 (.pointer (some ⟨k, 0, none⟩)) "Read").run Tryf.prog W = .ok (33, .pointer (some ⟨k, 0, none⟩)) W := fun _ _ => by kernel_rfl
    go_region_held3 (fun w' => w'.cell? ⟨S, 0, none⟩ = some (.iface 33 (.pointer (some ⟨R, 0, none⟩))) ∧ w'.cell? ⟨S, 2, none⟩ = some (.slice (some ⟨SB, 0, none⟩) bl cap)) (go_keep)
      (first
        | (go_at_call 33
           refine (HRD.out _ (by exact R1.out) (by exact B1.out) (by exact X1.out)).mono ?_
           rintro e W2 ⟨rfl, r2, b2, k2⟩
           have s2 : W2.heap[S]? = some (.cells (scn R SB bl cap at_ st' false) 40 (0, 0)) := (k2.block S hSR hSSB).trans S1.out
           have g0 : W2.cell? ⟨S, 0, none⟩ = some (.iface 33 (.pointer (some ⟨R, 0, none⟩))) := by rw [Lib.cell_of_heap s2]; rfl
           have g2 : W2.cell? ⟨S, 2, none⟩ = some (.slice (some ⟨SB, 0, none⟩) bl cap) := by rw [Lib.cell_of_heap s2]; rfl))
    have f2 : W2.frozen? ⟨S, 2, none⟩ = false := Lib.frozen_of_heap s2 2
    have f3 : W2.frozen? ⟨S, 3, none⟩ = false := Lib.frozen_of_heap s2 3
    have g1 : W2.cell? ⟨S, 1, none⟩ = some .nilIface := by rw [Lib.cell_of_heap s2]; rfl
    have g8 : W2.cell? ⟨S, 8, none⟩ = some .nilIface := by rw [Lib.cell_of_heap s2]; rfl
    have g3 : W2.cell? ⟨S, 3, none⟩ = some (.int .i64 at_) := by rw [Lib.cell_of_heap s2]; rfl
    have S2 := Lib.hid s2
    have R2 := Lib.hid r2
    have B2 := Lib.hid b2
    have K2 := Lib.hid k2
    clear s2 r2 b2 k2 e0 e2 S1 R1 B1 X1 HRD
    go_wp2
    go_ret
    have k1 := K1.out
    have k2 := K2.out
    have hcl : ((xs.drop pos).take m).length = m := by rw [List.length_take, List.length_drop, HXl.out]; omega
    have e1 : ∀ k, k ≠ S → ((W2.setCell ⟨S, 2, none⟩ (.slice (some ⟨SB, 0, none⟩) m cap)).setCell ⟨S, 3, none⟩ (.int .i64 0)).heap[k]? = W2.heap[k]? := fun k h => (Below.heap_setCell _ _ _ _ h).trans (Below.heap_setCell _ _ _ _ h)
    refine ⟨rfl, -1, ((xs.drop pos).take m ++ cur.toList.drop m).toArray, ?_, (e1 R (Ne.symm hSR)).trans R2.out, (e1 SB (Ne.symm hSSB)).trans B2.out, ?_, ?_, ?_⟩
    · rw [← HST.out]; exact Lib.heap_setCell_same (i := 3) (Lib.heap_setCell_same (i := 2) S2.out _) _
    · simp only [List.size_toArray, List.length_append, hcl, List.length_drop, Array.length_toList, HC.out]; omega
    · rw [List.toList_toArray, List.take_append_of_le_length (by rw [hcl]; exact Nat.le_refl _), List.take_of_length_le (by rw [hcl]; exact Nat.le_refl _)]
    · exact ⟨k2.os.trans k1.os, k2.tape.trans k1.tape, k2.output.trans k1.output, by have h1 := k1.size; have h2 := k2.size; have h3 : W1.drew.heap.size = W1.heap.size := rfl; simp [World.setCell]; omega,
        fun k q1 q2 q3 => (e1 k q1).trans ((k2.block k q2 q3).trans (k1.block k q1 q1))⟩

theorem neq_eof (a : Addr) (w : World) : (binOp .neq 28 (.iface 52 (.pointer (some a))) (.iface 52 (.pointer (some a)))).run Tryf.prog w = .ok (.bool false) w := by
  obtain ⟨i, hi, hc⟩ : ∃ i, Tryf.prog.info? 52 = some i ∧ i.comparable = true := by
    have h : (Tryf.prog.info? 52).map (·.comparable) = some true := by kernel_rfl
    cases hq : Tryf.prog.info? 52 with
    | none => rw [hq] at h; cases h
    | some i => rw [hq] at h; exact ⟨i, rfl, by simpa using h⟩
  obtain ⟨j, hj⟩ : ∃ j, Tryf.prog.info? 54 = some j := by
    have h : (Tryf.prog.info? 54).isSome = true := by kernel_rfl
    exact Option.isSome_iff_exists.1 h
  simp only [binOp]
  simp [Op.equal, Op.maxDepth, run_equalIn_iface_ptr_same w 9998 a Tryf.underlying28 Tryf.underlying52 hi hc hj]

/-- The loop's measure: 0 once 'ended' is set. -/
def endedOf : Option Value → Nat | some (.bool true) => 0 | _ => 1

/-- What fill leaves at the answer's end: the scanner alone has turned. -/
def Done (S R SB cap : Nat) (st' : Int) (w w' : World) : Prop := w'.heap[S]? = some (.cells (scn R SB 0 cap 0 st' true) 40 (0, 0)) ∧ Kept2 S S w w'

set_option maxHeartbeats 3200000 in
set_option maxRecDepth 100000 in
theorem fill_eof (S R SB bl cap n c pos : Nat) (ao : Option Addr) (p : Addr) (at_ st pr : Int) (w : World) (hS : w.heap[S]? = some (.cells (scn R SB bl cap at_ st false) 40 (0, 0))) (hbl : bl ≤ cap) (hcap : cap ≤ 65536)
    (hR : w.heap[R]? = some (.cells #[.slice ao n c, .int .i64 (pos : Int), .int .i64 pr] 43 (0, 0))) (hSR : S ≠ R) (hS0 : S ≠ 0)
    (hpos : n ≤ pos) (hg : w.cell? ⟨0, 0, none⟩ = some (.iface 52 (.pointer (some p)))) :
    Calls Tryf.prog 11 #[.pointer (some ⟨S, 0, none⟩)] w fun e w' => e = .returned (.bool false) ∧ Done S R SB cap (wrap64 (st + (bl : Int))) w w' := by
  have c2 : w.cell? ⟨S, 2, none⟩ = some (.slice (some ⟨SB, 0, none⟩) bl cap) := by rw [Lib.cell_of_heap hS]; rfl
  have c4 : w.cell? ⟨S, 4, none⟩ = some (.int .i64 st) := by rw [Lib.cell_of_heap hS]; rfl
  have c5 : w.cell? ⟨S, 5, none⟩ = some (.bool false) := by rw [Lib.cell_of_heap hS]; rfl
  have f4 : w.frozen? ⟨S, 4, none⟩ = false := Lib.frozen_of_heap hS 4
  have HS := Lib.hid hS
  have HR := Lib.hid hR
  have HG := Lib.hid hg
  clear hS hR hg
  obtain ⟨st', hst⟩ : ∃ st', st' = wrap64 (st + (bl : Int)) := ⟨_, rfl⟩
  have HST := Lib.hid hst
  clear hst
  go_enter Tryf.func11, Tryf.ntmps11
  go_wp2
  go_loopw [2] (fun i wr => i = .bool false ∧ (wr = w ∨ Done S R SB cap st' w wr)) (fun _ wr => endedOf (wr.cell? ⟨S, 5, none⟩))
  case atStart => exact ⟨rfl, Or.inl rfl⟩
  case round =>
    obtain ⟨rfl, hrel⟩ := hrel
    rcases hrel with rfl | ⟨hf, hkf⟩
    · go_wp2
      go_region
      go_wp2
      rw [← HST.out]
      obtain ⟨W1, hW1⟩ : ∃ W1, W1 = (wr.setCell ⟨S, 4, none⟩ (.int .i64 st')).drew := ⟨_, rfl⟩
      rw [← hW1]
      have k1 : Kept2 S S wr W1 := by rw [hW1]; exact ⟨rfl, rfl, rfl, by simp [World.setCell], fun k h _ => Below.heap_setCell _ _ _ _ h⟩
      have s1 : W1.heap[S]? = some (.cells (scn R SB bl cap at_ st' false) 40 (0, 0)) := by rw [hW1]; exact Lib.heap_setCell_same (i := 4) HS.out _
      have r1 : W1.heap[R]? = some (.cells #[.slice ao n c, .int .i64 (pos : Int), .int .i64 pr] 43 (0, 0)) := by rw [k1.block R (Ne.symm hSR) (Ne.symm hSR)]; exact HR.out
      have g1 : W1.cell? ⟨0, 0, none⟩ = some (.iface 52 (.pointer (some p))) := by rw [← HG.out]; exact World.cell?_of_block (k1.block _ (Ne.symm hS0) (Ne.symm hS0))
      have e0 : W1.cell? ⟨S, 0, none⟩ = some (.iface 33 (.pointer (some ⟨R, 0, none⟩))) := by rw [Lib.cell_of_heap s1]; rfl
      have e2 : W1.cell? ⟨S, 2, none⟩ = some (.slice (some ⟨SB, 0, none⟩) bl cap) := by rw [Lib.cell_of_heap s1]; rfl
      have hread := fun W (q1 : W.heap[R]? = _) (q2 : W.cell? ⟨0, 0, none⟩ = some (.iface 52 (.pointer (some p)))) => read_end R pos n c ao pr (.iface 52 (.pointer (some p))) (.pointer (some p)) 52 rfl (.slice (some ⟨SB, 0, none⟩) cap cap) W q1 hpos q2
      have HRD := Lib.hid hread
      have S1 := Lib.hid s1
      have R1 := Lib.hid r1
      have K1 := Lib.hid k1
      have G1 := Lib.hid g1
      clear hread s1 r1 k1 hW1 c2 c4 c5 f4 g1
      have hme : ∀ (k : Nat) (W : World), (method 178 33 (.pointer (some ⟨k, 0, none⟩)) "Read").run Tryf.prog W = .ok (33, .pointer (some ⟨k, 0, none⟩)) W := fun _ _ => by kernel_rfl
      go_region_held3 (fun w' => w'.cell? ⟨S, 0, none⟩ = some (.iface 33 (.pointer (some ⟨R, 0, none⟩))) ∧ w'.cell? ⟨S, 2, none⟩ = some (.slice (some ⟨SB, 0, none⟩) bl cap)) (go_keep)
        (first
          | (go_at_call 33
             refine (HRD.out _ (by exact R1.out) (by exact G1.out)).mono ?_
             rintro e W2 ⟨rfl, q, hW2⟩
             have hh2 : ∀ k : Nat, W2.heap[k]? = W1.heap[k]? := fun k => by rw [hW2]; rfl
             have k2 : Kept2 S S W1 W2 := by rw [hW2]; exact ⟨rfl, rfl, rfl, rfl, fun _ _ _ => rfl⟩
             clear hW2
             have s2 : W2.heap[S]? = some (.cells (scn R SB bl cap at_ st' false) 40 (0, 0)) := (hh2 S).trans S1.out
             have g0 : W2.cell? ⟨S, 0, none⟩ = some (.iface 33 (.pointer (some ⟨R, 0, none⟩))) := by rw [Lib.cell_of_heap s2]; rfl
             have g2 : W2.cell? ⟨S, 2, none⟩ = some (.slice (some ⟨SB, 0, none⟩) bl cap) := by rw [Lib.cell_of_heap s2]; rfl))
      have f2 : W2.frozen? ⟨S, 2, none⟩ = false := Lib.frozen_of_heap s2 2
      have f3 : W2.frozen? ⟨S, 3, none⟩ = false := Lib.frozen_of_heap s2 3
      have f5 : W2.frozen? ⟨S, 5, none⟩ = false := Lib.frozen_of_heap s2 5
      have g3 : W2.cell? ⟨S, 3, none⟩ = some (.int .i64 at_) := by rw [Lib.cell_of_heap s2]; rfl
      have g5 : W2.cell? ⟨S, 5, none⟩ = some (.bool false) := by rw [Lib.cell_of_heap s2]; rfl
      have gg : W2.cell? ⟨0, 0, none⟩ = some (.iface 52 (.pointer (some p))) := (World.cell?_of_block (hh2 0)).trans G1.out
      have S2 := Lib.hid s2
      have K2 := Lib.hid k2
      have hS0' : ¬ (0 = S) := Ne.symm hS0
      have hne := neq_eof p
      clear s2 k2 hh2 e0 e2 S1 R1 HRD
      go_wp2
      go_roundw
      case rel =>
        refine ⟨rfl, Or.inr ⟨Lib.heap_setCell_same (i := 5) (Lib.heap_setCell_same (i := 3) (Lib.heap_setCell_same (i := 2) S2.out _) _) _, ?_⟩⟩
        have k1 := K1.out
        have k2 := K2.out
        exact ⟨k2.os.trans k1.os, k2.tape.trans k1.tape, k2.output.trans k1.output, by have h1 := k1.size; have h2 := k2.size; simp [World.setCell]; omega, fun k h _ => ((Below.heap_setCell _ _ _ _ h).trans ((Below.heap_setCell _ _ _ _ h).trans (Below.heap_setCell _ _ _ _ h))).trans ((k2.block k h h).trans (k1.block k h h))⟩
      case measure =>
        have hf := Lib.heap_setCell_same (i := 5) (Lib.heap_setCell_same (i := 3) (Lib.heap_setCell_same (i := 2) S2.out (.slice (some ⟨SB, 0, none⟩) 0 cap)) (.int .i64 0)) (.bool true)
        have e1 : wr.cell? ⟨S, 5, none⟩ = some (.bool false) := by rw [Lib.cell_of_heap HS.out]; rfl
        rw [Lib.cell_of_heap hf, e1]
        exact Nat.zero_lt_one
    · have d5 : wr.cell? ⟨S, 5, none⟩ = some (.bool true) := by rw [Lib.cell_of_heap hf]; rfl
      have HF := Lib.hid hf
      have HK := Lib.hid hkf
      clear hf hkf
      go_wp2
      go_ret
      rw [← HST.out]
      exact ⟨rfl, HF.out, HK.out⟩

end Go.Proofs.Qxb6614070aFmt.Nx
