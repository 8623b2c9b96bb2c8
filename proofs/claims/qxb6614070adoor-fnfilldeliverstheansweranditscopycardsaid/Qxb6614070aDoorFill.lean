/- (*scanner).fill at this program. -/
import Derived.Test.Qxb6614070aDoorNew
import Derived.Deep.RegionHeld3
namespace Go.Proofs.Qxb6614070aDoor.Buf
open Go.RowKit
set_option linter.unusedVariables false

set_option maxHeartbeats 1000000 in
theorem fill_ended (S R b SB bl cap : Nat) (at_ st : Int) (w : World) (hS : w.heap[S]? = some (.cells (scn R b SB bl cap at_ st true) 62 (0, 0))) :
    Calls Tryd.prog 21 #[.pointer (some ⟨S, 0, none⟩)] w fun e w' => e = .returned (.bool false) ∧ w' = w := by
  have c5 : w.cell? ⟨S, 5, none⟩ = some (.bool true) := by rw [Lib.cell_of_heap hS]; rfl
  clear hS
  go_enter Tryd.func21, Tryd.ntmps21
  go_wp2
  go_loopw [2] (fun i wr => i = .bool false ∧ wr = w) (fun _ _ => 0)
  case atStart => exact ⟨rfl, rfl⟩
  case round =>
    obtain ⟨rfl, rfl⟩ := hrel
    go_wp2
    go_ret
    exact ⟨rfl, rfl⟩

/-- All old blocks stand but S, R, SB, b and o. -/
structure Kept5 (S R SB b : Nat) (o : Option Nat) (w w' : World) : Prop where
  os : w'.os = w.os
  tape : w'.tape = w.tape
  output : w'.output = w.output
  size : w.heap.size ≤ w'.heap.size
  block : ∀ k, k < w.heap.size → k ≠ S → k ≠ R → k ≠ SB → k ≠ b → o ≠ some k → w'.heap[k]? = w.heap[k]?

theorem Buf.same {b : Nat} {o : Option Nat} {bs : List Value} {w w' : World} (h : Buf b o bs w) (hb : w'.heap[b]? = w.heap[b]?) (ho : ∀ g, o = some g → w'.heap[g]? = w.heap[g]?) : Buf b o bs w' := by
  obtain ⟨lr, hc⟩ := h
  refine ⟨lr, ?_⟩
  rcases hc with ⟨h1, h2, h3⟩ | ⟨g, cap, cur, h1, h2, h3, h4⟩
  · exact Or.inl ⟨h1, h2, hb.trans h3⟩
  · exact Or.inr ⟨g, cap, cur, h1, hb.trans h2, (ho g h1).trans h3, h4⟩

set_option maxHeartbeats 3200000 in
set_option maxRecDepth 100000 in
theorem fill_some (S R b SB bl cap n c pos m : Nat) (o : Option Nat) (a : Addr) (at_ st pr : Int) (xs bs : List Value) (cur : Array Value) (w : World) (hS : w.heap[S]? = some (.cells (scn R b SB bl cap at_ st false) 62 (0, 0))) (hbl : bl ≤ cap) (hcap : cap ≤ 65536) (hcap1 : 1 ≤ cap)
    (hR : w.heap[R]? = some (.cells #[.slice (some a) n c, .int .i64 (pos : Int), .int .i64 pr] 85 (0, 0)))
    (hSB : w.heap[SB]? = some (.cells cur 5 (0, 0))) (hcs : cur.size = cap) (hB : Buf b o bs w) (hbs1 : ∀ v ∈ bs, v.oneCell' = true)
    (hSR : S ≠ R) (hSSB : S ≠ SB) (hSb : S ≠ b) (hRSB : R ≠ SB) (hRb : R ≠ b) (hSBb : SB ≠ b) (hoS : o ≠ some S) (hoR : o ≠ some R) (hoSB : o ≠ some SB)
    (hnc : n ≤ c) (hc : c ≤ 1048576) (hpos : pos < n) (hm : m = min (n - pos) cap) (haS : a.block ≠ S) (haR : a.block ≠ R) (hasp : a.spot = none)
    (hxl : xs.length = n) (hsrc : ∀ j v, xs[j]? = some v → w.cell? (a.add j) = some v) (h1 : ∀ v ∈ xs, v.oneCell' = true) (hbl2 : bs.length ≤ 1048576) :
    Calls Tryd.prog 21 #[.pointer (some ⟨S, 0, none⟩)] w fun e w' => e = .returned (.bool true) ∧ ∃ st' o' pr' cur',
      w'.heap[S]? = some (.cells (scn R b SB m cap 0 st' false) 62 (0, 0)) ∧ w'.heap[R]? = some (.cells #[.slice (some a) n c, .int .i64 ((pos + m : Nat) : Int), .int .i64 pr'] 85 (0, 0)) ∧
      w'.heap[SB]? = some (.cells cur' 5 (0, 0)) ∧ cur'.size = cap ∧ cur'.toList.take m = (xs.drop pos).take m ∧ Buf b o' (bs ++ (xs.drop pos).take m) w' ∧ Kept5 S R SB b o w w' ∧ (∀ k, o' = some k → o = some k ∨ w.heap.size ≤ k) := by
  have c2 : w.cell? ⟨S, 2, none⟩ = some (.slice (some ⟨SB, 0, none⟩) bl cap) := by rw [Lib.cell_of_heap hS]; rfl
  have c4 : w.cell? ⟨S, 4, none⟩ = some (.int .i64 st) := by rw [Lib.cell_of_heap hS]; rfl
  have c5 : w.cell? ⟨S, 5, none⟩ = some (.bool false) := by rw [Lib.cell_of_heap hS]; rfl
  have f4 : w.frozen? ⟨S, 4, none⟩ = false := Lib.frozen_of_heap hS 4
  have HS := Lib.hid hS
  have HR := Lib.hid hR
  have HSB := Lib.hid hSB
  have HB := Lib.hid hB
  have HX := Lib.hid hsrc
  have HXl := Lib.hid hxl
  have HM := Lib.hid hm
  have HC := Lib.hid hcs
  have hm1 : 1 ≤ m := by omega
  have hmc : m ≤ cap := by omega
  have hmn : pos + m ≤ n := by omega
  clear hS hR hSB hB hsrc hxl hm hcs
  go_enter Tryd.func21, Tryd.ntmps21
  go_wp2
  go_loopw [2] (fun i wr => i = .bool false ∧ wr = w) (fun _ _ => 0)
  case atStart => exact ⟨rfl, rfl⟩
  case round =>
    obtain ⟨rfl, rfl⟩ := hrel
    go_wp2
    go_region
    go_wp2
    generalize wrap64 (st + (bl : Int)) = st'
    obtain ⟨W1, hW1⟩ : ∃ W1, W1 = (wr.setCell ⟨S, 4, none⟩ (.int .i64 st')).drew := ⟨_, rfl⟩
    rw [← hW1]
    have k1 : Kept2 S S wr W1 := by rw [hW1]; exact ⟨rfl, rfl, rfl, by simp [World.setCell], fun k h _ => Below.heap_setCell _ _ _ _ h⟩
    have s1 : W1.heap[S]? = some (.cells (scn R b SB bl cap at_ st' false) 62 (0, 0)) := by rw [hW1]; exact Lib.heap_setCell_same (i := 4) HS.out _
    have r1 : W1.heap[R]? = some (.cells #[.slice (some a) n c, .int .i64 (pos : Int), .int .i64 pr] 85 (0, 0)) := by rw [k1.block R (Ne.symm hSR) (Ne.symm hSR)]; exact HR.out
    have b1 : W1.heap[SB]? = some (.cells cur 5 (0, 0)) := by rw [k1.block SB (Ne.symm hSSB) (Ne.symm hSSB)]; exact HSB.out
    have x1 : ∀ j v, xs[j]? = some v → W1.cell? (a.add j) = some v := fun j v hj => by
      rw [← HX.out j v hj]; exact World.cell?_of_block (k1.block _ (by rw [Lib.block_add]; exact haS) (by rw [Lib.block_add]; exact haS))
    have e0 : W1.cell? ⟨S, 0, none⟩ = some (.iface 55 (.pointer (some ⟨R, 0, none⟩))) := by rw [Lib.cell_of_heap s1]; rfl
    have e2 : W1.cell? ⟨S, 2, none⟩ = some (.slice (some ⟨SB, 0, none⟩) bl cap) := by rw [Lib.cell_of_heap s1]; rfl
    have hread := fun W (q1 : W.heap[R]? = _) (q2 : W.heap[SB]? = _) (q3 : ∀ j v, xs[j]? = some v → W.cell? (a.add j) = some v) => read_some R SB pos n c cap cap m a pr cur xs W q1 hnc (by unfold maxLen; omega) hpos q2 (by rw [HC.out]; exact Nat.le_refl _) HM.out hRSB haR hasp HXl.out q3 h1
    have HRD := Lib.hid hread
    have S1 := Lib.hid s1
    have R1 := Lib.hid r1
    have B1 := Lib.hid b1
    have X1 := Lib.hid x1
    have K1 := Lib.hid k1
    clear hread s1 r1 b1 x1 k1 hW1 c2 c4 c5 f4
    have hme : ∀ (k : Nat) (W : World), (method 242 55 (.pointer (some ⟨k, 0, none⟩)) "Read").run Tryd.prog W = .ok (79, .pointer (some ⟨k, 0, none⟩)) W := fun _ _ => by kernel_rfl
    go_region_held3 (fun w' => w'.cell? ⟨S, 0, none⟩ = some (.iface 55 (.pointer (some ⟨R, 0, none⟩))) ∧ w'.cell? ⟨S, 2, none⟩ = some (.slice (some ⟨SB, 0, none⟩) bl cap)) (go_keep)
      (first
        | (go_at_call 79
           refine (HRD.out _ (by exact R1.out) (by exact B1.out) (by exact X1.out)).mono ?_
           rintro e W2 ⟨rfl, r2, b2, k2⟩
           have s2 : W2.heap[S]? = some (.cells (scn R b SB bl cap at_ st' false) 62 (0, 0)) := (k2.block S hSR hSSB).trans S1.out
           have g0 : W2.cell? ⟨S, 0, none⟩ = some (.iface 55 (.pointer (some ⟨R, 0, none⟩))) := by rw [Lib.cell_of_heap s2]; rfl
           have g2 : W2.cell? ⟨S, 2, none⟩ = some (.slice (some ⟨SB, 0, none⟩) bl cap) := by rw [Lib.cell_of_heap s2]; rfl))
    have f2 : W2.frozen? ⟨S, 2, none⟩ = false := Lib.frozen_of_heap s2 2
    have f3 : W2.frozen? ⟨S, 3, none⟩ = false := Lib.frozen_of_heap s2 3
    have g1 : W2.cell? ⟨S, 1, none⟩ = some (.iface 26 (.pointer (some ⟨b, 0, none⟩))) := by rw [Lib.cell_of_heap s2]; rfl
    have g3 : W2.cell? ⟨S, 3, none⟩ = some (.int .i64 at_) := by rw [Lib.cell_of_heap s2]; rfl
    have S2 := Lib.hid s2
    have R2 := Lib.hid r2
    have B2 := Lib.hid b2
    have K2 := Lib.hid k2
    clear s2 r2 b2 k2 e0 e2 S1 R1 B1 X1 HRD
    go_wp2
    obtain ⟨W3, hW3⟩ : ∃ W3, W3 = (W2.setCell ⟨S, 2, none⟩ (.slice (some ⟨SB, 0, none⟩) m cap)).setCell ⟨S, 3, none⟩ (.int .i64 0) := ⟨_, rfl⟩
    rw [← hW3]
    have k3 : Kept2 S S W2 W3 := by rw [hW3]; exact ⟨rfl, rfl, rfl, by simp [World.setCell], fun k h _ => (Below.heap_setCell _ _ _ _ h).trans (Below.heap_setCell _ _ _ _ h)⟩
    have s3 : W3.heap[S]? = some (.cells (scn R b SB m cap 0 st' false) 62 (0, 0)) := by rw [hW3]; exact Lib.heap_setCell_same (i := 3) (Lib.heap_setCell_same (i := 2) S2.out _) _
    have r3 : W3.heap[R]? = some (.cells #[.slice (some a) n c, .int .i64 ((pos + m : Nat) : Int), .int .i64 (-1)] 85 (0, 0)) := by rw [k3.block R (Ne.symm hSR) (Ne.symm hSR)]; exact R2.out
    have b3 : W3.heap[SB]? = some (.cells ((xs.drop pos).take m ++ cur.toList.drop m).toArray 5 (0, 0)) := by rw [k3.block SB (Ne.symm hSSB) (Ne.symm hSSB)]; exact B2.out
    have hold : ∀ k, k ≠ S → k ≠ R → k ≠ SB → W3.heap[k]? = wr.heap[k]? := fun k q1 q2 q3 => (k3.block k q1 q1).trans ((K2.out.block k q2 q3).trans (K1.out.block k q1 q1))
    have u3 : Buf b o bs W3 := HB.out.same (hold b (Ne.symm hSb) (Ne.symm hRb) (Ne.symm hSBb)) (fun g hg => hold g (fun e => hoS (by rw [hg, e])) (fun e => hoR (by rw [hg, e])) (fun e => hoSB (by rw [hg, e])))
    have hz3 : W3.heap.size = wr.heap.size := k3.size.trans (K2.out.size.trans K1.out.size)
    have hq : W3.os = wr.os ∧ W3.tape = wr.tape ∧ W3.output = wr.output := ⟨k3.os.trans (K2.out.os.trans K1.out.os), k3.tape.trans (K2.out.tape.trans K1.out.tape), k3.output.trans (K2.out.output.trans K1.out.output)⟩
    have hcl : ((xs.drop pos).take m).length = m := by rw [List.length_take, List.length_drop, HXl.out]; omega
    have e1 : W3.cell? ⟨S, 1, none⟩ = some (.iface 26 (.pointer (some ⟨b, 0, none⟩))) := by rw [Lib.cell_of_heap s3]; rfl
    have e2 : W3.cell? ⟨S, 2, none⟩ = some (.slice (some ⟨SB, 0, none⟩) m cap) := by rw [Lib.cell_of_heap s3]; rfl
    have hsr : ∀ j v, ((xs.drop pos).take m)[j]? = some v → W3.cell? ((⟨SB, 0, none⟩ : Addr).add j) = some v := by
      intro j v hj
      refine Lib.cells_of_row b3 m j v ?_
      rw [List.toList_toArray, List.take_append_of_le_length (by rw [hcl]; exact Nat.le_refl _), List.take_of_length_le (by rw [hcl]; exact Nat.le_refl _)]
      exact hj
    have hwrite := fun W (q1 : Buf b o bs W) (q2 : ∀ j v, ((xs.drop pos).take m)[j]? = some v → W.cell? ((⟨SB, 0, none⟩ : Addr).add j) = some v) => write_any b o bs ((xs.drop pos).take m) ⟨SB, 0, none⟩ m cap W q1 hbs1 hcl hm1 hSBb q2 (fun v hv => h1 v (List.mem_of_mem_drop (List.mem_of_mem_take hv))) (by omega)
    have HWR := Lib.hid hwrite
    have S3 := Lib.hid s3
    have R3 := Lib.hid r3
    have B3 := Lib.hid b3
    have U3 := Lib.hid u3
    have X3 := Lib.hid hsr
    have CL := Lib.hid hcl
    have HO := Lib.hid hold
    have HZ := Lib.hid hz3
    have HQ := Lib.hid hq
    clear hwrite s3 r3 b3 u3 hsr hcl hold hz3 hq hW3 k3 S2 R2 B2 K2 K1 HS HR HSB HB HX g0 g1 g2 g3 f2 f3
    have hmw : ∀ (k : Nat) (W : World), (method 242 26 (.pointer (some ⟨k, 0, none⟩)) "Write").run Tryd.prog W = .ok (71, .pointer (some ⟨k, 0, none⟩)) W := fun _ _ => by kernel_rfl
    go_region_held3 (fun w' => w'.cell? ⟨S, 1, none⟩ = some (.iface 26 (.pointer (some ⟨b, 0, none⟩))) ∧ w'.cell? ⟨S, 2, none⟩ = some (.slice (some ⟨SB, 0, none⟩) m cap)) (go_keep)
      (first
        | (go_at_call 71
           refine (HWR.out _ (by exact U3.out) (by exact X3.out)).mono ?_
           rintro e W4 ⟨rfl, o', u4, k4, ho'⟩
           have hSlt : S < W3.heap.size := Lib.lt_of_heap S3.out
           have s4 : W4.heap[S]? = some (.cells (scn R b SB m cap 0 st' false) 62 (0, 0)) := (k4.block S hSlt hSb hoS).trans S3.out
           have g1 : W4.cell? ⟨S, 1, none⟩ = some (.iface 26 (.pointer (some ⟨b, 0, none⟩))) := by rw [Lib.cell_of_heap s4]; rfl
           have g2 : W4.cell? ⟨S, 2, none⟩ = some (.slice (some ⟨SB, 0, none⟩) m cap) := by rw [Lib.cell_of_heap s4]; rfl))
    have g8 : W4.cell? ⟨S, 8, none⟩ = some .nilIface := by rw [Lib.cell_of_heap s4]; rfl
    have S4 := Lib.hid s4
    have U4 := Lib.hid u4
    have K4 := Lib.hid k4
    have O4 := Lib.hid ho'
    clear s4 u4 k4 ho' HWR
    go_wp2
    go_ret
    refine ⟨rfl, st', o', -1, ((xs.drop pos).take m ++ cur.toList.drop m).toArray, S4.out, ?_, ?_, ?_, ?_, U4.out, ?_, ?_⟩
    · exact (K4.out.block R (Lib.lt_of_heap R3.out) hRb hoR).trans R3.out
    · exact (K4.out.block SB (Lib.lt_of_heap B3.out) hSBb hoSB).trans B3.out
    · simp only [List.size_toArray, List.length_append, CL.out, List.length_drop, Array.length_toList, HC.out]; omega
    · rw [List.toList_toArray, List.take_append_of_le_length (by rw [CL.out]; exact Nat.le_refl _), List.take_of_length_le (by rw [CL.out]; exact Nat.le_refl _)]
    · have hk := K4.out
      exact ⟨hk.os.trans HQ.out.1, hk.tape.trans HQ.out.2.1, hk.output.trans HQ.out.2.2, by have := hk.size; have h2 := HZ.out; have h3 : W3.drew.heap.size = W3.heap.size := rfl; omega,
        fun k q0 q1 q2 q3 q4 q5 => (hk.block k (by have h2 := HZ.out; have h3 : W3.drew.heap.size = W3.heap.size := rfl; omega) q4 q5).trans (HO.out k q1 q2 q3)⟩
    · intro k hk
      rcases O4.out k hk with h | h
      · exact Or.inl h
      · exact Or.inr (by have h2 := HZ.out; have h3 : W3.drew.heap.size = W3.heap.size := rfl; omega)

end Go.Proofs.Qxb6614070aDoor.Buf
