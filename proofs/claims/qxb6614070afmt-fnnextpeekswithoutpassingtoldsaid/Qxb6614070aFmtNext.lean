/- (*scanner).next and client.ZZnext at this program. -/
import Derived.Test.Qxb6614070aFmtFill
namespace Go.Proofs.Qxb6614070aFmt.Nx
open Go.RowKit Go.Stop
set_option linter.unusedVariables false

set_option maxHeartbeats 3200000 in
set_option maxRecDepth 100000 in
/-- The scan stands on a byte: that byte; nothing moves. -/
theorem next_here (S R SB bl cap k : Nat) (st x : Int) (en : Bool) (w : World) (hS : w.heap[S]? = some (.cells (scn R SB bl cap (k : Int) st en) 40 (0, 0))) (hk : k < bl) (hbl : bl ≤ cap) (hcap : cap ≤ 65536)
    (hx : w.cell? ⟨SB, k, none⟩ = some (.int .u8 x)) :
    Calls Tryf.prog 10 #[.pointer (some ⟨S, 0, none⟩)] w fun e w' => e = .returned (.tuple #[.int .u8 x, .nilIface]) ∧ ∃ q, w' = w.drewN q := by
  have c2 : w.cell? ⟨S, 2, none⟩ = some (.slice (some ⟨SB, 0, none⟩) bl cap) := by rw [Lib.cell_of_heap hS]; rfl
  have c3 : w.cell? ⟨S, 3, none⟩ = some (.int .i64 (k : Int)) := by rw [Lib.cell_of_heap hS]; rfl
  have hne : ((k : Int) == (bl : Int)) = false := by simp; omega
  have hlt : (k : Int) < (bl : Int) := by omega
  clear hS
  go_enter Tryf.func10, Tryf.ntmps10
  go_wp2
  go_quiet (fail)
  go_wp2
  go_quiet (fail)
  go_wp2
  go_ret2
  exact ⟨rfl, _, World.drewN_drewN _ _ _⟩

set_option maxHeartbeats 3200000 in
set_option maxRecDepth 100000 in
/-- The buffer is spent and fill answers false: an error. -/
theorem next_none (F : Interp) (S R SB bl cap : Nat) (st : Int) (en : Bool) (R' SB' bl' cap' : Nat) (at' st' : Int) (en' : Bool) (w : World) (hF : F.answers w.tape) (hS : w.heap[S]? = some (.cells (scn R SB bl cap (bl : Int) st en) 40 (0, 0)))
    (hfill : ∀ W : World, W.heap = w.heap → W.tape = w.tape → Calls Tryf.prog 11 #[.pointer (some ⟨S, 0, none⟩)] W fun e w' => e = .returned (.bool false) ∧ w'.heap[S]? = some (.cells (scn R' SB' bl' cap' at' st' en') 40 (0, 0)) ∧ Kept2 S S W w') :
    Calls Tryf.prog 10 #[.pointer (some ⟨S, 0, none⟩)] w fun e w' => (∃ p, e = .returned (.tuple #[.int .u8 0, .iface 52 (.pointer (some p))])) ∧ ∃ w1, w1.heap[S]? = some (.cells (scn R' SB' bl' cap' at' st' en') 40 (0, 0)) ∧ Kept2 S S w w1 ∧ Below w1.heap.size w1 w' := by
  have c2 : w.cell? ⟨S, 2, none⟩ = some (.slice (some ⟨SB, 0, none⟩) bl cap) := by rw [Lib.cell_of_heap hS]; rfl
  have c3 : w.cell? ⟨S, 3, none⟩ = some (.int .i64 (bl : Int)) := by rw [Lib.cell_of_heap hS]; rfl
  have HFL := Lib.hid hfill
  have HS := Lib.hid hS
  clear hS hfill
  go_enter Tryf.func10, Tryf.ntmps10
  go_wp2
  go_region_with (
    go_at_call 11
    refine (HFL.out _ (by exact rfl) (by exact rfl)).mono ?_
    rintro e w1 ⟨rfl, s1, k1⟩
    have S1 := Lib.hid s1
    have K1 := Lib.hid k1
    clear s1 k1)
  all_goals (
    have hFa : F.answers w1.tape := by rw [K1.out.tape]; exact hF
    go_wp2_with (go_at_call 12; refine (errorf12 F S R' SB' bl' cap' at' st' en' _ (by exact hFa) (by exact S1.out)).mono ?_; rintro e w2 ⟨⟨q, rfl⟩, hb⟩)
    go_ret2
    exact ⟨⟨q, rfl⟩, w1, S1.out, ⟨K1.out.os, K1.out.tape, K1.out.output, K1.out.size, K1.out.block⟩, hb⟩)

set_option maxHeartbeats 3200000 in
set_option maxRecDepth 100000 in
/-- The buffer is spent and fill answers true: the new part's first byte. -/
theorem next_more (S R SB bl cap m : Nat) (st st' x : Int) (Q : World → Prop) (hQ : ∀ w k, Q w → Q (World.drewN w k)) (w : World) (hS : w.heap[S]? = some (.cells (scn R SB bl cap (bl : Int) st false) 40 (0, 0))) (hm1 : 1 ≤ m) (hmc : m ≤ cap) (hcap : cap ≤ 65536)
    (hfill : ∀ W : World, W.heap = w.heap → W.os = w.os → W.tape = w.tape → W.output = w.output → Calls Tryf.prog 11 #[.pointer (some ⟨S, 0, none⟩)] W fun e w' => e = .returned (.bool true) ∧ w'.heap[S]? = some (.cells (scn R SB m cap 0 st' false) 40 (0, 0)) ∧ w'.cell? ⟨SB, 0, none⟩ = some (.int .u8 x) ∧ Q w') :
    Calls Tryf.prog 10 #[.pointer (some ⟨S, 0, none⟩)] w fun e w' => e = .returned (.tuple #[.int .u8 x, .nilIface]) ∧ Q w' := by
  have c2 : w.cell? ⟨S, 2, none⟩ = some (.slice (some ⟨SB, 0, none⟩) bl cap) := by rw [Lib.cell_of_heap hS]; rfl
  have c3 : w.cell? ⟨S, 3, none⟩ = some (.int .i64 (bl : Int)) := by rw [Lib.cell_of_heap hS]; rfl
  have HFL := Lib.hid hfill
  have HQ := Lib.hid hQ
  clear hS hfill hQ
  go_enter Tryf.func10, Tryf.ntmps10
  go_wp2
  go_region_with (
    go_at_call 11
    refine (HFL.out _ (by exact rfl) (by exact rfl) (by exact rfl) (by exact rfl)).mono ?_
    rintro e w1 ⟨rfl, s1, x1, q1⟩
    have S1 := Lib.hid s1
    have Q1 := Lib.hid q1
    clear s1 q1)
  all_goals (
    have d2 : w1.cell? ⟨S, 2, none⟩ = some (.slice (some ⟨SB, 0, none⟩) m cap) := by rw [Lib.cell_of_heap S1.out]; rfl
    have d3 : w1.cell? ⟨S, 3, none⟩ = some (.int .i64 0) := by rw [Lib.cell_of_heap S1.out]; rfl
    clear c2 c3
    go_wp2
    have hlt : (0 : Int) < (m : Int) := by omega
    have hlt0 : 0 < m := by omega
    have hlt1 : ¬ m = 0 := by omega
    go_quiet (fail)
    go_wp2
    go_ret2
    exact ⟨rfl, HQ.out _ _ Q1.out⟩)

/-- ZZnext is next. -/
theorem zznext {S : Nat} {w : World} {Q : Ending → World → Prop} (h : Calls Tryf.prog 10 #[.pointer (some ⟨S, 0, none⟩)] w Q) (hQ : ∀ e w', Q e w' → ∃ u v, e = .returned (.tuple #[u, v])) : Calls Tryf.prog 7 #[.pointer (some ⟨S, 0, none⟩)] w Q := by
  have H := Lib.hid h
  have HQ := Lib.hid hQ
  clear h hQ
  go_enter Tryf.func7, Tryf.ntmps7
  go_wp2_with (
    go_at_call 10
    refine H.out.mono ?_
    intro e w' hq
    obtain ⟨u, v, rfl⟩ := HQ.out e w' hq
    have HH := Lib.hid hq
    clear hq)
  exact HH.out

end Go.Proofs.Qxb6614070aFmt.Nx
