/- What stands in memory between the calls of next; each call carries it on. -/
import Derived.Test.Qxb6614070aFmtNext
namespace Go.Proofs.Qxb6614070aFmt.Nx
open Go.RowKit Go.Stop
set_option linter.unusedVariables false

/-- A slice that is nil, or the head of a row of its own that holds xs. -/
def Lies (D : Nat) (ao : Option Addr) (xs : List Value) (w : World) : Prop := (xs = [] ∧ (ao = none ∨ ∃ d, ao = some ⟨d, 0, none⟩)) ∨ (ao = some ⟨D, 0, none⟩ ∧ w.heap[D]? = some (.cells xs.toArray 5 (0, 0)))

theorem Lies.same {D : Nat} {ao : Option Addr} {xs : List Value} {w w' : World} (h : Lies D ao xs w) (hd : xs ≠ [] → w'.heap[D]? = w.heap[D]?) : Lies D ao xs w' := by
  by_cases hx : xs = []
  · rcases h with h | ⟨h, _⟩
    · exact Or.inl h
    · exact Or.inl ⟨hx, Or.inr ⟨D, h⟩⟩
  · rcases h with h | ⟨h, h2⟩
    · exact absurd h.1 hx
    · exact Or.inr ⟨h, (hd hx).trans h2⟩

theorem Lies.lt {D : Nat} {ao : Option Addr} {xs : List Value} {w : World} (h : Lies D ao xs w) (hx : xs ≠ []) : D < w.heap.size := by
  rcases h with h | ⟨_, h2⟩
  · exact absurd h.1 hx
  · exact Lib.lt_of_heap h2

theorem Lies.cell {D : Nat} {ao : Option Addr} {xs : List Value} {w : World} (h : Lies D ao xs w) {j : Nat} {v : Value} (hj : xs[j]? = some v) : ao = some ⟨D, 0, none⟩ ∧ w.cell? ⟨D, j, none⟩ = some v := by
  rcases h with h | ⟨h, h2⟩
  · rw [h.1] at hj; cases hj
  · refine ⟨h, ?_⟩
    rw [Lib.cell_of_heap h2]
    simpa using hj

theorem clone_any (ao : Option Addr) (n c : Nat) (xs : List Value) (w : World) (hin : Came ao n c xs w) (hn : n ≤ 1048576) (h1 : ∀ v ∈ xs, v.oneCell' = true) (hw : 0 < w.heap.size) :
    Calls Tryf.prog 5 #[.slice ao n c] w fun e w' => ∃ ao' D, e = .returned (.slice ao' n n) ∧ Lies D ao' xs w' ∧ Below w.heap.size w w' ∧ D < w'.heap.size ∧ Came ao' n n xs w' := by
  rcases hin with ⟨rfl, rfl, rfl, rfl⟩ | ⟨a, rfl, hxl, hsrc⟩
  · refine (clone_nil w).mono ?_
    rintro e w' ⟨rfl, rfl⟩
    exact ⟨none, 0, rfl, Or.inl ⟨rfl, Or.inl rfl⟩, Below.refl _ _, hw, Or.inl ⟨rfl, rfl, rfl, rfl⟩⟩
  · refine (clone_some a n c xs w hn hxl hsrc h1).mono ?_
    rintro e w' ⟨rfl, hh, hz, hb⟩
    refine ⟨some ⟨w.heap.size, 0, none⟩, w.heap.size, rfl, Or.inr ⟨rfl, hh⟩, hb, by omega, Or.inr ⟨_, rfl, hxl, fun j v hj => ?_⟩⟩
    rw [Lib.addr_add, Nat.zero_add, Lib.cell_of_heap hh]
    simpa using hj

/-- The blocks: the scanner's three are new and each another; the others lie below them. -/
structure Geo (S R SB D B D2 base : Nat) : Prop where
  bsb : base ≤ SB
  sbr : SB < R
  rs : R < S
  d : D < SB
  b : B < SB
  d2 : D2 < SB
  pos : 0 < base

def Inv (S R SB D B D2 n cap base : Nat) (ao bo a2 : Option Addr) (xs ys : List Value) (pos bl : Nat) (at_ st : Int) (en : Bool) (cs : List Value) (w0 w : World) : Prop :=
  ∃ pr cur, w.heap[S]? = some (.cells (scn R SB bl cap at_ st en) 40 (0, 0)) ∧ bl ≤ cap ∧ w.heap[R]? = some (.cells #[.slice a2 n n, .int .i64 ((pos : Nat) : Int), .int .i64 pr] 43 (0, 0)) ∧
    w.heap[SB]? = some (.cells cur 5 (0, 0)) ∧ cur.size = cap ∧ cur.toList.take bl = cs ∧ Lies D ao xs w ∧ Lies B bo ys w ∧ Lies D2 a2 xs w ∧ Below base w0 w

section
variable {S R SB D B D2 n cap base : Nat} {ao bo a2 : Option Addr} {xs ys : List Value} {pos bl : Nat} {at_ st : Int} {en : Bool} {cs : List Value} {w0 w : World}

theorem Inv.heap {w' : World} (h : Inv S R SB D B D2 n cap base ao bo a2 xs ys pos bl at_ st en cs w0 w) (hh : w'.heap = w.heap) (h1 : w'.os = w.os) (h2 : w'.tape = w.tape) (h3 : w'.output = w.output) : Inv S R SB D B D2 n cap base ao bo a2 xs ys pos bl at_ st en cs w0 w' := by
  obtain ⟨pr, cur, q1, q2, q3, q4, q5, q6, q7, q8, q9, q10⟩ := h
  refine ⟨pr, cur, by rw [hh]; exact q1, q2, by rw [hh]; exact q3, by rw [hh]; exact q4, q5, q6, q7.same (fun _ => by rw [hh]), q8.same (fun _ => by rw [hh]), q9.same (fun _ => by rw [hh]), ?_⟩
  exact ⟨h1.trans q10.os, h2.trans q10.tape, h3.trans q10.output, by rw [hh]; exact q10.size, fun k hk => by rw [hh]; exact q10.block k hk⟩

theorem Inv.drewN (h : Inv S R SB D B D2 n cap base ao bo a2 xs ys pos bl at_ st en cs w0 w) (k : Nat) : Inv S R SB D B D2 n cap base ao bo a2 xs ys pos bl at_ st en cs w0 (w.drewN k) := h.heap rfl rfl rfl rfl

theorem Inv.below (h : Inv S R SB D B D2 n cap base ao bo a2 xs ys pos bl at_ st en cs w0 w) : Below base w0 w := by
  obtain ⟨pr, cur, q1, q2, q3, q4, q5, q6, q7, q8, q9, q10⟩ := h
  exact q10

/-- Behind a call that makes memory alone. -/
theorem Inv.grow {w' : World} (g : Geo S R SB D B D2 base) (h : Inv S R SB D B D2 n cap base ao bo a2 xs ys pos bl at_ st en cs w0 w) (hb : Below w.heap.size w w') : Inv S R SB D B D2 n cap base ao bo a2 xs ys pos bl at_ st en cs w0 w' := by
  obtain ⟨pr, cur, q1, q2, q3, q4, q5, q6, q7, q8, q9, q10⟩ := h
  have hSl := Lib.lt_of_heap q1
  have g1 := g.sbr; have g2 := g.rs; have g3 := g.d; have g4 := g.b; have g5 := g.d2; have g6 := g.bsb
  have hz := q10.size
  refine ⟨pr, cur, (hb.block S hSl).trans q1, q2, (hb.block R (by omega)).trans q3, (hb.block SB (by omega)).trans q4, q5, q6, q7.same (fun _ => hb.block D (by omega)), q8.same (fun _ => hb.block B (by omega)), q9.same (fun _ => hb.block D2 (by omega)), q10.trans (hb.mono (by omega))⟩

/-- Behind a call that turns the scanner's own block alone. -/
theorem Inv.turn {w' : World} {bl' : Nat} {at' st' : Int} {en' : Bool} (g : Geo S R SB D B D2 base) (h : Inv S R SB D B D2 n cap base ao bo a2 xs ys pos bl at_ st en cs w0 w) (hs : w'.heap[S]? = some (.cells (scn R SB bl' cap at' st' en') 40 (0, 0))) (hbl : bl' ≤ cap) (hk : Kept2 S S w w') :
    ∃ cs', (bl' = bl → cs' = cs) ∧ Inv S R SB D B D2 n cap base ao bo a2 xs ys pos bl' at' st' en' cs' w0 w' := by
  obtain ⟨pr, cur, q1, q2, q3, q4, q5, q6, q7, q8, q9, q10⟩ := h
  have g1 := g.sbr; have g2 := g.rs; have g3 := g.d; have g4 := g.b; have g5 := g.d2; have g6 := g.bsb
  have hb : ∀ k, k ≠ S → w'.heap[k]? = w.heap[k]? := fun k h => hk.block k h h
  refine ⟨cur.toList.take bl', fun e => by rw [e]; exact q6, pr, cur, hs, hbl, (hb R (by omega)).trans q3, (hb SB (by omega)).trans q4, q5, rfl, q7.same (fun _ => hb D (by omega)), q8.same (fun _ => hb B (by omega)), q9.same (fun _ => hb D2 (by omega)), ?_⟩
  exact q10.trans ⟨hk.os, hk.tape, hk.output, Nat.le_of_eq hk.size.symm, fun k h => hb k (by omega)⟩

/-- next where the scan stands on a byte. -/
theorem nextA (h : Inv S R SB D B D2 n cap base ao bo a2 xs ys pos bl at_ st en cs w0 w) (hcap : cap ≤ 65536) (k : Nat) (hat : at_ = (k : Int)) (hk : k < bl) (x : Int) (hx : cs[k]? = some (.int .u8 x)) :
    Calls Tryf.prog 7 #[.pointer (some ⟨S, 0, none⟩)] w fun e w' => e = .returned (.tuple #[.int .u8 x, .nilIface]) ∧ Inv S R SB D B D2 n cap base ao bo a2 xs ys pos bl at_ st en cs w0 w' := by
  have hh := h
  obtain ⟨pr, cur, q1, q2, q3, q4, q5, q6, q7, q8, q9, q10⟩ := h
  subst hat
  refine (zznext (next_here S R SB bl cap k st x en w q1 hk q2 hcap ?_) ?_).mono ?_
  · have := Lib.cells_of_row q4 bl k (.int .u8 x) (by rw [q6]; exact hx)
    rwa [Lib.addr_add, Nat.zero_add] at this
  · rintro e w' ⟨rfl, _⟩; exact ⟨_, _, rfl⟩
  · rintro e w' ⟨rfl, q, rfl⟩
    exact ⟨rfl, hh.drewN q⟩

/-- next where the buffer is spent and the answer has ended: an error; the scanner stands. -/
theorem nextC (F : Interp) (hF : F.answers w.tape) (g : Geo S R SB D B D2 base) (h : Inv S R SB D B D2 n cap base ao bo a2 xs ys pos bl at_ st true cs w0 w) (hat : at_ = (bl : Int)) :
    Calls Tryf.prog 7 #[.pointer (some ⟨S, 0, none⟩)] w fun e w' => (∃ p, e = .returned (.tuple #[.int .u8 0, .iface 52 (.pointer (some p))])) ∧ Inv S R SB D B D2 n cap base ao bo a2 xs ys pos bl at_ st true cs w0 w' ∧ F.answers w'.tape := by
  have hh := h
  obtain ⟨pr, cur, q1, q2, q3, q4, q5, q6, q7, q8, q9, q10⟩ := h
  subst hat
  refine (zznext (next_none F S R SB bl cap st true R SB bl cap (bl : Int) st true w hF q1 ?_) ?_).mono ?_
  · intro W hW _
    refine (fill_ended S R SB bl cap (bl : Int) st W (by rw [hW]; exact q1)).mono ?_
    rintro e w' ⟨rfl, rfl⟩
    exact ⟨rfl, by rw [hW]; exact q1, ⟨rfl, rfl, rfl, rfl, fun _ _ _ => rfl⟩⟩
  · rintro e w' ⟨⟨p, rfl⟩, _⟩; exact ⟨_, _, rfl⟩
  · rintro e w' ⟨⟨p, rfl⟩, w1, s1, k1, b1⟩
    obtain ⟨cs', hcs, hi⟩ := hh.turn g s1 q2 k1
    rw [hcs rfl] at hi
    exact ⟨⟨p, rfl⟩, hi.grow g b1, by rw [b1.tape, k1.tape]; exact hF⟩

/-- next where the buffer is spent and no byte is left: an error; the scanner has ended. -/
theorem nextD (F : Interp) (hF : F.answers w.tape) (g : Geo S R SB D B D2 base) (h : Inv S R SB D B D2 n cap base ao bo a2 xs ys pos bl at_ st false cs w0 w) (hcap : cap ≤ 65536) (hat : at_ = (bl : Int)) (hpos : n ≤ pos) (p : Addr) (hg : w0.cell? ⟨0, 0, none⟩ = some (.iface 52 (.pointer (some p)))) :
    Calls Tryf.prog 7 #[.pointer (some ⟨S, 0, none⟩)] w fun e w' => (∃ p, e = .returned (.tuple #[.int .u8 0, .iface 52 (.pointer (some p))])) ∧ (∃ cs', Inv S R SB D B D2 n cap base ao bo a2 xs ys pos 0 0 (wrap64 (st + (bl : Int))) true cs' w0 w') ∧ F.answers w'.tape := by
  have hh := h
  obtain ⟨pr, cur, q1, q2, q3, q4, q5, q6, q7, q8, q9, q10⟩ := h
  subst hat
  have g1 := g.sbr; have g2 := g.rs; have g6 := g.bsb; have g7 := g.pos
  refine (zznext (next_none F S R SB bl cap st false R SB 0 cap 0 (wrap64 (st + (bl : Int))) true w hF q1 ?_) ?_).mono ?_
  · intro W hW _
    refine (fill_eof S R SB bl cap n n pos a2 p (bl : Int) st pr W (by rw [hW]; exact q1) q2 hcap (by rw [hW]; exact q3) (by omega) (by omega) hpos ?_).mono ?_
    · have h1 : w.cell? ⟨0, 0, none⟩ = some (.iface 52 (.pointer (some p))) := (q10.cell (p := ⟨0, 0, none⟩) g7).trans hg
      rw [← h1]
      exact World.cell?_of_block (by rw [hW])
    · rintro e w' ⟨rfl, hd⟩
      exact ⟨rfl, hd.1, hd.2⟩
  · rintro e w' ⟨⟨p, rfl⟩, _⟩; exact ⟨_, _, rfl⟩
  · rintro e w' ⟨⟨p, rfl⟩, w1, s1, k1, b1⟩
    obtain ⟨cs', _, hi⟩ := hh.turn g s1 (Nat.zero_le _) k1
    exact ⟨⟨p, rfl⟩, ⟨cs', hi.grow g b1⟩, by rw [b1.tape, k1.tape]; exact hF⟩

/-- next where the buffer is spent and bytes are left: the first of them. -/
theorem nextB (g : Geo S R SB D B D2 base) (h : Inv S R SB D B D2 n cap base ao bo a2 xs ys 0 bl at_ st false cs w0 w) (hcap : cap ≤ 65536) (hcap1 : 1 ≤ cap) (hn : n ≤ 1048576) (hn1 : 1 ≤ n) (hxl : xs.length = n) (h1 : ∀ v ∈ xs, v.oneCell' = true) (hat : at_ = (bl : Int)) (x : Int) (hx : xs[0]? = some (.int .u8 x)) :
    Calls Tryf.prog 7 #[.pointer (some ⟨S, 0, none⟩)] w fun e w' => e = .returned (.tuple #[.int .u8 x, .nilIface]) ∧ ∃ m cs', 1 ≤ m ∧ cs'[0]? = some (.int .u8 x) ∧ Inv S R SB D B D2 n cap base ao bo a2 xs ys m m 0 (wrap64 (st + (bl : Int))) false cs' w0 w' := by
  have hh := h
  obtain ⟨pr, cur, q1, q2, q3, q4, q5, q6, q7, q8, q9, q10⟩ := h
  subst hat
  have g1 := g.sbr; have g2 := g.rs; have g3 := g.d; have g4 := g.b; have g5 := g.d2; have g6 := g.bsb; have g7 := g.pos
  obtain ⟨ha2, _⟩ := q9.cell hx
  subst ha2
  have hx0 : xs ≠ [] := fun e => by rw [e] at hx; cases hx
  refine (zznext (next_more S R SB bl cap (min (n - 0) cap) st (wrap64 (st + (bl : Int))) x (fun w' => ∃ m cs', 1 ≤ m ∧ cs'[0]? = some (.int .u8 x) ∧ Inv S R SB D B D2 n cap base ao bo (some ⟨D2, 0, none⟩) xs ys m m 0 (wrap64 (st + (bl : Int))) false cs' w0 w') ?_ w q1 (by omega) (by omega) hcap ?_) ?_).mono ?_
  · rintro w k ⟨m, cs', e1, e2, hi⟩
    exact ⟨m, cs', e1, e2, hi.drewN k⟩
  · intro W hW ho ht hou
    refine (fill_some S R SB bl cap n n 0 (min (n - 0) cap) ⟨D2, 0, none⟩ (bl : Int) st pr xs cur W (by rw [hW]; exact q1) q2 hcap hcap1 (by rw [hW]; exact q3) (by rw [hW]; exact q4) q5 (by omega) (by omega) (by omega) (Nat.le_refl _) hn (by omega) rfl (by show D2 ≠ S; omega) (by show D2 ≠ R; omega) rfl hxl ?_ h1).mono ?_
    · intro j v hj
      rw [Lib.addr_add, Nat.zero_add]
      have := (q9.cell hj).2
      rw [← this]
      exact World.cell?_of_block (by rw [hW])
    · rintro e w' ⟨rfl, pr', cur', s', r', b', cs', ck', k'⟩
      have hb : ∀ k, k ≠ S → k ≠ R → k ≠ SB → w'.heap[k]? = w.heap[k]? := fun k e1 e2 e3 => by rw [k'.block k e1 e2 e3, hW]
      have hck : ((xs.drop 0).take (min (n - 0) cap))[0]? = some (.int .u8 x) := by
        rw [List.drop_zero, List.getElem?_take, if_pos (by omega)]; exact hx
      refine ⟨rfl, s', ?_, min (n - 0) cap, (xs.drop 0).take (min (n - 0) cap), by omega, hck, pr', cur', s', by omega, ?_, b', cs', ck', q7.same (fun _ => hb D (by omega) (by omega) (by omega)), q8.same (fun _ => hb B (by omega) (by omega) (by omega)), q9.same (fun _ => hb D2 (by omega) (by omega) (by omega)), ?_⟩
      · have := Lib.cells_of_row b' (min (n - 0) cap) 0 (.int .u8 x) (by rw [ck']; exact hck)
        rwa [Lib.addr_add, Nat.zero_add] at this
      · rw [Nat.zero_add] at r'; exact r'
      · exact q10.trans ⟨k'.os.trans ho, k'.tape.trans ht, k'.output.trans hou, by rw [k'.size, hW]; exact Nat.le_refl _, fun k hk => hb k (by omega) (by omega) (by omega)⟩
  · rintro e w' ⟨rfl, _⟩; exact ⟨_, _, rfl⟩
  · rintro e w' ⟨rfl, hq⟩
    exact ⟨rfl, hq⟩

theorem state_inv (h : Inv S R SB D B D2 n cap base ao bo a2 xs ys pos bl at_ st en cs w0 w) :
    Calls Tryf.prog 8 #[.pointer (some ⟨S, 0, none⟩)] w fun e w' => e = .returned (.tuple #[.slice (some ⟨SB, 0, none⟩) bl cap, .int .i64 at_, .int .i64 st, .bool en, .nilIface, .nilIface]) ∧ Inv S R SB D B D2 n cap base ao bo a2 xs ys pos bl at_ st en cs w0 w' ∧ w'.tape = w.tape := by
  have hh := h
  obtain ⟨pr, cur, q1, q2, q3, q4, q5, q6, q7, q8, q9, q10⟩ := h
  refine (state_any S _ _ _ _ _ bl cap at_ st en _ _ rfl rfl w q1).mono ?_
  rintro e w' ⟨rfl, k, rfl⟩
  exact ⟨rfl, hh.drewN k, rfl⟩

end

end Go.Proofs.Qxb6614070aFmt.Nx
