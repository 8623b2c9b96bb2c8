/- The walk of FnFillDeliversTheAnswerAndItsCopy. -/
import Derived.Test.Qxb6614070aDoorInv
namespace Go.Proofs.Qxb6614070aDoor.Buf
open Go.RowKit
set_option linter.unusedVariables false

/-- A slice that came in: nil, or with its cells known. -/
def Came (ao : Option Addr) (n c : Nat) (xs : List Value) (w : World) : Prop :=
  (ao = none ∧ n = 0 ∧ c = 0 ∧ xs = []) ∨ (∃ a, ao = some a ∧ xs.length = n ∧ ∀ j v, xs[j]? = some v → w.cell? (a.add j) = some v)

theorem clone_any (ao : Option Addr) (n c : Nat) (xs : List Value) (w : World) (hin : Came ao n c xs w) (hn : n ≤ 1048576) (h1 : ∀ v ∈ xs, v.oneCell' = true) (hw : 0 < w.heap.size) :
    Calls Tryd.prog 7 #[.slice ao n c] w fun e w' => ∃ ao' D, e = .returned (.slice ao' n n) ∧ Lies D ao' xs w' ∧ Below w.heap.size w w' ∧ D < w'.heap.size ∧ Came ao' n n xs w' := by
  rcases hin with ⟨rfl, rfl, rfl, rfl⟩ | ⟨a, rfl, hxl, hsrc⟩
  · refine (clone_nil w).mono ?_
    rintro e w' ⟨rfl, rfl⟩
    exact ⟨none, 0, rfl, Or.inl ⟨rfl, Or.inl rfl⟩, Below.refl _ _, hw, Or.inl ⟨rfl, rfl, rfl, rfl⟩⟩
  · refine (clone_some a n c xs w hn hxl hsrc h1).mono ?_
    rintro e w' ⟨rfl, hh, hz, hb⟩
    refine ⟨some ⟨w.heap.size, 0, none⟩, w.heap.size, rfl, Or.inr ⟨rfl, hh⟩, hb, by omega, Or.inr ⟨_, rfl, hxl, fun j v hj => ?_⟩⟩
    rw [Lib.addr_add, Nat.zero_add, Lib.cell_of_heap hh]
    simpa using hj

section
variable {S R b SB G D E n cap base : Nat} {ao bo : Option Addr} {xs : List Value} {pos gpos bl : Nat} {en : Bool} {ck : List Value} {w0 w : World}

theorem cells_int {zs : List Int} {xs : List Value} (hx : xs = zs.map (fun z => Value.int .u8 z)) {w : World} {g n : Nat} (hl : xs.length = n) (h : ∀ j v, xs[j]? = some v → w.cell? ⟨g, j, none⟩ = some v) :
    ∀ j, j < n → w.cell? ⟨g, j, none⟩ = some (.int .u8 (zs.getD j 0)) := by
  intro j hj
  refine h j _ ?_
  subst hx
  rw [List.length_map] at hl
  rw [List.getElem?_map, List.getElem?_eq_getElem (by omega), List.getD_eq_getElem?_getD, List.getElem?_eq_getElem (by omega)]
  rfl

/-- Two slices that hold xs are the same bytes. -/
theorem same_cells (zs : List Int) (hx : xs = zs.map (fun z => Value.int .u8 z)) (hxl : xs.length = n) (hn : n ≤ 1048576) (va vb : Option Addr) (ca cb : Nat) (w : World)
    (ha : xs = [] ∨ ∃ g, va = some ⟨g, 0, none⟩ ∧ ∀ j v, xs[j]? = some v → w.cell? ⟨g, j, none⟩ = some v) (hb : xs = [] ∨ ∃ g, vb = some ⟨g, 0, none⟩ ∧ ∀ j v, xs[j]? = some v → w.cell? ⟨g, j, none⟩ = some v) :
    Calls Tryd.prog 12 #[.slice va n ca, .slice vb n cb] w fun e w' => e = .returned (.bool true) ∧ ∃ k, w' = w.drewN k := by
  by_cases h0 : xs = []
  · have : n = 0 := by rw [← hxl, h0]; rfl
    subst this
    refine (same_zero va vb ca cb w).mono ?_
    rintro e w' ⟨rfl, rfl⟩
    exact ⟨rfl, 0, rfl⟩
  · obtain ⟨g, rfl, hg⟩ := ha.resolve_left h0
    obtain ⟨h, rfl, hh⟩ := hb.resolve_left h0
    exact same_pos g h n ca cb zs w hn (cells_int hx hxl hg) (cells_int hx hxl hh)

theorem Lies.cells {D : Nat} {ao : Option Addr} {xs : List Value} {w : World} (h : Lies D ao xs w) : xs = [] ∨ ∃ g, ao = some ⟨g, 0, none⟩ ∧ ∀ j v, xs[j]? = some v → w.cell? ⟨g, j, none⟩ = some v := by
  rcases h with h | ⟨h, h2⟩
  · exact Or.inl h.1
  · refine Or.inr ⟨D, h, fun j v hj => ?_⟩
    rw [Lib.cell_of_heap h2]
    simpa using hj

/-- zzSameBytes(got, want), once all is gathered. -/
theorem same_got (zs : List Int) (hx : xs = zs.map (fun z => Value.int .u8 z)) (hxl : xs.length = n) (hn : n ≤ 1048576) (h : Inv S R b SB G D E n cap base ao bo xs pos n bl en ck w0 w) :
    Calls Tryd.prog 12 #[.slice (some ⟨G, 0, none⟩) n n, .slice bo n n] w fun e w' => e = .returned (.bool true) ∧ Inv S R b SB G D E n cap base ao bo xs pos n bl en ck w0 w' := by
  have hh := h
  obtain ⟨o, at_, st, pr, cur, gc, hS, hbl, hR, hSB, hcs, hck, hB, hG, hgs, hgt, hD, hE, hA, hb⟩ := h
  refine (same_cells zs hx hxl hn _ _ n n w (Or.inr ⟨G, rfl, fun j v hj => ?_⟩) hE.cells).mono ?_
  · have hgx : gc.toList = xs := by
      rw [List.take_of_length_le (by rw [Array.length_toList]; omega), List.take_of_length_le (by omega)] at hgt
      exact hgt
    rw [Lib.cell_of_heap hG, ← Array.getElem?_toList, hgx]
    exact hj
  · rintro e w' ⟨rfl, k, rfl⟩
    exact ⟨rfl, hh.drewN k⟩

/-- What ZZbufferBytes hands back. -/
def Holds (v : Option Addr) (xs : List Value) (w : World) : Prop := xs = [] ∨ ∃ g, v = some ⟨g, 0, none⟩ ∧ ∀ j u, xs[j]? = some u → w.cell? ⟨g, j, none⟩ = some u

theorem bytes_inv (hxl : xs.length = n) (hpos : pos ≤ n) (h : Inv S R b SB G D E n cap base ao bo xs pos gpos bl en ck w0 w) :
    Calls Tryd.prog 11 #[.pointer (some ⟨b, 0, none⟩)] w fun e w' => ∃ v c, e = .returned (.slice v pos c) ∧ Holds v (xs.take pos) w' ∧ Inv S R b SB G D E n cap base ao bo xs pos gpos bl en ck w0 w' := by
  have hh := h
  obtain ⟨o, at_, st, pr, cur, gc, hS, hbl, hR, hSB, hcs, hck, hB, hG, hgs, hgt, hD, hE, hA, hb⟩ := h
  have hl : (xs.take pos).length = pos := by rw [List.length_take]; omega
  refine (bufferBytes_any b o (xs.take pos) w hB).mono ?_
  rintro e w' ⟨v, c, rfl, h2, _, k, rfl⟩
  rw [hl]
  exact ⟨v, c, rfl, h2, hh.drewN k⟩

theorem same_buf (zs : List Int) (hx : xs = zs.map (fun z => Value.int .u8 z)) (hxl : xs.length = n) (hn : n ≤ 1048576) (v : Option Addr) (c : Nat) (hv : Holds v (xs.take n) w) (h : Inv S R b SB G D E n cap base ao bo xs pos gpos bl en ck w0 w) :
    Calls Tryd.prog 12 #[.slice v n c, .slice bo n n] w fun e w' => e = .returned (.bool true) ∧ Inv S R b SB G D E n cap base ao bo xs pos gpos bl en ck w0 w' := by
  have hh := h
  obtain ⟨o, at_, st, pr, cur, gc, hS, hbl, hR, hSB, hcs, hck, hB, hG, hgs, hgt, hD, hE, hA, hb⟩ := h
  rw [List.take_of_length_le (by omega)] at hv
  refine (same_cells zs hx hxl hn _ _ c n w hv hE.cells).mono ?_
  rintro e w' ⟨rfl, k, rfl⟩
  exact ⟨rfl, hh.drewN k⟩

theorem Inv.below (h : Inv S R b SB G D E n cap base ao bo xs pos gpos bl en ck w0 w) : Below base w0 w := by
  obtain ⟨o, at_, st, pr, cur, gc, hS, hbl, hR, hSB, hcs, hck, hB, hG, hgs, hgt, hD, hE, hA, hb⟩ := h
  exact hb

end

/-- The invariant at the loop's first head. -/
theorem inv_start {ao bo : Option Addr} {n bl cap D E : Nat} {st : Int} {en : Bool} {xs : List Value} {w w2 w3 : World} {S b : Nat} {Z : Array Value} (hw : 0 < w.heap.size) (hb2 : Below w.heap.size w w2) (hD : Lies D ao xs w2) (hE : Lies E bo xs w2) (hDl : D < w2.heap.size) (hEl : E < w2.heap.size)
    (hm : Made ao n n bl cap st en w2 w3 S b) (hbl : bl ≤ cap) (hZ : Z.size = n) :
    ∃ R SB ck, Geo S R b SB w3.heap.size D E w.heap.size ∧ Inv S R b SB w3.heap.size D E n cap w.heap.size ao bo xs 0 0 bl en ck w (w3.alloc (.cells Z 5)) := by
  obtain ⟨R, SB, M, q1, q2, q3, q4, q5, q6, hS, hR, hSB, hM, hb, hb3⟩ := hm
  have hsz := hb2.size
  have hSl := Lib.lt_of_heap hS
  have hold : ∀ k, k < w3.heap.size → (w3.alloc (.cells Z 5)).heap[k]? = w3.heap[k]? := fun k hk => Below.heap_alloc _ _ _ hk
  refine ⟨R, SB, M.toList.take bl, ⟨by omega, by omega, by omega, by omega, by omega, by omega, by omega, by omega, by omega, by omega, by omega, by omega, by omega, by omega, by omega, by omega, by omega, by omega, by omega, by omega, by omega, by omega, by omega, by omega, by omega, hw⟩, ?_⟩
  refine ⟨none, 0, st, -1, M, Z, (hold S hSl).trans hS, hbl, (hold R (by omega)).trans hR, (hold SB (by omega)).trans hSB, hM, rfl, ⟨0, Or.inl ⟨by simp, rfl, (hold b (by omega)).trans hb⟩⟩, heap_alloc_new _ _, hZ, by simp, ?_, ?_, (fun k hk => by cases hk), ?_⟩
  · exact hD.same (fun _ => (hold D (by have := hb3.size; omega)).trans (hb3.block D hDl))
  · exact hE.same (fun _ => (hold E (by have := hb3.size; omega)).trans (hb3.block E hEl))
  · exact (hb2.trans (hb3.mono hsz)).alloc (by have := hb3.size; omega) _

end Go.Proofs.Qxb6614070aDoor.Buf
