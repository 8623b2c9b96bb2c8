/- What stands in memory between two calls of fill: the invariant of the law's loop; fill, scanState and append carry it on. -/
import Derived.Test.Qxb6614070aDoorEof
namespace Go.Proofs.Qxb6614070aDoor.Buf
open Go.RowKit
set_option linter.unusedVariables false

/-- A slice that is nil, or the head of a row of its own that holds xs. -/
def Lies (D : Nat) (ao : Option Addr) (xs : List Value) (w : World) : Prop := (xs = [] ∧ (ao = none ∨ ∃ d, ao = some ⟨d, 0, none⟩)) ∨ (ao = some ⟨D, 0, none⟩ ∧ w.heap[D]? = some (.cells xs.toArray 5 (0, 0)))

/-- The blocks: each another. -/
structure Geo (S R b SB G D E base : Nat) : Prop where
  sr : S ≠ R
  ssb : S ≠ SB
  sb : S ≠ b
  rsb : R ≠ SB
  rb : R ≠ b
  sbb : SB ≠ b
  gs : G ≠ S
  gr : G ≠ R
  gsb : G ≠ SB
  gb : G ≠ b
  ds : D ≠ S
  dr : D ≠ R
  dsb : D ≠ SB
  db : D ≠ b
  dg : D ≠ G
  es : E ≠ S
  er : E ≠ R
  esb : E ≠ SB
  eb : E ≠ b
  eg : E ≠ G
  bs : base ≤ S
  br : base ≤ R
  bsb : base ≤ SB
  bb : base ≤ b
  bg : base ≤ G
  pos : 0 < base

/-- The row of the buffer lies apart. -/
def Apart (S R SB G D E base : Nat) (o : Option Nat) : Prop := ∀ k, o = some k → base ≤ k ∧ k ≠ S ∧ k ≠ R ∧ k ≠ SB ∧ k ≠ G ∧ k ≠ D ∧ k ≠ E

def Inv (S R b SB G D E n cap base : Nat) (ao bo : Option Addr) (xs : List Value) (pos gpos bl : Nat) (en : Bool) (ck : List Value) (w0 w : World) : Prop :=
  ∃ o at_ st pr cur gc, w.heap[S]? = some (.cells (scn R b SB bl cap at_ st en) 62 (0, 0)) ∧ bl ≤ cap ∧
    w.heap[R]? = some (.cells #[.slice ao n n, .int .i64 ((pos : Nat) : Int), .int .i64 pr] 85 (0, 0)) ∧
    w.heap[SB]? = some (.cells cur 5 (0, 0)) ∧ cur.size = cap ∧ cur.toList.take bl = ck ∧ Buf b o (xs.take pos) w ∧
    w.heap[G]? = some (.cells gc 5 (0, 0)) ∧ gc.size = n ∧ gc.toList.take gpos = xs.take gpos ∧ Lies D ao xs w ∧ Lies E bo xs w ∧ Apart S R SB G D E base o ∧ Below base w0 w

section
variable {S R b SB G D E n cap base : Nat} {ao bo : Option Addr} {xs : List Value} {pos gpos bl : Nat} {en : Bool} {ck : List Value} {w0 w : World}

theorem Lies.same {D : Nat} {ao : Option Addr} {xs : List Value} {w w' : World} (h : Lies D ao xs w) (hd : xs ≠ [] → w'.heap[D]? = w.heap[D]?) : Lies D ao xs w' := by
  by_cases hx : xs = []
  · rcases h with h | ⟨h, _⟩
    · exact Or.inl h
    · exact Or.inl ⟨hx, Or.inr ⟨D, h⟩⟩
  · rcases h with h | ⟨h, h2⟩
    · exact absurd h.1 hx
    · exact Or.inr ⟨h, (hd hx).trans h2⟩

theorem Lies.lt {D : Nat} {ao : Option Addr} {xs : List Value} {w : World} (h : Lies D ao xs w) (hx : xs ≠ []) : D < w.heap.size := by
  rcases h with h | ⟨_, h2⟩
  · exact absurd h.1 hx
  · exact Lib.lt_of_heap h2

theorem Inv.drewN (h : Inv S R b SB G D E n cap base ao bo xs pos gpos bl en ck w0 w) (k : Nat) : Inv S R b SB G D E n cap base ao bo xs pos gpos bl en ck w0 (w.drewN k) := by
  obtain ⟨o, at_, st, pr, cur, gc, h1, h2, h3, h4, h5, h6, h7, h8, h9, h10, h11, h12, h13, h14⟩ := h
  exact ⟨o, at_, st, pr, cur, gc, h1, h2, h3, h4, h5, h6, h7.same rfl (fun _ _ => rfl), h8, h9, h10, h11.same (fun _ => rfl), h12.same (fun _ => rfl), h13, ⟨h14.os, h14.tape, h14.output, h14.size, h14.block⟩⟩

/-- fill where bytes are left. -/
theorem fill_inv_some (g : Geo S R b SB G D E base) (h : Inv S R b SB G D E n cap base ao bo xs pos gpos bl false ck w0 w) (hcap : cap ≤ 65536) (hcap1 : 1 ≤ cap) (hn : n ≤ 1048576) (hxl : xs.length = n) (h1 : ∀ v ∈ xs, v.oneCell' = true) (hpos : pos < n) :
    Calls Tryd.prog 21 #[.pointer (some ⟨S, 0, none⟩)] w fun e w' => e = .returned (.bool true) ∧ ∃ m, 1 ≤ m ∧ pos + m ≤ n ∧ m ≤ cap ∧ Inv S R b SB G D E n cap base ao bo xs (pos + m) gpos m false ((xs.drop pos).take m) w0 w' := by
  obtain ⟨o, at_, st, pr, cur, gc, hS, hbl, hR, hSB, hcs, hck, hB, hG, hgs, hgt, hD, hE, hA, hb⟩ := h
  have hx0 : xs ≠ [] := fun e => by rw [e] at hxl; simp at hxl; omega
  obtain ⟨hao, hDh⟩ : ao = some ⟨D, 0, none⟩ ∧ w.heap[D]? = some (.cells xs.toArray 5 (0, 0)) := by
    rcases hD with hD | hD
    · exact absurd hD.1 hx0
    · exact hD
  subst hao
  have hsrc : ∀ j v, xs[j]? = some v → w.cell? ((⟨D, 0, none⟩ : Addr).add j) = some v := by
    intro j v hj
    rw [Lib.addr_add, Nat.zero_add, Lib.cell_of_heap hDh]
    simpa using hj
  have hm1 : 1 ≤ min (n - pos) cap := by omega
  have hm2 : pos + min (n - pos) cap ≤ n := by omega
  have hm3 : min (n - pos) cap ≤ cap := by omega
  have hne : ∀ k, o = some k → base ≤ k ∧ k ≠ S ∧ k ≠ R ∧ k ≠ SB ∧ k ≠ G ∧ k ≠ D ∧ k ≠ E := hA
  refine (fill_some S R b SB bl cap n n pos (min (n - pos) cap) o ⟨D, 0, none⟩ at_ st pr xs (xs.take pos) cur w hS hbl hcap hcap1 hR hSB hcs hB (fun v hv => h1 v (List.mem_of_mem_take hv))
    g.sr g.ssb g.sb g.rsb g.rb g.sbb (fun e => (hne S e).2.1 rfl) (fun e => (hne R e).2.2.1 rfl) (fun e => (hne SB e).2.2.2.1 rfl) (Nat.le_refl _) hn hpos rfl g.ds g.dr rfl hxl hsrc h1 (by rw [List.length_take]; omega)).mono ?_
  rintro e w' ⟨rfl, st', o', pr', cur', s', r', b', cs', ck', u', k', ho'⟩
  have hSl := Lib.lt_of_heap hS
  have hRl := Lib.lt_of_heap hR
  have hSBl := Lib.lt_of_heap hSB
  have hGl := Lib.lt_of_heap hG
  have hDl := hD.lt hx0
  have hEl := hE.lt hx0
  have hkeep : ∀ k, k < w.heap.size → k ≠ S → k ≠ R → k ≠ SB → k ≠ b → o ≠ some k → w'.heap[k]? = w.heap[k]? := k'.block
  refine ⟨rfl, min (n - pos) cap, hm1, hm2, hm3, o', 0, st', pr', cur', gc, s', hm3, r', b', cs', ck', ?_, ?_, hgs, hgt, ?_, ?_, ?_, ?_⟩
  · rw [List.take_add]; exact u'
  · rw [hkeep G hGl g.gs g.gr g.gsb g.gb (fun e => (hne G e).2.2.2.2.1 rfl)]; exact hG
  · exact hD.same (fun _ => hkeep D hDl g.ds g.dr g.dsb g.db (fun e => (hne D e).2.2.2.2.2.1 rfl))
  · exact hE.same (fun _ => hkeep E hEl g.es g.er g.esb g.eb (fun e => (hne E e).2.2.2.2.2.2 rfl))
  · intro k hk
    rcases ho' k hk with h | h
    · exact hA k h
    · have := hb.size
      have hgb := g.bs
      exact ⟨by omega, by omega, by omega, by omega, by omega, by omega, by omega⟩
  · refine hb.trans ⟨k'.os, k'.tape, k'.output, k'.size, fun k hk => ?_⟩
    have q1 := g.bs; have q2 := g.br; have q3 := g.bsb; have q4 := g.bb
    exact hkeep k (by omega) (by omega) (by omega) (by omega) (by omega) (fun e => by have := (hne k e).1; omega)

/-- fill at the end. -/
theorem fill_inv_eof (g : Geo S R b SB G D E base) (h : Inv S R b SB G D E n cap base ao bo xs pos gpos bl false ck w0 w) (hcap : cap ≤ 65536) (p : Addr) (hg : w0.cell? ⟨0, 0, none⟩ = some (.iface 111 (.pointer (some p)))) (hpos : n ≤ pos) :
    Calls Tryd.prog 21 #[.pointer (some ⟨S, 0, none⟩)] w fun e w' => e = .returned (.bool false) ∧ Inv S R b SB G D E n cap base ao bo xs pos gpos 0 true [] w0 w' := by
  obtain ⟨o, at_, st, pr, cur, gc, hS, hbl, hR, hSB, hcs, hck, hB, hG, hgs, hgt, hD, hE, hA, hb⟩ := h
  have q1 := g.bs
  have q0 := g.pos
  refine (fill_eof S R b SB bl cap n n pos ao p at_ st pr w hS hbl hcap hR g.sr (by omega) hpos ((hb.cell (p := ⟨0, 0, none⟩) q0).trans hg)).mono ?_
  rintro e w' ⟨rfl, st', s', k'⟩
  have hkeep : ∀ k, k ≠ S → w'.heap[k]? = w.heap[k]? := fun k h => k'.block k h h
  refine ⟨rfl, o, 0, st', pr, cur, gc, s', Nat.zero_le _, (hkeep R (Ne.symm g.sr)).trans hR, (hkeep SB (Ne.symm g.ssb)).trans hSB, hcs, by simp, ?_, (hkeep G g.gs).trans hG, hgs, hgt, ?_, ?_, hA, ?_⟩
  · exact hB.same (hkeep b (Ne.symm g.sb)) (fun k hk => hkeep k (hA k hk).2.1)
  · exact hD.same (fun _ => hkeep D g.ds)
  · exact hE.same (fun _ => hkeep E g.es)
  · exact hb.trans ⟨k'.os, k'.tape, k'.output, Nat.le_of_eq k'.size.symm, fun k hk => hkeep k (by omega)⟩

theorem fill_inv_ended (h : Inv S R b SB G D E n cap base ao bo xs pos gpos bl true ck w0 w) :
    Calls Tryd.prog 21 #[.pointer (some ⟨S, 0, none⟩)] w fun e w' => e = .returned (.bool false) ∧ w' = w := by
  obtain ⟨o, at_, st, pr, cur, gc, hS, _⟩ := h
  exact fill_ended S R b SB bl cap at_ st w hS

theorem zzfill {S : Nat} {w : World} {Q : Ending → World → Prop} (h : Calls Tryd.prog 21 #[.pointer (some ⟨S, 0, none⟩)] w Q) (hQ : ∀ e w', Q e w' → ∃ t, e = .returned (.bool t)) : Calls Tryd.prog 9 #[.pointer (some ⟨S, 0, none⟩)] w Q := by
  have H := Lib.hid h
  have HQ := Lib.hid hQ
  clear h hQ
  go_enter Tryd.func9, Tryd.ntmps9
  go_wp2_with (
    go_at_call 21
    refine H.out.mono ?_
    intro e w' hq
    obtain ⟨t, rfl⟩ := HQ.out e w' hq
    have HH := Lib.hid hq
    clear hq)
  exact HH.out

theorem state_inv (h : Inv S R b SB G D E n cap base ao bo xs pos gpos bl en ck w0 w) :
    Calls Tryd.prog 10 #[.pointer (some ⟨S, 0, none⟩)] w fun e w' => ∃ at_ st, e = .returned (.tuple #[.slice (some ⟨SB, 0, none⟩) bl cap, .int .i64 at_, .int .i64 st, .bool en, .nilIface, .nilIface]) ∧ Inv S R b SB G D E n cap base ao bo xs pos gpos bl en ck w0 w' := by
  have hh := h
  obtain ⟨o, at_, st, pr, cur, gc, hS, _⟩ := h
  refine (state_any S _ _ _ _ _ bl cap at_ st en _ _ rfl rfl w hS).mono ?_
  rintro e w' ⟨rfl, k, rfl⟩
  exact ⟨at_, st, rfl, hh.drewN k⟩

/-- 'got = append(got, chunk...)': there is room. -/
theorem append_inv (g : Geo S R b SB G D E base) {m : Nat} (h : Inv S R b SB G D E n cap base ao bo xs (pos + m) pos m en ((xs.drop pos).take m) w0 w) (hxl : xs.length = n) (h1 : ∀ v ∈ xs, v.oneCell' = true) (hm : pos + m ≤ n) :
    ∃ w', (Builtin.append_ #[22, 22] 22 #[.slice (some ⟨G, 0, none⟩) pos n, .slice (some ⟨SB, 0, none⟩) m cap]).run Tryd.prog w = .ok (.slice (some ⟨G, 0, none⟩) (pos + m) n) w' ∧ Inv S R b SB G D E n cap base ao bo xs (pos + m) (pos + m) m en ((xs.drop pos).take m) w0 w' := by
  obtain ⟨o, at_, st, pr, cur, gc, hS, hbl, hR, hSB, hcs, hck, hB, hG, hgs, hgt, hD, hE, hA, hb⟩ := h
  obtain ⟨i, hi, hz0, hz1, hz2⟩ := info5
  have hcl : ((xs.drop pos).take m).length = m := by rw [List.length_take, List.length_drop]; omega
  have hrun := run_append_room (P := Tryd.prog) w 22 22 5 i Tryd.underlying22 hi G pos n gc hG ⟨SB, 0, none⟩ m cap ((xs.drop pos).take m) (by rw [hcl, hz1, Nat.mul_one])
    (fun j u hj => Lib.cells_of_row hSB m j u (by rw [hck]; exact hj)) (fun v hv => h1 v (List.mem_of_mem_drop (List.mem_of_mem_take hv))) hm (by rw [hcl, hz1, hgs]; omega)
  rw [hz1, hcl, Nat.mul_one] at hrun
  refine ⟨_, hrun, ?_⟩
  have hkeep : ∀ (Y : Array Value) k, k ≠ G → (w.setRow G Y).heap[k]? = w.heap[k]? := fun Y k hk => setRow_other _ _ _ _ hk
  have hgl : (gc.toList.take pos).length = pos := by rw [List.length_take, Array.length_toList]; omega
  refine ⟨o, at_, st, pr, cur, (gc.toList.take pos ++ (xs.drop pos).take m ++ gc.toList.drop (pos + m)).toArray, (hkeep _ S (Ne.symm g.gs)).trans hS, hbl, (hkeep _ R (Ne.symm g.gr)).trans hR, (hkeep _ SB (Ne.symm g.gsb)).trans hSB, hcs, hck,
    hB.same (hkeep _ b (Ne.symm g.gb)) (fun k hk => hkeep _ k (hA k hk).2.2.2.2.1), setRow_heap w G gc _ 5 (0, 0) hG, ?_, ?_, hD.same (fun _ => hkeep _ D g.dg), hE.same (fun _ => hkeep _ E g.eg), hA, ?_⟩
  · simp only [List.size_toArray, List.length_append, hgl, hcl, List.length_drop, Array.length_toList]; omega
  · have e : (gc.toList.take pos ++ (xs.drop pos).take m).length = pos + m := by rw [List.length_append, hgl, hcl]
    rw [List.toList_toArray, List.take_append_of_le_length (by rw [e]; exact Nat.le_refl _), List.take_of_length_le (by rw [e]; exact Nat.le_refl _), hgt, List.take_add]
  · have q := g.bg
    exact hb.trans ⟨rfl, rfl, rfl, by simp, fun k hk => hkeep _ k (by omega)⟩

end

end Go.Proofs.Qxb6614070aDoor.Buf
