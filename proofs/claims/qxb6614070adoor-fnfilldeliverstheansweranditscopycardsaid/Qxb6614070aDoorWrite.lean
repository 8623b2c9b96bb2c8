/- (*bytes.Buffer).Write and Bytes at this program; the frame told exactly. After the guide's shelf (Derived/Shelf/Bytes/WriteAny.lean, Bytes.lean), turned to this program's numbers. -/
import Derived.Test.Qxb6614070aDoorGrow2
namespace Go.Proofs.Qxb6614070aDoor.Buf
open Go.RowKit

/-- Block b is a bytes.Buffer that has only been written, holding the cells bs; 'o': the block of its row, if it has one. -/
def Buf (b : Nat) (o : Option Nat) (bs : List Value) (w : World) : Prop :=
  ∃ lr, (bs = [] ∧ o = none ∧ w.heap[b]? = some (.cells #[.slice none 0 0, .int .i64 0, .int .i8 lr] 54 (0, 0))) ∨
    ∃ g cap cur, o = some g ∧ w.heap[b]? = some (.cells #[.slice (some ⟨g, 0, none⟩) bs.length cap, .int .i64 0, .int .i8 lr] 54 (0, 0)) ∧ w.heap[g]? = some (.cells cur 5 (0, 0)) ∧
      ¬ bs.length = 0 ∧ bs.length ≤ cap ∧ cap ≤ maxLen ∧ cur.size = cap ∧ cur.toList.take bs.length = bs ∧ g ≠ b

/-- All old blocks stand but b and o. -/
structure Kept (b : Nat) (o : Option Nat) (w w' : World) : Prop where
  os : w'.os = w.os
  tape : w'.tape = w.tape
  output : w'.output = w.output
  size : w.heap.size ≤ w'.heap.size
  block : ∀ k, k < w.heap.size → k ≠ b → o ≠ some k → w'.heap[k]? = w.heap[k]?

theorem Kept.of_grown {b : Nat} {o : Option Nat} {w w' : World} (h : w.grownBy w' (some b)) : Kept b o w w' :=
  ⟨h.os, h.tape, h.output, h.size, fun k hk hb _ => h.block k hk (fun e => hb (Option.some.inj e))⟩

theorem Kept.setRow {b : Nat} {o : Option Nat} {w w' : World} (h : Kept b o w w') {g : Nat} (hg : o = some g ∨ w.heap.size ≤ g) (Y : Array Value) : Kept b o w (w'.setRow g Y) := by
  refine ⟨h.os, h.tape, h.output, by simpa using h.size, fun k hk hb ho => ?_⟩
  rw [setRow_other _ _ _ _ ?_]
  · exact h.block k hk hb ho
  · rcases hg with rfl | hg
    · exact fun e => ho (by rw [e])
    · omega

theorem written {b g l cap n : Nat} {lr : Int} {cur : Array Value} {bs cs : List Value} {W : World} (hn : cs.length = n) (hn1 : 1 ≤ n) (hl : bs.length = l)
    (hbk : W.heap[b]? = some (.cells #[.slice (some ⟨g, 0, none⟩) (l + n) cap, .int .i64 0, .int .i8 lr] 54 (0, 0))) (hg : W.heap[g]? = some (.cells cur 5 (0, 0)))
    (hcs : cur.size = cap) (hlc : l + n ≤ cap) (hcm : cap ≤ maxLen) (htk : cur.toList.take l = bs) (hgb : g ≠ b) :
    Buf b (some g) (bs ++ cs) (W.setRow g (cur.toList.take l ++ cs ++ cur.toList.drop (l + n)).toArray) := by
  have hlen : (bs ++ cs).length = l + n := by rw [List.length_append, hl, hn]
  refine ⟨lr, Or.inr ⟨g, cap, _, rfl, ?_, setRow_heap W g cur _ 5 (0, 0) hg, by omega, by omega, hcm, ?_, ?_, hgb⟩⟩
  · rw [setRow_other _ _ _ _ (Ne.symm hgb), hlen]; exact hbk
  · have h2 : (cur.toList.take l).length = l := by rw [htk, hl]
    simp only [List.size_toArray, List.length_append, h2, hn, List.length_drop, Array.length_toList]
    omega
  · rw [hlen, htk, List.toList_toArray]
    rw [List.take_append_of_le_length (by rw [hlen]; exact Nat.le_refl _), List.take_of_length_le (by rw [hlen]; exact Nat.le_refl _)]

set_option maxHeartbeats 3200000 in
set_option maxRecDepth 100000 in
theorem write_any (b : Nat) (o : Option Nat) (bs cs : List Value) (a : Addr) (n c : Nat) (w : World) (h : Buf b o bs w) (h1 : ∀ v ∈ bs, v.oneCell' = true)
    (hn : cs.length = n) (hn1 : 1 ≤ n) (hab : a.block ≠ b) (hsrc : ∀ j v, cs[j]? = some v → w.cell? (a.add j) = some v) (h1c : ∀ v ∈ cs, v.oneCell' = true) (hlim : bs.length + n ≤ 140737488355328) :
    Calls Tryd.prog 71 #[.pointer (some ⟨b, 0, none⟩), .slice (some a) n c] w fun e w' => e = .returned (.tuple #[.int .i64 n, .nilIface]) ∧
      ∃ o', Buf b o' (bs ++ cs) w' ∧ Kept b o w w' ∧ (∀ k, o' = some k → o = some k ∨ w.heap.size ≤ k) := by
  obtain ⟨lr, hc⟩ := h
  have hg0 : w.grownBy (w.setCell ⟨b, 2, none⟩ (.int .i8 0)) (some b) := Lib.grownBy_setCell w b 2 _
  have HN := Lib.hid hn
  clear hn
  rcases hc with ⟨rfl, rfl, hbk⟩ | ⟨g, cap, cur, rfl, hbk, hg, hb0, hlc, hcm, hcs, htk, hgb⟩
  · -- no row yet
    have c2 : w.cell? ⟨b, 2, none⟩ = some (.int .i8 lr) := by rw [Lib.cell_of_heap hbk]; rfl
    have f2 : w.frozen? ⟨b, 2, none⟩ = false := Lib.frozen_of_heap hbk 2
    have hbk1 : (w.setCell ⟨b, 2, none⟩ (.int .i8 0)).heap[b]? = some (.cells #[.slice none 0 0, .int .i64 0, .int .i8 0] 54 (0, 0)) := Lib.heap_setCell_same (i := 2) hbk _
    have c0 : (w.setCell ⟨b, 2, none⟩ (.int .i8 0)).cell? ⟨b, 0, none⟩ = some (.slice none 0 0) := by rw [Lib.cell_of_heap hbk1]; rfl
    have hgr : ∀ W, W.heap[b]? = some (.cells #[.slice none 0 0, .int .i64 0, .int .i8 0] 54 (0, 0)) → Calls Tryd.prog 74 #[.pointer (some ⟨b, 0, none⟩), .int .i64 n] W fun e w' => e = .returned (.int .i64 0) ∧ Grew b 0 n 0 [] W w' := by
      intro W hW
      by_cases h64 : n ≤ 64
      · exact grow_nil_small b n 0 W hW hn1 h64
      · exact grow_nil_big b n 0 W hW (by omega) (by simpa using hlim)
    have HG := Lib.hid hgr
    have HS := Lib.hid hsrc
    clear hgr hsrc
    go_enter Tryd.func71, Tryd.ntmps71
    go_wp2_with (go_at_call 73; refine (tryGrow_none b none 0 0 n _ ?_ (Nat.le_refl _) (Nat.zero_le _) (by omega)).mono ?_)
    · exact c0
    rintro e w' ⟨rfl, rfl⟩
    go_wp2_with (go_at_call 74; refine (HG.out _ ?_).mono ?_)
    · exact hbk1
    rintro e W2 ⟨rfl, g, cap, cur, hgn, hbk2, hg2, hcs, hlc, hcm, htk, hgw⟩
    have hgW := Lib.grownBy_trans hg0 hgw
    have hgn' : w.heap.size ≤ g := by simpa [World.setCell] using hgn
    have hbw := Lib.lt_of_heap hbk
    have hgb : g ≠ b := by omega
    clear HG hbk1 c0 c2 f2 hg0 hgw hgn
    have d0 : W2.cell? ⟨b, 0, none⟩ = some (.slice (some ⟨g, 0, none⟩) (0 + n) cap) := by rw [Lib.cell_of_heap hbk2]; rfl
    rw [Nat.zero_add] at d0
    have hsrc1 : ∀ j v, cs[j]? = some v → W2.cell? (a.add j) = some v := fun j v hj => hgW.cell (HS.out j v hj) (by rw [Lib.block_add]; exact fun e => hab (Option.some.inj e))
    have hcp := run_copy_row (P := Tryd.prog) W2 22 22 3 5 g 0 n cap a n c cur 5 cs Tryd.underlying22 size5 hg2 (by rw [HN.out]; exact (Nat.min_self n).symm) hsrc1 (by rw [HN.out]; omega) h1c
    rw [HN.out] at hcp
    have hfin := written (b := b) (lr := 0) (bs := []) HN.out hn1 rfl hbk2 hg2 hcs hlc hcm htk hgb
    have hkp : Kept b none w (W2.setRow g (cur.toList.take 0 ++ cs ++ cur.toList.drop (0 + n)).toArray) := (Kept.of_grown hgW).setRow (Or.inr hgn') _
    generalize (cur.toList.take 0 ++ cs ++ cur.toList.drop (0 + n)).toArray = Y at hcp hfin hkp
    have hcm' := hcm
    unfold maxLen at hcm'
    have HF := Lib.hid hfin
    have HK := Lib.hid hkp
    clear hfin hkp htk hcs hsrc1 HS hgW hg2 hbk2 hcm
    go_wp2
    go_ret2
    exact ⟨rfl, some g, HF.out, HK.out, fun k hk => Or.inr (by cases hk; exact hgn')⟩
  · -- a row is there
    have c2 : w.cell? ⟨b, 2, none⟩ = some (.int .i8 lr) := by rw [Lib.cell_of_heap hbk]; rfl
    have f2 : w.frozen? ⟨b, 2, none⟩ = false := Lib.frozen_of_heap hbk 2
    have hbk1 : (w.setCell ⟨b, 2, none⟩ (.int .i8 0)).heap[b]? = some (.cells #[.slice (some ⟨g, 0, none⟩) bs.length cap, .int .i64 0, .int .i8 0] 54 (0, 0)) := Lib.heap_setCell_same (i := 2) hbk _
    have hg1 : (w.setCell ⟨b, 2, none⟩ (.int .i8 0)).heap[g]? = some (.cells cur 5 (0, 0)) := by rw [Below.heap_setCell _ _ _ _ hgb]; exact hg
    have c0 : (w.setCell ⟨b, 2, none⟩ (.int .i8 0)).cell? ⟨b, 0, none⟩ = some (.slice (some ⟨g, 0, none⟩) bs.length cap) := by rw [Lib.cell_of_heap hbk1]; rfl
    have f0 : (w.setCell ⟨b, 2, none⟩ (.int .i8 0)).frozen? ⟨b, 0, none⟩ = false := Lib.frozen_of_heap hbk1 0
    have HS := Lib.hid hsrc
    have HC := Lib.hid hcs
    have HT := Lib.hid htk
    clear hsrc hcs htk
    obtain ⟨l, hl⟩ : ∃ l, bs.length = l := ⟨_, rfl⟩
    rw [hl] at hbk hbk1 c0 hb0 hlc HT hlim
    have HL := Lib.hid hl
    clear hl
    by_cases hroom : n ≤ cap - l
    · go_enter Tryd.func71, Tryd.ntmps71
      go_wp2_with (go_at_call 73; refine (tryGrow_room b (some ⟨g, 0, none⟩) l cap n _ ?_ ?_ hlc hcm hroom).mono ?_)
      · exact c0
      · exact f0
      rintro e W2 ⟨rfl, hW2⟩
      have hbk2 : W2.heap[b]? = some (.cells #[.slice (some ⟨g, 0, none⟩) (l + n) cap, .int .i64 0, .int .i8 0] 54 (0, 0)) := by rw [hW2]; exact Lib.heap_setCell_same (i := 0) hbk1 _
      have hg2 : W2.heap[g]? = some (.cells cur 5 (0, 0)) := by rw [hW2, Below.heap_setCell _ _ _ _ hgb]; exact hg1
      have hgW : w.grownBy W2 (some b) := by rw [hW2]; exact Lib.grownBy_setB hg0 0 _
      clear hW2 hbk1 hg1 c0 f0 c2 f2 hg0
      have d0 : W2.cell? ⟨b, 0, none⟩ = some (.slice (some ⟨g, 0, none⟩) (l + n) cap) := by rw [Lib.cell_of_heap hbk2]; rfl
      have hne : ¬ cap = l := by omega
      have hsrc1 : ∀ j v, cs[j]? = some v → W2.cell? (a.add j) = some v := fun j v hj => hgW.cell (HS.out j v hj) (by rw [Lib.block_add]; exact fun e => hab (Option.some.inj e))
      have hcp := run_copy_row (P := Tryd.prog) W2 22 22 3 5 g l n (cap - l) a n c cur 5 cs Tryd.underlying22 size5 hg2 (by rw [HN.out]; exact (Nat.min_self n).symm) hsrc1 (by rw [HN.out, HC.out]; omega) h1c
      rw [HN.out] at hcp
      have hfin := written (b := b) (lr := 0) HN.out hn1 HL.out hbk2 hg2 HC.out (by omega) hcm HT.out hgb
      have hkp : Kept b (some g) w (W2.setRow g (cur.toList.take l ++ cs ++ cur.toList.drop (l + n)).toArray) := (Kept.of_grown hgW).setRow (Or.inl rfl) _
      generalize (cur.toList.take l ++ cs ++ cur.toList.drop (l + n)).toArray = Y at hcp hfin hkp
      have hcm' := hcm
      unfold maxLen at hcm'
      have HF := Lib.hid hfin
      have HK := Lib.hid hkp
      clear hfin hkp hsrc1 HS hgW hg2 hbk2 hcm hbk hg
      go_wp2
      go_ret2
      exact ⟨rfl, some g, HF.out, HK.out, fun k hk => Or.inl hk⟩
    · have hgr : ∀ W, W.heap[b]? = some (.cells #[.slice (some ⟨g, 0, none⟩) l cap, .int .i64 0, .int .i8 0] 54 (0, 0)) → W.heap[g]? = some (.cells cur 5 (0, 0)) → Calls Tryd.prog 74 #[.pointer (some ⟨b, 0, none⟩), .int .i64 n] W fun e w' => e = .returned (.int .i64 l) ∧ Grew b l n 0 bs W w' :=
        fun W hW hWg => grow_row b g l cap n 0 cur bs W hW hb0 HL.out hWg hlc hcm HC.out HT.out h1 hn1 (by omega) hlim
      have HG := Lib.hid hgr
      clear hgr
      go_enter Tryd.func71, Tryd.ntmps71
      go_wp2_with (go_at_call 73; refine (tryGrow_none b (some ⟨g, 0, none⟩) l cap n _ ?_ hlc hcm (by omega)).mono ?_)
      · exact c0
      rintro e w' ⟨rfl, rfl⟩
      go_wp2_with (go_at_call 74; refine (HG.out _ ?_ ?_).mono ?_)
      · exact hbk1
      · exact hg1
      rintro e W2 ⟨rfl, g', cap', cur', hgn, hbk2, hg2, hcs, hlc', hcm2, htk, hgw⟩
      have hgW := Lib.grownBy_trans hg0 hgw
      have hgn' : w.heap.size ≤ g' := by simpa [World.setCell] using hgn
      have hbw := Lib.lt_of_heap hbk
      have hgb' : g' ≠ b := by omega
      clear HG hbk1 hg1 c0 f0 c2 f2 hg0 hgw hgn
      have d0 : W2.cell? ⟨b, 0, none⟩ = some (.slice (some ⟨g', 0, none⟩) (l + n) cap') := by rw [Lib.cell_of_heap hbk2]; rfl
      have hne : ¬ cap' = l := by omega
      have hsrc1 : ∀ j v, cs[j]? = some v → W2.cell? (a.add j) = some v := fun j v hj => hgW.cell (HS.out j v hj) (by rw [Lib.block_add]; exact fun e => hab (Option.some.inj e))
      have hcp := run_copy_row (P := Tryd.prog) W2 22 22 3 5 g' l n (cap' - l) a n c cur' 5 cs Tryd.underlying22 size5 hg2 (by rw [HN.out]; exact (Nat.min_self n).symm) hsrc1 (by rw [HN.out, hcs]; omega) h1c
      rw [HN.out] at hcp
      have hfin := written (b := b) (lr := 0) HN.out hn1 HL.out hbk2 hg2 hcs (by omega) hcm2 htk hgb'
      have hkp : Kept b (some g) w (W2.setRow g' (cur'.toList.take l ++ cs ++ cur'.toList.drop (l + n)).toArray) := (Kept.of_grown hgW).setRow (Or.inr hgn') _
      generalize (cur'.toList.take l ++ cs ++ cur'.toList.drop (l + n)).toArray = Y at hcp hfin hkp
      have hcm' := hcm2
      unfold maxLen at hcm'
      have HF := Lib.hid hfin
      have HK := Lib.hid hkp
      clear hfin hkp hsrc1 HS hgW hg2 hbk2 hcm hbk hg hcs htk hcm2 hlc hroom hb0
      go_wp2
      go_ret2
      exact ⟨rfl, some g', HF.out, HK.out, fun k hk => Or.inr (by cases hk; exact hgn')⟩

set_option maxHeartbeats 1000000 in
set_option maxRecDepth 100000 in
/-- Bytes: a slice over the buffer's own row (nil where nothing was written). -/
theorem bytes_any (b : Nat) (o : Option Nat) (bs : List Value) (w : World) (h : Buf b o bs w) :
    Calls Tryd.prog 22 #[.pointer (some ⟨b, 0, none⟩)] w fun e w' => ∃ ao cap, e = .returned (.slice ao bs.length cap) ∧ (bs = [] ∨ ∃ g, ao = some ⟨g, 0, none⟩ ∧ ∀ j v, bs[j]? = some v → w.cell? ⟨g, j, none⟩ = some v) ∧ bs.length ≤ maxLen ∧ ∃ n, w' = w.drewN n := by
  obtain ⟨lr, hc⟩ := h
  rcases hc with ⟨rfl, rfl, hbk⟩ | ⟨g, cap, cur, rfl, hbk, hg, hb0, hlc, hcm, hcs, htk, hgb⟩
  · have c0 : w.cell? ⟨b, 0, none⟩ = some (.slice none 0 0) := by rw [Lib.cell_of_heap hbk]; rfl
    have c1 : w.cell? ⟨b, 1, none⟩ = some (.int .i64 0) := by rw [Lib.cell_of_heap hbk]; rfl
    go_enter Tryd.func22, Tryd.ntmps22
    go_wp2
    go_region
    all_goals (go_wp2; go_ret; exact ⟨none, 0, rfl, Or.inl (by simp), Nat.zero_le _, 1, rfl⟩)
  · have c0 : w.cell? ⟨b, 0, none⟩ = some (.slice (some ⟨g, 0, none⟩) bs.length cap) := by rw [Lib.cell_of_heap hbk]; rfl
    have c1 : w.cell? ⟨b, 1, none⟩ = some (.int .i64 0) := by rw [Lib.cell_of_heap hbk]; rfl
    have hcell : ∀ j v, bs[j]? = some v → w.cell? ⟨g, j, none⟩ = some v := by
      intro j v hj
      rw [← htk] at hj
      have := Lib.cells_of_row hg bs.length j v hj
      rwa [Lib.addr_add, Nat.zero_add] at this
    have HC := Lib.hid hcell
    have hle := Nat.le_trans hlc hcm
    have hcm' := hcm
    unfold maxLen at hcm'
    clear hcell hcs htk hcm
    go_enter Tryd.func22, Tryd.ntmps22
    go_wp2
    go_region
    all_goals (go_wp2; go_ret; exact ⟨_, cap, rfl, Or.inr ⟨g, rfl, HC.out⟩, hle, 1, rfl⟩)

theorem bufferBytes_any (b : Nat) (o : Option Nat) (bs : List Value) (w : World) (h : Buf b o bs w) :
    Calls Tryd.prog 11 #[.pointer (some ⟨b, 0, none⟩)] w fun e w' => ∃ ao cap, e = .returned (.slice ao bs.length cap) ∧ (bs = [] ∨ ∃ g, ao = some ⟨g, 0, none⟩ ∧ ∀ j v, bs[j]? = some v → w.cell? ⟨g, j, none⟩ = some v) ∧ bs.length ≤ maxLen ∧ ∃ n, w' = w.drewN n := by
  have H := Lib.hid (bytes_any b o bs w h)
  clear h
  go_enter Tryd.func11, Tryd.ntmps11
  go_wp2_with (go_at_call 22; refine H.out.mono ?_; rintro e w' ⟨ao, cap, rfl, h1, h2, n, rfl⟩)
  go_ret
  exact ⟨ao, cap, rfl, h1, h2, n, rfl⟩

end Go.Proofs.Qxb6614070aDoor.Buf
