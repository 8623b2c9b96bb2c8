/- The walk of FnNextPeeksWithoutPassing. -/
import Derived.Test.Qxb6614070aFmtInv
namespace Go.Proofs.Qxb6614070aFmt.Nx
open Go.RowKit Go.Stop
set_option linter.unusedVariables false

theorem inv_start {ao bo a2 : Option Addr} {n bl cap D B D2 : Nat} {at_ st : Int} {en : Bool} {xs ys : List Value} {w w4 w5 : World} {S : Nat} (hw : 0 < w.heap.size) (hb4 : Below w.heap.size w w4) (hD : Lies D ao xs w4) (hB : Lies B bo ys w4) (hD2 : Lies D2 a2 xs w4)
    (hDl : D < w4.heap.size) (hBl : B < w4.heap.size) (hD2l : D2 < w4.heap.size) (hm : Made a2 n n bl cap ys at_ st en w4 w5 S) (hbl : bl ≤ cap) :
    ∃ R SB, Geo S R SB D B D2 w.heap.size ∧ Inv S R SB D B D2 n cap w.heap.size ao bo a2 xs ys 0 bl at_ st en ys w w5 := by
  obtain ⟨R, SB, cur, q1, q2, q3, hS, hR, hSB, hc, ht, hb5⟩ := hm
  have hz := hb4.size
  refine ⟨R, SB, ⟨by omega, q2, q3, by omega, by omega, by omega, hw⟩, -1, cur, hS, hbl, hR, hSB, hc, ht, hD.same (fun _ => hb5.block D hDl), hB.same (fun _ => hb5.block B hBl), hD2.same (fun _ => hb5.block D2 hD2l), hb4.trans (hb5.mono hz)⟩

theorem get_byte {zs : List Int} {xs : List Value} (hx : xs = zs.map (fun z => Value.int .u8 z)) {j : Nat} (hj : j < xs.length) : ∃ x, xs[j]? = some (.int .u8 x) := by
  subst hx
  rw [List.length_map] at hj
  exact ⟨zs[j], by rw [List.getElem?_map, List.getElem?_eq_getElem hj]; rfl⟩

theorem one_of {zs : List Int} {xs : List Value} (hx : xs = zs.map (fun z => Value.int .u8 z)) : ∀ v ∈ xs, v.oneCell' = true := by
  intro v hv
  rw [hx] at hv
  obtain ⟨z, _, rfl⟩ := List.mem_map.1 hv
  rfl

set_option maxHeartbeats 3200000 in
set_option maxRecDepth 100000 in
theorem law_main (F : Interp) (ao bo : Option Addr) (n c bl d k cap : Nat) (st : Int) (en : Bool) (zs ts : List Int) (xs ys : List Value) (p : Addr) (w : World) (hF : F.answers w.tape) (hin : Came ao n c xs w) (hin2 : Came bo bl d ys w)
    (hx : xs = zs.map (fun z => Value.int .u8 z)) (hy : ys = ts.map (fun z => Value.int .u8 z)) (hxl : xs.length = n) (hyl : ys.length = bl) (hn : n ≤ 524288) (hbl : bl ≤ cap) (hcap1 : 1 ≤ cap) (hcap : cap ≤ 65536) (hk : k ≤ bl)
    (hg : w.cell? ⟨0, 0, none⟩ = some (.iface 52 (.pointer (some p)))) :
    Calls Tryf.prog 3 #[.slice ao n c, .slice bo bl d, .int .i64 (k : Int), .int .i64 (cap : Int), .int .i64 st, .bool en] w fun e w' => e = .returned (.bool true) ∧ Below w.heap.size w w' := by
  have hw : 0 < w.heap.size := World.block_lt_of_cell? w _ hg
  have h1 := one_of hx
  have h2 := one_of hy
  have HI := Lib.hid hin
  have HI2 := Lib.hid hin2
  have HX := Lib.hid hx
  have HY := Lib.hid hy
  have HL := Lib.hid hxl
  have HL2 := Lib.hid hyl
  have HG := Lib.hid hg
  have H1 := Lib.hid h1
  have H2 := Lib.hid h2
  have HF := Lib.hid hF
  have hsum : n + bl ≤ 1048576 := by omega
  clear hin hin2 hx hy hxl hyl hg h1 h2 hF
  go_enter Tryf.func3, Tryf.ntmps3
  go_wp2_with (go_at_call 4; refine (zzBytes_yes _ _ _ _ _ _ _ _ _ _ _ hsum).mono ?_; rintro e w' ⟨rfl, hw'⟩; refine Hid.out ?_)
  refine Lib.hid ?_
  obtain rfl := hw'
  go_wp2_with fail
  refine (clone_any ao n c xs _ HI.out (by omega) H1.out hw).mono ?_
  rintro e w1 ⟨a1, D, rfl, hD, hb1, hDl, hc1⟩
  have hw1 : 0 < w1.heap.size := by have := hb1.size; omega
  have hbc : Came bo bl d ys w1 := by
    rcases HI2.out with h | ⟨a, e, hl, hs⟩
    · exact Or.inl h
    · refine Or.inr ⟨a, e, hl, fun j v hj => ?_⟩
      have := hs j v hj
      exact (hb1.cell (World.block_lt_of_cell? _ _ this)).trans this
  have J1 := Lib.hid hD
  have J2 := Lib.hid hb1
  have J3 := Lib.hid hc1
  have J4 := Lib.hid hbc
  clear hD hb1 hc1 hbc
  go_wp2_with fail
  refine (clone_any bo bl d ys _ J4.out (by omega) H2.out hw1).mono ?_
  rintro e w2 ⟨b1, B, rfl, hB, hb2, hBl, hc2⟩
  have hw2 : 0 < w2.heap.size := by have := hb2.size; omega
  have hDl2 : D < w2.heap.size := by have := hb2.size; omega
  have hD2 : Lies D a1 xs w2 := J1.out.same (fun _ => hb2.block D hDl)
  have hca : Came a1 n n xs w2 := by
    rcases J3.out with h | ⟨a, e, hl, hs⟩
    · exact Or.inl h
    · refine Or.inr ⟨a, e, hl, fun j v hj => ?_⟩
      have := hs j v hj
      exact (hb2.cell (World.block_lt_of_cell? _ _ this)).trans this
  have hbw2 : Below w'.heap.size w' w2 := J2.out.trans (hb2.mono J2.out.size)
  have K1 := Lib.hid hB
  have K2 := Lib.hid hbw2
  have K3 := Lib.hid hca
  have K4 := Lib.hid hc2
  have K5 := Lib.hid hD2
  clear hB hb2 hbw2 hca hc2 hD2 J1 J2 J3 J4 hDl hw1
  go_wp2_with fail
  refine (clone_any a1 n n xs _ K3.out (by omega) H1.out hw2).mono ?_
  rintro e w3 ⟨a2, D2, rfl, hD3, hb3, hD3l, _⟩
  have hw3 : 0 < w3.heap.size := by have := hb3.size; omega
  have hDl3 : D < w3.heap.size := by have := hb3.size; omega
  have hBl3 : B < w3.heap.size := by have := hb3.size; omega
  have hD4 : Lies D a1 xs w3 := K5.out.same (fun _ => hb3.block D hDl2)
  have hB4 : Lies B b1 ys w3 := K1.out.same (fun _ => hb3.block B hBl)
  have hcb : Came b1 bl bl ys w3 := by
    rcases K4.out with h | ⟨a, e, hl, hs⟩
    · exact Or.inl h
    · refine Or.inr ⟨a, e, hl, fun j v hj => ?_⟩
      have := hs j v hj
      exact (hb3.cell (World.block_lt_of_cell? _ _ this)).trans this
  have hbw3 : Below w'.heap.size w' w3 := K2.out.trans (hb3.mono K2.out.size)
  have L1 := Lib.hid hD3
  have L2 := Lib.hid hbw3
  have L3 := Lib.hid hcb
  have L4 := Lib.hid hD4
  have L5 := Lib.hid hB4
  clear hD3 hb3 hbw3 hcb hD4 hB4 K1 K2 K3 K4 K5 hw2 hDl2 hBl
  go_wp2_with fail
  refine (clone_any b1 bl bl ys _ L3.out (by omega) H2.out hw3).mono ?_
  rintro e w4 ⟨b2, B2, rfl, _, hb4, _, hcb4⟩
  have hDl4 : D < w4.heap.size := by have := hb4.size; omega
  have hBl4 : B < w4.heap.size := by have := hb4.size; omega
  have hD2l4 : D2 < w4.heap.size := by have := hb4.size; omega
  have M1 := Lib.hid (L4.out.same (fun _ => hb4.block D hDl3))
  have M2 := Lib.hid (L5.out.same (fun _ => hb4.block B hBl3))
  have M3 := Lib.hid (L1.out.same (fun _ => hb4.block D2 hD3l))
  have M4 := Lib.hid (L2.out.trans (hb4.mono L2.out.size))
  have M5 := Lib.hid hcb4
  clear hb4 hcb4 L1 L2 L3 L4 L5 hw3 hDl3 hBl3 hD3l
  go_wp2_with fail
  refine (new_any a2 n n b2 bl bl cap ys (k : Int) st en _ M5.out hbl hcap H2.out).mono ?_
  rintro e w5 ⟨S, rfl, hm⟩
  obtain ⟨R, SB, hgeo, hinv⟩ := inv_start hw M4.out M1.out M2.out M3.out hDl4 hBl4 hD2l4 hm hbl
  have hF5 : F.answers w5.tape := by rw [hinv.below.tape]; exact HF.out
  have JG := Lib.hid hgeo
  have JI := Lib.hid hinv
  have JF := Lib.hid hF5
  clear hm hgeo hinv hF5 M1 M2 M3 M4 M5 hDl4 hBl4 hD2l4
  by_cases hkl : k < bl
  · obtain ⟨y, hyk⟩ := get_byte HY.out (j := k) (by rw [HL2.out]; exact hkl)
    have hki : (k : Int) < (bl : Int) := by omega
    have HYK := Lib.hid hyk
    clear hyk
    go_wp2_with fail
    refine (nextA JI.out hcap k rfl hkl y HYK.out).mono ?_
    rintro e wa ⟨rfl, hia⟩
    have KA := Lib.hid hia
    clear hia JI
    go_wp2_with fail
    refine (state_inv KA.out).mono ?_
    rintro e wb ⟨rfl, hib, _⟩
    have KB := Lib.hid hib
    clear hib KA
    go_wp2_with fail
    refine (nextA KB.out hcap k rfl hkl y HYK.out).mono ?_
    rintro e wc ⟨rfl, hic⟩
    have KC := Lib.hid hic
    clear hic KB
    go_wp2_with fail
    refine (state_inv KC.out).mono ?_
    rintro e wd ⟨rfl, hid, _⟩
    obtain ⟨hb1, hcell⟩ : b1 = some ⟨B, 0, none⟩ ∧ wd.cell? ⟨B, k, none⟩ = some (.int .u8 y) := by
      obtain ⟨pr, cur, q1, q2, q3, q4, q5, q6, q7, q8, q9, q10⟩ := hid
      exact q8.cell HYK.out
    subst hb1
    have KD := Lib.hid hid
    clear hid KC
    go_wp2
    go_quiet (fail)
    go_wp2
    go_ret
    exact ⟨rfl, (KD.out.drewN _).below⟩
  · have hkb : k = bl := by omega
    subst hkb
    by_cases hent : en = true
    · -- the answer has ended
      subst hent
      go_wp2_with fail
      refine (nextC F JF.out JG.out JI.out rfl).mono ?_
      rintro e wa ⟨⟨p1, rfl⟩, hia, hfa⟩
      have KA := Lib.hid hia
      have FA := Lib.hid hfa
      clear hia hfa JI JF
      go_wp2_with fail
      refine (state_inv KA.out).mono ?_
      rintro e wb ⟨rfl, hib, htb⟩
      have KB := Lib.hid hib
      have FB := Lib.hid (show F.answers wb.tape by rw [htb]; exact FA.out)
      clear hib htb KA FA
      go_wp2_with fail
      refine (nextC F FB.out JG.out KB.out rfl).mono ?_
      rintro e wc ⟨⟨p2, rfl⟩, hic, _⟩
      have KC := Lib.hid hic
      clear hic KB FB
      go_wp2_with fail
      refine (state_inv KC.out).mono ?_
      rintro e wd ⟨rfl, hid, _⟩
      have KD := Lib.hid hid
      clear hid KC
      go_wp2
      go_quiet (fail)
      go_wp2
      go_ret
      exact ⟨rfl, (KD.out.drewN _).below⟩
    · have henf : en = false := by cases en <;> simp_all
      subst henf
      by_cases hn0 : n = 0
      · -- nothing is left
        subst hn0
        go_wp2_with fail
        refine (nextD F JF.out JG.out JI.out hcap rfl (Nat.le_refl _) p HG.out).mono ?_
        rintro e wa ⟨⟨p1, rfl⟩, ⟨cs1, hia⟩, hfa⟩
        have KA := Lib.hid hia
        have FA := Lib.hid hfa
        clear hia hfa JI JF
        go_wp2_with fail
        refine (state_inv KA.out).mono ?_
        rintro e wb ⟨rfl, hib, htb⟩
        have KB := Lib.hid hib
        have FB := Lib.hid (show F.answers wb.tape by rw [htb]; exact FA.out)
        clear hib htb KA FA
        go_wp2_with fail
        refine (nextC F FB.out JG.out KB.out rfl).mono ?_
        rintro e wc ⟨⟨p2, rfl⟩, hic, _⟩
        have KC := Lib.hid hic
        clear hic KB FB
        go_wp2_with fail
        refine (state_inv KC.out).mono ?_
        rintro e wd ⟨rfl, hid, _⟩
        have KD := Lib.hid hid
        clear hid KC
        go_wp2
        go_quiet (fail)
        go_wp2
        go_ret
        exact ⟨rfl, (KD.out.drewN _).below⟩
      · -- the answer goes on
        have hn1 : 1 ≤ n := by omega
        obtain ⟨x, hx0⟩ := get_byte HX.out (j := 0) (by rw [HL.out]; omega)
        have HX0 := Lib.hid hx0
        clear hx0
        go_wp2_with fail
        refine (nextB JG.out JI.out hcap hcap1 (by omega) hn1 HL.out H1.out rfl x HX0.out).mono ?_
        rintro e wa ⟨rfl, m, cs1, hm1, hcx, hia⟩
        have KA := Lib.hid hia
        have KX := Lib.hid hcx
        clear hia hcx JI
        go_wp2_with fail
        refine (state_inv KA.out).mono ?_
        rintro e wb ⟨rfl, hib, _⟩
        have KB := Lib.hid hib
        clear hib KA
        go_wp2_with fail
        refine (nextA KB.out hcap 0 rfl hm1 x KX.out).mono ?_
        rintro e wc ⟨rfl, hic⟩
        have KC := Lib.hid hic
        clear hic KB
        go_wp2_with fail
        refine (state_inv KC.out).mono ?_
        rintro e wd ⟨rfl, hid, _⟩
        obtain ⟨ha1, hcell⟩ : a1 = some ⟨D, 0, none⟩ ∧ wd.cell? ⟨D, 0, none⟩ = some (.int .u8 x) := by
          obtain ⟨pr, cur, q1, q2, q3, q4, q5, q6, q7, q8, q9, q10⟩ := hid
          exact q7.cell HX0.out
        subst ha1
        have KD := Lib.hid hid
        clear hid KC
        have hn0' : 0 < n := by omega
        go_wp2
        go_quiet (fail)
        go_wp2
        go_ret
        exact ⟨rfl, (KD.out.drewN _).below⟩

end Go.Proofs.Qxb6614070aFmt.Nx
