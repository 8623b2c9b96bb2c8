/- The walk of FnFillDeliversTheAnswerAndItsCopy, whole. -/
import Derived.Test.Qxb6614070aDoorLaw
namespace Go.Proofs.Qxb6614070aDoor.Buf
open Go.RowKit
set_option linter.unusedVariables false

set_option maxHeartbeats 3200000 in
set_option maxRecDepth 100000 in
theorem law_main (ao : Option Addr) (n c bl cap : Nat) (st : Int) (en : Bool) (zs : List Int) (xs : List Value) (p : Addr) (w : World) (hin : Came ao n c xs w) (hx : xs = zs.map (fun z => Value.int .u8 z)) (hxl : xs.length = n) (hn : n ≤ 1048576)
    (hcap1 : 1 ≤ cap) (hcap : cap ≤ 65536) (hbl : bl ≤ cap) (hg : w.cell? ⟨0, 0, none⟩ = some (.iface 111 (.pointer (some p)))) :
    Calls Tryd.prog 3 #[.slice ao n c, .int .i64 (bl : Int), .int .i64 (cap : Int), .int .i64 st, .bool en] w fun e w' => e = .returned (.bool true) ∧ Below w.heap.size w w' := by
  have hw : 0 < w.heap.size := World.block_lt_of_cell? w _ hg
  have h1 : ∀ v ∈ xs, v.oneCell' = true := by
    intro v hv
    rw [hx] at hv
    obtain ⟨z, _, rfl⟩ := List.mem_map.1 hv
    rfl
  have HI := Lib.hid hin
  have HX := Lib.hid hx
  have HL := Lib.hid hxl
  have HG := Lib.hid hg
  have H1 := Lib.hid h1
  clear hin hx hxl hg h1
  obtain ⟨i0, hi, hz0, hz1, hz2⟩ := info5
  obtain ⟨Z, hZ⟩ : ∃ Z, Z = madeCells (Value.int .u8 0).cells ((n : Int).toNat * i0.size) := ⟨_, rfl⟩
  have hZs : Z.size = n := by rw [hZ, size_madeCells, hz1]; simp
  have hmk : ∀ W : World, (Instr.makeSlice 22 (.int .i64 0) (.int .i64 (n : Int))).run Tryd.prog W = .ok (.slice (some ⟨W.heap.size, 0, none⟩) 0 n) (W.alloc (.cells Z 5)) := fun W => by
    have h := run_makeSlice (P := Tryd.prog) W 22 5 i0 (.int .u8 0) Tryd.underlying22 hi hz0 .i64 .i64 0 (n : Int) (by omega) (by omega) (by rw [hz1]; omega) (by rw [hz2]; omega) (by omega)
    rw [← hZ] at h
    simpa using h
  have HZ := Lib.hid hZs
  clear hZs hZ hi hz0 hz1 hz2
  go_enter Tryd.func3, Tryd.ntmps3
  go_wp2_with (go_at_call 6; refine (zzBytes_yes _ _ _ _ _ _ _ _ hn).mono ?_; rintro e w' ⟨rfl, rfl⟩)
  refine (clone_any ao n c xs _ HI.out hn H1.out hw).mono ?_
  rintro e w1 ⟨ao1, D, rfl, hD, hb1, hDl, hc1⟩
  have hw1 : 0 < w1.heap.size := by have := hb1.size; omega
  have J1 := Lib.hid hD
  have J2 := Lib.hid hb1
  have J3 := Lib.hid hc1
  clear hD hb1 hc1
  go_wp2_with fail
  refine (clone_any ao1 n n xs _ J3.out hn H1.out hw1).mono ?_
  rintro e w2 ⟨bo, E, rfl, hE, hb2, hEl, _⟩
  have hD2 : Lies D ao1 xs w2 := J1.out.same (fun _ => hb2.block D hDl)
  have hDl2 : D < w2.heap.size := by have := hb2.size; omega
  have hbw : Below w'.heap.size w' w2 := J2.out.trans (hb2.mono J2.out.size)
  have J4 := Lib.hid hE
  have J5 := Lib.hid hbw
  have J6 := Lib.hid hD2
  clear hE hbw hD2 hb2 J1 J2 J3
  go_wp2_with fail
  refine (new_any ao1 n n bl cap st en _ hbl hcap).mono ?_
  rintro e w3 ⟨S, b, rfl, hm⟩
  obtain ⟨R, SB, ck, hgeo, hinv⟩ := inv_start hw J5.out J6.out J4.out hDl2 hEl hm hbl HZ.out
  have JG := Lib.hid hgeo
  have JI := Lib.hid hinv
  clear hm hgeo hinv J4 J5 J6 hDl hDl2 hEl hw1
  go_wp2
  generalize w3.heap.size = G at *
  go_loopw [14, 15, 16] (fun got saw i wr => ∃ pos k bl ck, got = .slice (some ⟨G, 0, none⟩) pos n ∧ saw = .bool false ∧ i = .int .i64 ((k : Nat) : Int) ∧ k ≤ pos ∧ pos ≤ n ∧ (en = true → pos = 0) ∧ Inv S R b SB G D E n cap w'.heap.size ao1 bo xs pos pos bl en ck w' wr) (fun _ _ i _ => n + 1 - (intOf i).toNat)
  case atStart => exact ⟨0, 0, bl, ck, rfl, rfl, rfl, Nat.le_refl _, Nat.zero_le _, fun _ => rfl, JI.out⟩
  case round =>
    obtain ⟨pos, k, bl', ck', rfl, rfl, rfl, hk, hpos, hen, hinv⟩ := hrel
    have KI := Lib.hid hinv
    have KE := Lib.hid hen
    clear hinv hen JI
    have hkn : (k : Int) ≤ (n : Int) := by omega
    by_cases hmore : en = false ∧ pos < n
    · obtain ⟨rfl, hlt⟩ := hmore
      go_wp2_with fail
      refine (zzfill (fill_inv_some JG.out KI.out hcap hcap1 hn HL.out H1.out hlt) ?_).mono ?_
      · rintro e w'' ⟨rfl, _⟩; exact ⟨true, rfl⟩
      rintro e wa ⟨rfl, m, hm1, hmn, hmc, hia⟩
      have KA := Lib.hid hia
      clear hia KI
      go_wp2_with fail
      refine (state_inv KA.out).mono ?_
      rintro e wb ⟨at1, st1, rfl, hib⟩
      obtain ⟨wc, happ, hic⟩ := append_inv JG.out hib HL.out H1.out hmn
      have KC := Lib.hid hic
      clear hib hic KA
      have hm0 : ((m : Int) == 0) = false := by simp; omega
      have hmi : (m : Int) ≤ (n : Int) - (pos : Int) := by omega
      go_wp2_with (at_builtin; refine Lib.wpList_append_run _ rfl _ _ _ _ rfl _ _ rfl rfl _ _ happ ?_)
      go_roundw
      case rel => exact ⟨pos + m, k + 1, m, _, rfl, rfl, by go_num, by omega, hmn, (fun h => by cases h), KC.out⟩
      case measure => simp [intOf]; omega
    · by_cases hent : en = true
      · subst hent
        have hp0 := KE.out rfl
        subst hp0
        go_wp2_with fail
        refine (zzfill (fill_inv_ended KI.out) ?_).mono ?_
        · rintro e w'' ⟨rfl, _⟩; exact ⟨false, rfl⟩
        rintro e wa ⟨rfl, rfl⟩
        go_wp2_with fail
        refine (state_inv KI.out).mono ?_
        rintro e wb ⟨at1, st1, rfl, hib⟩
        have KB := Lib.hid hib
        clear hib KI
        go_wp2_with fail
        refine (bytes_inv HL.out (Nat.zero_le _) KB.out).mono ?_
        rintro e wc ⟨v, c', rfl, _, hic⟩
        have KC := Lib.hid hic
        clear hic KB
        go_wp2
        go_ret
        exact ⟨rfl, KC.out.below⟩
      · have henf : en = false := by cases en <;> simp_all
        subst henf
        have hpn : pos = n := by
          have : ¬ pos < n := fun h => hmore ⟨rfl, h⟩
          omega
        subst hpn
        go_wp2_with fail
        refine (zzfill (fill_inv_eof JG.out KI.out hcap p HG.out (Nat.le_refl _)) ?_).mono ?_
        · rintro e w'' ⟨rfl, _⟩; exact ⟨false, rfl⟩
        rintro e wa ⟨rfl, hia⟩
        have KA := Lib.hid hia
        clear hia KI
        go_wp2_with fail
        refine (state_inv KA.out).mono ?_
        rintro e wb ⟨at1, st1, rfl, hib⟩
        have KB := Lib.hid hib
        clear hib KA
        go_wp2_with fail
        refine (same_got zs HX.out HL.out hn KB.out).mono ?_
        rintro e wc ⟨rfl, hic⟩
        have KC := Lib.hid hic
        clear hic KB
        go_wp2_with fail
        refine (bytes_inv HL.out (Nat.le_refl _) KC.out).mono ?_
        rintro e wd ⟨v, c', rfl, hvd, hid⟩
        have KD := Lib.hid hid
        have KV := Lib.hid hvd
        clear hid hvd KC
        go_wp2_with fail
        refine (same_buf zs HX.out HL.out hn v c' KV.out KD.out).mono ?_
        rintro e we ⟨rfl, hie⟩
        have KE2 := Lib.hid hie
        clear hie KD KV
        go_wp2
        go_ret
        exact ⟨rfl, KE2.out.below⟩

end Go.Proofs.Qxb6614070aDoor.Buf
