/- The law's other ways; the row; the tied card of FnFillDeliversTheAnswerAndItsCopy. -/
import Derived.Test.Qxb6614070aDoorWalk
import Derived.Test.Qxb6614070aDoorTie
import Derived.Test.Qxb6614070aDoorCards
import Derived.ProofKit
import Derived.OpenShut
import Derived.ShutString
import Derived.ChangeOld
import Derived.LaidMore
import Derived.Stop.Joined
import Derived.Stop.LaidErr
namespace Go.Proofs.Qxb6614070aDoor.fnFill
open Go.ChangeShapes Go.WideShapes Go.ChangeAt Go.RowKit
set_option linter.unusedVariables false

theorem own : ownKnob Tryd.prog.godebug = none := by kernel_rfl
theorem laidOut : laidOutB Tryd.prog = true := by kernel_rfl
theorem gEOF : Tryd.prog.globalNamed "io.EOF" = some 0 := by kernel_rfl
theorem tEOF : (Tryd.prog.globals[0]?).map (·.type) = some 31 := by kernel_rfl
/-- The name of the error's type, as the given row spells it. -/
def nm : String := match (Rows.laid_io_EOF : DataW Unit) with | .iface n _ => n | _ => ""
/-- The pointer's sign. -/
def st : String := String.ofList [Char.ofNat 42]
theorem star (s : String) (h : s = st) : s ++ "errors.errorString" = nm := by subst h; decide
theorem row111 (u : TypeId) (h : Tryd.prog.typeName? 3 u = some nm) : u = 111 :=
  typeName_ptr_named (P := Tryd.prog) (nm := "errors.errorString") (by rw [star _ (by decide)]; kernel_rfl) (by kernel_rfl) (by decide) u (by rw [star _ (by decide)]; exact h)

/-- The door's own heap meets the condition. -/
theorem door_met (os : Os) (args : Array Value) : laidMetH Tryd.prog [("io.EOF", Rows.laid_io_EOF)] ((World.doorLaid Tryd.prog 400 os).forCall (fun _ _ => 0) ⟨#[], args, []⟩).memory :=
  laidMetH_of_parts3 (fuel := 8) (laidMet_of_run' 8 (by kernel_rfl) (by kernel_rfl)) (by kernel_rfl) (by kernel_rfl)

theorem of_laid {W : World} (h : laidMetH Tryd.prog [("io.EOF", Rows.laid_io_EOF)] W) : ∃ p, W.cell? ⟨0, 0, none⟩ = some (.iface 111 (.pointer (some p))) := by
  rw [MakeChecks.laidMetH_plain _ _ _ (by kernel_rfl)] at h
  obtain ⟨a0, s0, hv0, _⟩ := laid_sentinel h gEOF tEOF Tryd.underlying31 row111 Tryd.underlying111 Tryd.underlying135 rfl rfl Tryd.underlying9 (by kernel_rfl) (by kernel_rfl)
  exact ⟨a0, by simpa using World.var?_cell gEOF hv0 0⟩

/-- What the walk is told of a slice of bytes that came in. -/
def IsRow (w : World) (a : Option Addr) (len cap : Nat) (zs : List Int) : Prop :=
  (a = none ∧ len = 0 ∧ cap = 0 ∧ zs = []) ∨
  ∃ x, a = some x ∧ len ≤ cap ∧ cap ≤ maxLen ∧ zs.length = cap ∧ (∀ i, i < zs.length → w.cell? (x.add i) = some (.int .u8 (zs.getD i 0))) ∧ ∀ n ∈ zs, (Lit.int .u8 n).wf = true

set_option maxHeartbeats 1000000 in
theorem law_long (ao : Option Addr) (n c : Nat) (x y z : Int) (en : Bool) (w : World) (h : 1048576 < n) :
    Calls Tryd.prog 3 #[.slice ao n c, .int .i64 x, .int .i64 y, .int .i64 z, .bool en] w fun e w' => e = .returned (.bool true) ∧ Below w.heap.size w w' := by
  go_enter Tryd.func3, Tryd.ntmps3
  go_wp2_with (go_at_call 6; refine (Buf.zzBytes_no _ _ _ _ _ _ _ _ h).mono ?_; rintro e w' ⟨rfl, rfl⟩)
  go_ret
  exact ⟨rfl, Below.refl _ _⟩

set_option maxHeartbeats 1000000 in
theorem law_out (ao : Option Addr) (n c : Nat) (x y z : Int) (en : Bool) (w : World) (hn : n ≤ 1048576) (h : y < 1 ∨ 65536 < y ∨ x < 0 ∨ y < x) :
    Calls Tryd.prog 3 #[.slice ao n c, .int .i64 x, .int .i64 y, .int .i64 z, .bool en] w fun e w' => e = .returned (.bool true) ∧ Below w.heap.size w w' := by
  by_cases h1 : y < 1
  · go_enter Tryd.func3, Tryd.ntmps3
    go_wp2_with (go_at_call 6; refine (Buf.zzBytes_yes _ _ _ _ _ _ _ _ hn).mono ?_; rintro e w' ⟨rfl, rfl⟩)
    go_ret
    exact ⟨rfl, Below.refl _ _⟩
  by_cases h2 : 65536 < y
  · go_enter Tryd.func3, Tryd.ntmps3
    go_wp2_with (go_at_call 6; refine (Buf.zzBytes_yes _ _ _ _ _ _ _ _ hn).mono ?_; rintro e w' ⟨rfl, rfl⟩)
    go_ret
    exact ⟨rfl, Below.refl _ _⟩
  by_cases h3 : x < 0
  · clear h
    go_enter Tryd.func3, Tryd.ntmps3
    go_wp2_with (go_at_call 6; refine (Buf.zzBytes_yes _ _ _ _ _ _ _ _ hn).mono ?_; rintro e w' ⟨rfl, rfl⟩)
    go_ret
    exact ⟨rfl, Below.refl _ _⟩
  have h4 : y < x := by omega
  clear h
  go_enter Tryd.func3, Tryd.ntmps3
  go_wp2_with (go_at_call 6; refine (Buf.zzBytes_yes _ _ _ _ _ _ _ _ hn).mono ?_; rintro e w' ⟨rfl, rfl⟩)
  go_ret
  exact ⟨rfl, Below.refl _ _⟩

theorem walk (a0 : Option Addr) (len0 cap0 : Nat) (z0 : List Int) (x y z : Int) (en : Bool) (w : World) (p : Addr) (w0 : IsRow w a0 len0 cap0 z0) (hg : w.cell? ⟨0, 0, none⟩ = some (.iface 111 (.pointer (some p)))) :
    Calls Tryd.prog 3 #[.slice a0 len0 cap0, .int .i64 x, .int .i64 y, .int .i64 z, .bool en] w fun e w' => e = .returned (.bool true) ∧ Below w.heap.size w w' := by
  by_cases hn : 1048576 < len0
  · exact law_long a0 len0 cap0 x y z en w hn
  by_cases ho : y < 1 ∨ 65536 < y ∨ x < 0 ∨ y < x
  · exact law_out a0 len0 cap0 x y z en w (by omega) ho
  obtain ⟨cap, rfl⟩ : ∃ cap : Nat, y = (cap : Int) := ⟨y.toNat, by omega⟩
  obtain ⟨bl, rfl⟩ : ∃ bl : Nat, x = (bl : Int) := ⟨x.toNat, by omega⟩
  rcases w0 with ⟨rfl, rfl, rfl, rfl⟩ | ⟨a, rfl, hl, hm, hz, hcell, hwz⟩
  · exact Buf.law_main none 0 0 bl cap z en [] [] p w (Or.inl ⟨rfl, rfl, rfl, rfl⟩) rfl rfl (by omega) (by omega) (by omega) (by omega) hg
  · refine Buf.law_main (some a) len0 cap0 bl cap z en (z0.take len0) ((z0.take len0).map (fun z => Value.int .u8 z)) p w (Or.inr ⟨a, rfl, by rw [List.length_map, List.length_take]; omega, fun j v hj => ?_⟩) rfl (by rw [List.length_map, List.length_take]; omega) (by omega) (by omega) (by omega) (by omega) hg
    rw [List.getElem?_map, List.getElem?_take] at hj
    split at hj
    · rename_i hjl
      have hj2 : j < z0.length := by omega
      rw [List.getElem?_eq_getElem hj2] at hj
      simp only [Option.map_some, Option.some.injEq] at hj
      rw [hcell j hj2, ← hj, List.getD_eq_getElem?_getD, List.getElem?_eq_getElem hj2]
      rfl
    · cases hj

set_option maxRecDepth 100000 in
theorem lifted (os : Os) (started : os.Started) (H : Type) (enc : TypeId × Value → H) :
    ReturnsInHanded {} Tryd.checked os 3 .any (fun w args => (Rows.fnFillDeliversTheAnswerAndItsCopySpec.pre enc Tryd.prog Tryd.f3 [] false w args ∧ laidMetH Tryd.prog [("io.EOF", Rows.laid_io_EOF)] w) ∧ sizedMet enc Tryd.prog Tryd.f3 (OpenSpec.ofChange Rows.fnFillDeliversTheAnswerAndItsCopySpec) false w args)
      (Rows.fnFillDeliversTheAnswerAndItsCopySpec.post enc Tryd.prog Tryd.f3 false true false false) := by
  refine returnsInHanded_of_change_and (C := Tryd.checked) (X := fun w _ => laidMetH Tryd.prog [("io.EOF", Rows.laid_io_EOF)] w) (fun _ _ _ hh h => h.of_heap hh) own started (by kernel_rfl) Tryd.func3
    (ChangeSpec.witness_shaped (enc := enc) (C := Tryd.checked) (os := os) (X := fun w _ => laidMetH Tryd.prog [("io.EOF", Rows.laid_io_EOF)] w) false (World.doorLaid Tryd.prog 400 os) #[.slice none 0 0, .int .i64 0, .int .i64 0, .int .i64 0, .bool false] 8 rfl (World.shaped_of_RefB (by kernel_rfl) (by kernel_rfl)) (by kernel_rfl) (by kernel_rfl) (by kernel_rfl) (door_met os _)) ?_
  intro W base args ds gs before hval0 hW _ _ hL _
  have hval : ∀ (j : Nat) t v, Tryd.f3.params[j]? = some t → args[j]? = some v → Value.okWide Tryd.prog W .any base t v := hval0
  have hW' := hW
  obtain ⟨p, q, hA0, hV, rfl, hfz, hnd⟩ := hW
  have hA : DataW.TrodAll enc Tryd.prog W 0 (fun _ => true) true Tryd.f3.params.toList args.toList ds p := hA0
  rw [Tryd.params3] at hA hval
  obtain ⟨v0, vs0, d0, ds0, p0, q0, hargs, rfl, rfl, h0, r0⟩ := trodAll_cons hA
  obtain ⟨v1, vs1, d1, ds1, p1, q1, rfl, rfl, rfl, h1, r1⟩ := trodAll_cons r0
  obtain ⟨v2, vs2, d2, ds2, p2, q2, rfl, rfl, rfl, h2, r2⟩ := trodAll_cons r1
  obtain ⟨v3, vs3, d3, ds3, p3, q3, rfl, rfl, rfl, h3, r3⟩ := trodAll_cons r2
  obtain ⟨v4, vs4, d4, ds4, p4, q4, rfl, rfl, rfl, h4, r4⟩ := trodAll_cons r3
  obtain ⟨rfl, rfl, rfl⟩ := trodAll_nil r4
  obtain rfl : args = #[v0, v1, v2, v3, v4] := by cases args; simp_all
  obtain ⟨rfl, rfl⟩ := trodVars_none hV
  obtain ⟨a0, len0, cap0, rfl⟩ := okWide_slice Tryd.underlying22 (hval 0 22 v0 rfl rfl)
  have k0 := h0
  have lt0 : ∀ x ∈ p0, x.block < W.heap.size := by obtain ⟨m, hm⟩ := k0; exact DataW.trod_lt m _ _ _ hm
  obtain ⟨z0, w0⟩ : ∃ zs, IsRow W a0 len0 cap0 zs := by
    obtain ⟨fuel, hf⟩ := h0
    rcases open_ints Tryd.underlying22 Tryd.underlying5 (by kernel_rfl) hf with ⟨hcs, _⟩ | ⟨x, l, c, zs, hcs, _, hl, hm, hz, _, hcell, hwz⟩
    · simp [Value.cells] at hcs
      obtain ⟨rfl, rfl, rfl⟩ := hcs
      exact ⟨[], .inl ⟨rfl, rfl, rfl, rfl⟩⟩
    · simp [Value.cells] at hcs
      obtain ⟨rfl, rfl, rfl⟩ := hcs
      exact ⟨zs, .inr ⟨_, rfl, hl, hm, by simpa using hz, hcell, hwz⟩⟩
  obtain ⟨a1, rfl, rfl, rfl, w1⟩ := open_int Tryd.underlying3 (hval 1 3 v1 rfl rfl) h1
  obtain ⟨a2, rfl, rfl, rfl, w2⟩ := open_int Tryd.underlying3 (hval 2 3 v2 rfl rfl) h2
  obtain ⟨a3, rfl, rfl, rfl, w3⟩ := open_int Tryd.underlying2 (hval 3 2 v3 rfl rfl) h3
  obtain ⟨a4, rfl, rfl, rfl⟩ := open_bool Tryd.underlying4 (hval 4 4 v4 rfl rfl) h4
  obtain ⟨pe, hg⟩ := of_laid hL
  clear hA0 hval0
  refine (walk a0 len0 cap0 z0 a1 a2 a3 a4 W pe w0 hg).mono fun e W' ⟨he, bel⟩ => ?_
  subst he
  exact ⟨_, rfl, _, _, _, [], _, [], hW', trodAll_mk1 (shut_bool Tryd.underlying4 _), (trodAll_cons_mk (Below.trod laidOut (by kernel_rfl) (of_decide_eq_true (by kernel_rfl)) k0 bel lt0) (trodAll_cons_mk (shut_int Tryd.underlying3 w1) (trodAll_cons_mk (shut_int Tryd.underlying3 w2) (trodAll_cons_mk (shut_int Tryd.underlying2 w3) (trodAll_cons_mk (shut_bool Tryd.underlying4 a4) trodAll_mk0))))), rfl, bel.frame _, fun h => by cases h⟩

theorem row_holds : Rows.FnFillDeliversTheAnswerAndItsCopySaid :=
  OpenClaim.holds_of_wide 3 Tryd.f3 rfl rfl rfl rfl rfl rfl rfl ⟨rfl, rfl, rfl, rfl, rfl⟩ rfl rfl rfl rfl rfl (by kernel_rfl) Tryd.func3 (by kernel_rfl)
    (of_decide_eq_true (by kernel_rfl)) (by unfold Func.isWrapper; first | (rw [if_pos (by decide +kernel)]; kernel_rfl) | (rw [if_neg (by decide +kernel)]; exact ⟨rfl, rfl⟩))
    (fun os started H enc _ => lifted os started H enc)

theorem proved : Rows.FnFillDeliversTheAnswerAndItsCopyCardSaid :=
  Claim7.holds_tied_plain_at .later [] [.sentinel] true (true, "dd33ee07a96868e5c8182b6c8b734a19a0e6bc531e71aa2a2d70a26969b98ef2") true
    row_holds (fun _ h => by cases h) (by kernel_rfl) (fun _ h => by cases h) fnFillDeliversTheAnswerAndItsCopy_row_tie rfl ⟨rfl, rfl⟩ (by kernel_rfl) rfl
    (fun f fn hf hfn => by
      obtain rfl : f = 3 := Option.some.inj ((show Tryd.prog.funcNamed Rows.fnFillDeliversTheAnswerAndItsCopyRow.func = some 3 by kernel_rfl).symm.trans hf) |>.symm
      obtain rfl : fn = Tryd.f3 := (Option.some.inj (Tryd.func3.symm.trans hfn)).symm
      exact ⟨by kernel_rfl, fun j t ht => by
        rw [Tryd.params3] at ht
        have h3 : t = 22 ∨ t = 3 ∨ t = 2 ∨ t = 4 := by
          rcases j with _ | _ | _ | _ | _ | j
          · exact Or.inl (by simpa using ht.symm)
          · exact Or.inr (Or.inl (by simpa using ht.symm))
          · exact Or.inr (Or.inl (by simpa using ht.symm))
          · exact Or.inr (Or.inr (Or.inl (by simpa using ht.symm)))
          · exact Or.inr (Or.inr (Or.inr (by simpa using ht.symm)))
          · simp at ht
        rcases h3 with rfl | rfl | rfl | rfl
        · exact (show Tryd.prog.wantsStandIn 22 = false by kernel_rfl)
        · exact (show Tryd.prog.wantsStandIn 3 = false by kernel_rfl)
        · exact (show Tryd.prog.wantsStandIn 2 = false by kernel_rfl)
        · exact (show Tryd.prog.wantsStandIn 4 = false by kernel_rfl)⟩)
    (by kernel_rfl)

end Go.Proofs.Qxb6614070aDoor.fnFill
