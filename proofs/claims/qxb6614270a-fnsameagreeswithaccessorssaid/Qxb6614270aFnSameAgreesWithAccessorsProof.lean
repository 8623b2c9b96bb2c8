import Derived.Test.Qxb6614270aRows
import Derived.Test.Qxb6614270aSame
import Derived.Deep.RegionHeld3
import Derived.WalkKit
import Derived.ProofKit
import Derived.OpenShut
import Derived.ShutString
namespace Go.Proofs.Qxb6614270a.fnSameAgreesWithAccessors
open Go.ChangeShapes Go.WideShapes Go.ChangeAt Go.RowKit
open Go.ChangeMaps (open_string shut_string)
set_option linter.unusedVariables false      -- a walk need not use every 'w<i>' (that an integer argument fits its kind)

theorem own : ownKnob Try.prog.godebug = none := by kernel_rfl

theorem bytes_yes (i j : Int) (s t : ByteArray) (w : World) (h : s.size + t.size ≤ 1048576) :
    Calls Try.prog 17 #[.int .i64 i, .int .i64 j, .string s, .string t] w fun e w' => e = .returned (.bool true) ∧ w' = w := by
  go_enter Try.func17, Try.ntmps17
  go_wp2
  go_ret
  exact ⟨rfl, rfl⟩

theorem bytes_no (i j : Int) (s t : ByteArray) (w : World) (h : 1048576 < s.size + t.size) (hs : s.size ≤ maxLen) (ht : t.size ≤ maxLen) :
    Calls Try.prog 17 #[.int .i64 i, .int .i64 j, .string s, .string t] w fun e w' => e = .returned (.bool false) ∧ w' = w := by
  unfold maxLen at hs ht
  by_cases h1 : 1048576 < s.size
  · go_enter Try.func17, Try.ntmps17
    go_wp2
    go_ret
    exact ⟨rfl, rfl⟩
  by_cases h2 : 1048576 < t.size
  · go_enter Try.func17, Try.ntmps17
    go_wp2
    go_ret
    exact ⟨rfl, rfl⟩
  · go_enter Try.func17, Try.ntmps17
    go_wp2
    go_ret
    exact ⟨rfl, rfl⟩

/-- The world at hand under a letter. -/
theorem abs_world {P : Program} {c : Code} {Q : Exit → Act → World → Prop} {a : Act} (w : World) (h : ∀ W, W = w → Code.wp P c Q a W) : Code.wp P c Q a w := h w rfl

/-- What is kept: the five variables, and all that was there. -/
def Held (a0 a1 : Int) (a2 a3 : ByteArray) (bZ bA bB bC bD : Nat) (w w' : World) : Prop :=
  w'.cell? ⟨bZ, 0, none⟩ = some (.int .u8 0) ∧ w'.cell? ⟨bZ, 1, none⟩ = some (.int .u64 0) ∧ w'.cell? ⟨bZ, 2, none⟩ = some (.nilIface) ∧ w'.cell? ⟨bA, 0, none⟩ = some (.int .u8 3) ∧ w'.cell? ⟨bA, 1, none⟩ = some (.int .u64 (IntKind.u64.wrap a0)) ∧ w'.cell? ⟨bA, 2, none⟩ = some (.nilIface) ∧ w'.cell? ⟨bB, 0, none⟩ = some (.int .u8 3) ∧ w'.cell? ⟨bB, 1, none⟩ = some (.int .u64 (IntKind.u64.wrap a1)) ∧ w'.cell? ⟨bB, 2, none⟩ = some (.nilIface) ∧ w'.cell? ⟨bC, 0, none⟩ = some (.int .u8 5) ∧ w'.cell? ⟨bC, 1, none⟩ = some (.int .u64 0) ∧ w'.cell? ⟨bC, 2, none⟩ = some ((.iface 9 (.string a2))) ∧ w'.cell? ⟨bD, 0, none⟩ = some (.int .u8 5) ∧ w'.cell? ⟨bD, 1, none⟩ = some (.int .u64 0) ∧ w'.cell? ⟨bD, 2, none⟩ = some ((.iface 9 (.string a3))) ∧ Grown w w'

section
variable {a0 a1 : Int} {a2 a3 : ByteArray} {bZ bA bB bC bD : Nat} {w w' : World}
theorem Held.drew (h : Held a0 a1 a2 a3 bZ bA bB bC bD w w') : Held a0 a1 a2 a3 bZ bA bB bC bD w w'.drew := h
theorem kept {b : Nat} {o : Nat} {v : Value} (c : Array Value) (t : TypeId) (h : w'.cell? ⟨b, o, none⟩ = some v) : (w'.alloc (.cells c t)).cell? ⟨b, o, none⟩ = some v := by
  rw [World.cell?_alloc_some _ _ _ (by rw [h]; rfl)]; exact h
theorem Held.alloc (h : Held a0 a1 a2 a3 bZ bA bB bC bD w w') (c : Array Value) (t : TypeId) : Held a0 a1 a2 a3 bZ bA bB bC bD w (w'.alloc (.cells c t)) := by
  obtain ⟨h0, h1, h2, h3, h4, h5, h6, h7, h8, h9, h10, h11, h12, h13, h14, hg⟩ := h
  exact ⟨kept c t h0, kept c t h1, kept c t h2, kept c t h3, kept c t h4, kept c t h5, kept c t h6, kept c t h7, kept c t h8, kept c t h9, kept c t h10, kept c t h11, kept c t h12, kept c t h13, kept c t h14, Grown.alloc hg c t⟩
theorem Held.grown (h : Held a0 a1 a2 a3 bZ bA bB bC bD w w') : Grown w w' := h.2.2.2.2.2.2.2.2.2.2.2.2.2.2.2

theorem k_int (h : Held a0 a1 a2 a3 bZ bA bB bC bD w w') : Calls Try.prog 9 #[.int .i64 0] w' fun e w1 => e = .returned (.agg #[.int .u8 3, .int .u64 0, .nilIface]) ∧ Held a0 a1 a2 a3 bZ bA bB bC bD w w1 :=
  (Ad.int9 0 w').mono fun e w1 ⟨he, hw⟩ => ⟨he, hw ▸ h.alloc _ _⟩
theorem k_str (h : Held a0 a1 a2 a3 bZ bA bB bC bD w w') : Calls Try.prog 10 #[.string ⟨#[]⟩] w' fun e w1 => e = .returned (.agg #[.int .u8 5, .int .u64 0, (.iface 9 (.string ⟨#[]⟩))]) ∧ Held a0 a1 a2 a3 bZ bA bB bC bD w w1 :=
  (Ad.str10 ⟨#[]⟩ w').mono fun e w1 ⟨he, hw⟩ => ⟨he, hw ▸ h.alloc _ _⟩
theorem k_aa (h : Held a0 a1 a2 a3 bZ bA bB bC bD w w') (h0 : (Lit.int .i64 a0).wf = true) : Calls Try.prog 15 #[.agg #[.int .u8 3, .int .u64 (IntKind.u64.wrap a0), .nilIface], .agg #[.int .u8 3, .int .u64 (IntKind.u64.wrap a0), .nilIface]] w' fun e w1 => e = .returned (.bool true) ∧ Held a0 a1 a2 a3 bZ bA bB bC bD w w1 :=
  (Ad.same_ints a0 a0 h0 h0 w').mono fun e w1 ⟨he, hw⟩ => ⟨by rw [he]; simp, hw ▸ (h.alloc _ _).alloc _ _⟩
theorem k_cc (h : Held a0 a1 a2 a3 bZ bA bB bC bD w w') : Calls Try.prog 15 #[.agg #[.int .u8 5, .int .u64 0, (.iface 9 (.string a2))], .agg #[.int .u8 5, .int .u64 0, (.iface 9 (.string a2))]] w' fun e w1 => e = .returned (.bool true) ∧ Held a0 a1 a2 a3 bZ bA bB bC bD w w1 :=
  (Ad.same_strs a2 a2 w').mono fun e w1 ⟨he, hw⟩ => ⟨by rw [he]; simp, hw ▸ ((((h.alloc _ _).alloc _ _).alloc _ _).alloc _ _).drew⟩
theorem k_zz (h : Held a0 a1 a2 a3 bZ bA bB bC bD w w') : Calls Try.prog 15 #[.agg #[.int .u8 0, .int .u64 0, .nilIface], .agg #[.int .u8 0, .int .u64 0, .nilIface]] w' fun e w1 => e = .returned (.bool true) ∧ Held a0 a1 a2 a3 bZ bA bB bC bD w w1 :=
  (Ad.same_zero w').mono fun e w1 ⟨he, hw⟩ => ⟨he, hw ▸ (h.alloc _ _).alloc _ _⟩
theorem beq_turn {α : Type} [BEq α] [LawfulBEq α] [DecidableEq α] (x y : α) : (x == y) = (y == x) := by
  by_cases h : x = y
  · subst h; rfl
  · have h1 : (x == y) = false := by simpa using h
    have h2 : (y == x) = false := by simpa using fun e => h (Eq.symm e)
    rw [h1, h2]
theorem k_ba (h : Held a0 a1 a2 a3 bZ bA bB bC bD w w') (h0 : (Lit.int .i64 a0).wf = true) (h1 : (Lit.int .i64 a1).wf = true) : Calls Try.prog 15 #[.agg #[.int .u8 3, .int .u64 (IntKind.u64.wrap a1), .nilIface], .agg #[.int .u8 3, .int .u64 (IntKind.u64.wrap a0), .nilIface]] w' fun e w1 => e = .returned (.bool (a0 == a1)) ∧ Held a0 a1 a2 a3 bZ bA bB bC bD w w1 :=
  (Ad.same_ints a1 a0 h1 h0 w').mono fun e w1 ⟨he, hw⟩ => ⟨by rw [he, beq_turn a1 a0], hw ▸ (h.alloc _ _).alloc _ _⟩
theorem k_dc (h : Held a0 a1 a2 a3 bZ bA bB bC bD w w') : Calls Try.prog 15 #[.agg #[.int .u8 5, .int .u64 0, (.iface 9 (.string a3))], .agg #[.int .u8 5, .int .u64 0, (.iface 9 (.string a2))]] w' fun e w1 => e = .returned (.bool (a2.toList == a3.toList)) ∧ Held a0 a1 a2 a3 bZ bA bB bC bD w w1 :=
  (Ad.same_strs a3 a2 w').mono fun e w1 ⟨he, hw⟩ => ⟨by rw [he, beq_turn a3.toList a2.toList], hw ▸ ((((h.alloc _ _).alloc _ _).alloc _ _).alloc _ _).drew⟩
theorem k_zi (h : Held a0 a1 a2 a3 bZ bA bB bC bD w w') : Calls Try.prog 15 #[.agg #[.int .u8 0, .int .u64 0, .nilIface], .agg #[.int .u8 3, .int .u64 0, .nilIface]] w' fun e w1 => e = .returned (.bool false) ∧ Held a0 a1 a2 a3 bZ bA bB bC bD w w1 :=
  (Ad.same_kinds 0 0 3 0 .nilIface .nilIface w' rfl rfl rfl).mono fun e w1 ⟨he, hw⟩ => ⟨he, hw ▸ (h.alloc _ _).alloc _ _⟩
theorem k_zs (h : Held a0 a1 a2 a3 bZ bA bB bC bD w w') : Calls Try.prog 15 #[.agg #[.int .u8 0, .int .u64 0, .nilIface], .agg #[.int .u8 5, .int .u64 0, (.iface 9 (.string ⟨#[]⟩))]] w' fun e w1 => e = .returned (.bool false) ∧ Held a0 a1 a2 a3 bZ bA bB bC bD w w1 :=
  (Ad.same_kinds 0 0 5 0 .nilIface (.iface 9 (.string ⟨#[]⟩)) w' rfl rfl rfl).mono fun e w1 ⟨he, hw⟩ => ⟨he, hw ▸ (h.alloc _ _).alloc _ _⟩
end

set_option maxHeartbeats 3200000 in
set_option maxRecDepth 100000 in
theorem walk (a0 : Int) (a1 : Int) (a2 : ByteArray) (a3 : ByteArray) (w0 : (Lit.int .i64 a0).wf = true) (w1 : (Lit.int .i64 a1).wf = true) (w2 : a2.size ≤ maxLen) (w3 : a3.size ≤ maxLen) (w : World) :
    Calls Try.prog 7 #[.int .i64 a0, .int .i64 a1, .string a2, .string a3] w fun e w' => e = .returned (.bool true) ∧ Grown w w' := by
  by_cases h : 1048576 < a2.size + a3.size
  · clear w0 w1
    go_enter Try.func7, Try.ntmps7
    go_wp2_with (go_at_call 17; refine (bytes_no _ _ _ _ _ h w2 w3).mono ?_; rintro e w' ⟨rfl, rfl⟩)
    go_ret
    exact ⟨rfl, Grown.refl _⟩
  · have h' : a2.size + a3.size ≤ 1048576 := by omega
    clear w2 w3
    have H0 := Lib.hid w0
    have H1 := Lib.hid w1
    clear w0 w1
    go_enter Try.func7, Try.ntmps7
    go_wp2_with (first | (go_at_call 17; refine (bytes_yes _ _ _ _ _ h').mono ?_; rintro e wS ⟨rfl, rfl⟩) | (go_at_call 9; refine (Ad.int9 _ _).mono ?_; rintro e w' ⟨rfl, rfl⟩) | (go_at_call 10; refine (Ad.str10 _ _).mono ?_; rintro e w' ⟨rfl, rfl⟩))
    refine (Ad.int12_yes a0 H0.out _).mono ?_
    rintro e w1 ⟨rfl, rfl⟩
    go_wp2_with fail
    refine (Ad.int12_yes a1 H1.out _).mono ?_
    rintro e w2 ⟨rfl, rfl⟩
    go_wp2_with fail
    refine (Ad.str13_yes 0 a2 _).mono ?_
    rintro e w3 ⟨rfl, rfl⟩
    go_wp2_with fail
    refine (Ad.str13_yes 0 a3 _).mono ?_
    rintro e w4 ⟨rfl, rfl⟩
    go_wp2_with fail
    refine (Ad.same_ints a0 a1 H0.out H1.out _).mono ?_
    rintro e w5 ⟨rfl, rfl⟩
    go_wp2_with fail
    refine (Ad.same_strs a2 a3 _).mono ?_
    rintro e w6 ⟨rfl, rfl⟩
    go_wp2_with fail
    refine abs_world _ (fun W hW => ?_)
    have K0 : Held a0 a1 a2 a3 wS.heap.size (wS.heap.size + 1 + 1) (wS.heap.size + 1 + 1 + 1 + 1) (wS.heap.size + 1 + 1 + 1 + 1 + 1 + 1) (wS.heap.size + 1 + 1 + 1 + 1 + 1 + 1 + 1 + 1) wS W := by
      rw [hW]
      unfold Held
      refine ⟨?_, ?_, ?_, ?_, ?_, ?_, ?_, ?_, ?_, ?_, ?_, ?_, ?_, ?_, ?_, ?_⟩
      iterate 15 (focus go_simp)
      refine Grown.drew (Grown.drew (Grown.drew ?_))
      iterate 23 (refine Grown.alloc ?_ _ _)
      exact Grown.refl _
    clear hW
    generalize wS.heap.size + 1 + 1 + 1 + 1 + 1 + 1 + 1 + 1 = bD at K0 ⊢
    generalize wS.heap.size + 1 + 1 + 1 + 1 + 1 + 1 = bC at K0 ⊢
    generalize wS.heap.size + 1 + 1 + 1 + 1 = bB at K0 ⊢
    generalize wS.heap.size + 1 + 1 = bA at K0 ⊢
    generalize wS.heap.size = bZ at K0 ⊢
    replace K0 := K0.drew
    go_region_held3 (fun w' => w'.cell? ⟨bZ, 0, none⟩ = some (.int .u8 0) ∧ w'.cell? ⟨bZ, 1, none⟩ = some (.int .u64 0) ∧ w'.cell? ⟨bZ, 2, none⟩ = some (.nilIface) ∧ w'.cell? ⟨bA, 0, none⟩ = some (.int .u8 3) ∧ w'.cell? ⟨bA, 1, none⟩ = some (.int .u64 (IntKind.u64.wrap a0)) ∧ w'.cell? ⟨bA, 2, none⟩ = some (.nilIface) ∧ w'.cell? ⟨bB, 0, none⟩ = some (.int .u8 3) ∧ w'.cell? ⟨bB, 1, none⟩ = some (.int .u64 (IntKind.u64.wrap a1)) ∧ w'.cell? ⟨bB, 2, none⟩ = some (.nilIface) ∧ w'.cell? ⟨bC, 0, none⟩ = some (.int .u8 5) ∧ w'.cell? ⟨bC, 1, none⟩ = some (.int .u64 0) ∧ w'.cell? ⟨bC, 2, none⟩ = some ((.iface 9 (.string a2))) ∧ w'.cell? ⟨bD, 0, none⟩ = some (.int .u8 5) ∧ w'.cell? ⟨bD, 1, none⟩ = some (.int .u64 0) ∧ w'.cell? ⟨bD, 2, none⟩ = some ((.iface 9 (.string a3))) ∧ Grown wS w') (assumption) (first | (go_at_call 9; refine (k_int (by assumption)).mono ?_; rintro e w1 ⟨rfl, hk⟩) | (go_at_call 10; refine (k_str (by assumption)).mono ?_; rintro e w1 ⟨rfl, hk⟩) | (go_at_call 15; with_reducible refine (k_aa (by assumption) H0.out).mono ?_; rintro e w1 ⟨rfl, hk⟩) | (go_at_call 15; with_reducible refine (k_cc (by assumption)).mono ?_; rintro e w1 ⟨rfl, hk⟩) | (go_at_call 15; with_reducible refine (k_zz (by assumption)).mono ?_; rintro e w1 ⟨rfl, hk⟩) | (go_at_call 15; with_reducible refine (k_ba (by assumption) H0.out H1.out).mono ?_; rintro e w1 ⟨rfl, hk⟩) | (go_at_call 15; with_reducible refine (k_dc (by assumption)).mono ?_; rintro e w1 ⟨rfl, hk⟩) | (go_at_call 15; with_reducible refine (k_zi (by assumption)).mono ?_; rintro e w1 ⟨rfl, hk⟩) | (go_at_call 15; with_reducible refine (k_zs (by assumption)).mono ?_; rintro e w1 ⟨rfl, hk⟩))
    go_wp2
    go_ret
    exact ⟨rfl, hk.grown⟩

/-! ### THE ROW's STEP: WRITTEN OUT: LEAVE IT -/
set_option maxRecDepth 100000 in
theorem lifted (os : Os) (started : os.Started) (H : Type) (enc : TypeId × Value → H) :
    ReturnsInHanded {} Try.checked os 7 .any (Rows.fnSameAgreesWithAccessorsSpec.pre6 enc Try.prog Try.f7 Rows.fnSameAgreesWithAccessorsRow.domain false) (Rows.fnSameAgreesWithAccessorsSpec.post enc Try.prog Try.f7 false true false false) := by
  refine returnsInHanded_of_change (C := Try.checked) own started (by kernel_rfl) Try.func7
    (ChangeSpec.witness6 (enc := enc) (C := Try.checked) false ⟨#[], #[.int .i64 0, .int .i64 0, .string ByteArray.empty, .string ByteArray.empty], []⟩ 8 (by kernel_rfl) (by kernel_rfl) (by kernel_rfl) (by kernel_rfl)) ?_
  intro W base args ds gs before hval0 hW hcnd _
  have hval : ∀ (j : Nat) t v, Try.f7.params[j]? = some t → args[j]? = some v → Value.okWide Try.prog W .any base t v := hval0
  have hW' := hW
  obtain ⟨p, q, hA0, hV, rfl, hfz, hnd⟩ := hW
  have hA : DataW.TrodAll enc Try.prog W 0 (fun _ => true) true Try.f7.params.toList args.toList ds p := hA0
  rw [Try.params7] at hA hval
  obtain ⟨v0, vs0, d0, ds0, p0, q0, hargs, rfl, rfl, h0, r0⟩ := trodAll_cons hA
  obtain ⟨v1, vs1, d1, ds1, p1, q1, rfl, rfl, rfl, h1, r1⟩ := trodAll_cons r0
  obtain ⟨v2, vs2, d2, ds2, p2, q2, rfl, rfl, rfl, h2, r2⟩ := trodAll_cons r1
  obtain ⟨v3, vs3, d3, ds3, p3, q3, rfl, rfl, rfl, h3, r3⟩ := trodAll_cons r2
  obtain ⟨rfl, rfl, rfl⟩ := trodAll_nil r3
  obtain rfl : args = #[v0, v1, v2, v3] := by cases args; simp_all
  obtain ⟨rfl, rfl⟩ := trodVars_none hV
  obtain ⟨a0, rfl, rfl, rfl, w0⟩ := open_int Try.underlying2 (hval 0 2 v0 rfl rfl) h0
  obtain ⟨a1, rfl, rfl, rfl, w1⟩ := open_int Try.underlying2 (hval 1 2 v1 rfl rfl) h1
  obtain ⟨a2, rfl, rfl, rfl, w2⟩ := open_string Try.underlying9 (hval 2 9 v2 rfl rfl) h2
  obtain ⟨a3, rfl, rfl, rfl, w3⟩ := open_string Try.underlying9 (hval 3 9 v3 rfl rfl) h3
  clear hA0 hval0
  simp only [List.append_nil] at hW'
  refine (walk a0 a1 a2 a3 w0 w1 w2 w3 W).mono fun e W' ⟨he, hg⟩ => ?_
  subst he
  exact ⟨_, rfl, post_of_same (pa := []) (pv := []) hW' (fun _ _ _ => (trodAll_cons_mk (shut_bool Try.underlying4 _) trodAll_mk0)) (fun sp _ => (trodAll_cons_mk (shut_int Try.underlying2 w0) (trodAll_cons_mk (shut_int Try.underlying2 w1) (trodAll_cons_mk (shut_string Try.underlying9 w2) (trodAll_cons_mk (shut_string Try.underlying9 w3) trodAll_mk0))))) (fun _ _ => rfl) rfl
    (hg.frame _) hg.2.1 (ok_one (by kernel_rfl) rfl (okWide_bool_mk Try.underlying4 _))⟩

theorem over : Rows.fnSameAgreesWithAccessorsRow.holds Try.pinned (OpenSpec.ofChange Rows.fnSameAgreesWithAccessorsSpec) :=
  OpenClaim.holds_of_wide 7 Try.f7 rfl rfl rfl rfl rfl rfl rfl ⟨rfl, rfl, rfl, rfl, rfl⟩ rfl rfl rfl rfl rfl (by kernel_rfl) Try.func7 (by kernel_rfl)
    (of_decide_eq_true (by kernel_rfl)) (by unfold Func.isWrapper; first | (rw [if_pos (by decide +kernel)]; kernel_rfl) | (rw [if_neg (by decide +kernel)]; exact ⟨rfl, rfl⟩))
    (fun os started H enc _ => lifted os started H enc)

theorem proved : Rows.FnSameAgreesWithAccessorsSaid :=
  over
end Go.Proofs.Qxb6614270a.fnSameAgreesWithAccessors
