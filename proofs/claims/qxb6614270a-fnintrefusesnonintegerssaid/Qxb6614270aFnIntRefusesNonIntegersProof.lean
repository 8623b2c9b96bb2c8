import Derived.Test.Qxb6614270aRows
import Derived.Test.Qxb6614270aSame
import Derived.WalkKit
import Derived.ProofKit
import Derived.OpenShut
import Derived.ShutString
namespace Go.Proofs.Qxb6614270a.fnIntRefusesNonIntegers
open Go.ChangeShapes Go.WideShapes Go.ChangeAt Go.RowKit
open Go.ChangeMaps (open_string shut_string)
set_option linter.unusedVariables false      -- a walk need not use every 'w<i>' (that an integer argument fits its kind)

theorem own : ownKnob Try.prog.godebug = none := by kernel_rfl

theorem bytes_yes (i : Int) (s : ByteArray) (w : World) (h : s.size ≤ 1048576) :
    Calls Try.prog 14 #[.int .i64 i, .string s] w fun e w' => e = .returned (.bool true) ∧ w' = w := by
  go_enter Try.func14, Try.ntmps14
  go_wp2
  go_ret
  exact ⟨rfl, rfl⟩

theorem bytes_no (i : Int) (s : ByteArray) (w : World) (h : 1048576 < s.size) :
    Calls Try.prog 14 #[.int .i64 i, .string s] w fun e w' => e = .returned (.bool false) ∧ w' = w := by
  go_enter Try.func14, Try.ntmps14
  go_wp2
  go_ret
  exact ⟨rfl, rfl⟩

set_option maxHeartbeats 1000000 in
theorem walk (a0 : Int) (a1 : ByteArray) (w0 : (Lit.int .i64 a0).wf = true) (w1 : a1.size ≤ maxLen) (w : World) :
    Calls Try.prog 5 #[.int .i64 a0, .string a1] w fun e w' => e = .returned (.bool true) ∧ Grown w w' := by
  clear w1
  by_cases h : 1048576 < a1.size
  · clear w0
    go_enter Try.func5, Try.ntmps5
    go_wp2_with (go_at_call 14; refine (bytes_no _ _ _ h).mono ?_; rintro e w' ⟨rfl, rfl⟩)
    go_ret
    exact ⟨rfl, Grown.refl _⟩
  · have h' : a1.size ≤ 1048576 := by omega
    have H0 := Lib.hid w0
    clear w0
    go_enter Try.func5, Try.ntmps5
    go_wp2_with (first | (go_at_call 14; refine (bytes_yes _ _ _ h').mono ?_; rintro e w' ⟨rfl, rfl⟩) | (go_at_call 9; refine (Ad.int9 _ _).mono ?_; rintro e w' ⟨rfl, rfl⟩) | (go_at_call 10; refine (Ad.str10 _ _).mono ?_; rintro e w' ⟨rfl, rfl⟩))
    refine (Ad.int12_no 5 0 (.iface 9 (.string a1)) _ rfl rfl).mono ?_
    rintro e w1 ⟨rfl, rfl⟩
    go_wp2_with fail
    refine (Ad.int12_no 0 0 .nilIface _ rfl rfl).mono ?_
    rintro e w2 ⟨rfl, rfl⟩
    go_wp2_with (go_at_call 9; refine (Ad.int9 _ _).mono ?_; rintro e w' ⟨rfl, rfl⟩)
    refine (Ad.int12_yes a0 H0.out _).mono ?_
    rintro e w3 ⟨rfl, rfl⟩
    go_wp2_with (go_at_call 9; refine (Ad.int9 _ _).mono ?_; rintro e w' ⟨rfl, rfl⟩)
    refine (Ad.same_ints a0 a0 H0.out H0.out _).mono ?_
    rintro e w4 ⟨rfl, rfl⟩
    go_wp2
    go_ret
    refine ⟨by simp, ?_⟩
    iterate 11 (refine Grown.alloc ?_ _ _)
    exact Grown.refl _

/-! ### THE ROW's STEP: WRITTEN OUT: LEAVE IT -/
set_option maxRecDepth 100000 in
theorem lifted (os : Os) (started : os.Started) (H : Type) (enc : TypeId × Value → H) :
    ReturnsInHanded {} Try.checked os 5 .any (Rows.fnIntRefusesNonIntegersSpec.pre6 enc Try.prog Try.f5 Rows.fnIntRefusesNonIntegersRow.domain false) (Rows.fnIntRefusesNonIntegersSpec.post enc Try.prog Try.f5 false true false false) := by
  refine returnsInHanded_of_change (C := Try.checked) own started (by kernel_rfl) Try.func5
    (ChangeSpec.witness6 (enc := enc) (C := Try.checked) false ⟨#[], #[.int .i64 0, .string ByteArray.empty], []⟩ 8 (by kernel_rfl) (by kernel_rfl) (by kernel_rfl) (by kernel_rfl)) ?_
  intro W base args ds gs before hval0 hW hcnd _
  have hval : ∀ (j : Nat) t v, Try.f5.params[j]? = some t → args[j]? = some v → Value.okWide Try.prog W .any base t v := hval0
  have hW' := hW
  obtain ⟨p, q, hA0, hV, rfl, hfz, hnd⟩ := hW
  have hA : DataW.TrodAll enc Try.prog W 0 (fun _ => true) true Try.f5.params.toList args.toList ds p := hA0
  rw [Try.params5] at hA hval
  obtain ⟨v0, vs0, d0, ds0, p0, q0, hargs, rfl, rfl, h0, r0⟩ := trodAll_cons hA
  obtain ⟨v1, vs1, d1, ds1, p1, q1, rfl, rfl, rfl, h1, r1⟩ := trodAll_cons r0
  obtain ⟨rfl, rfl, rfl⟩ := trodAll_nil r1
  obtain rfl : args = #[v0, v1] := by cases args; simp_all
  obtain ⟨rfl, rfl⟩ := trodVars_none hV
  obtain ⟨a0, rfl, rfl, rfl, w0⟩ := open_int Try.underlying2 (hval 0 2 v0 rfl rfl) h0
  obtain ⟨a1, rfl, rfl, rfl, w1⟩ := open_string Try.underlying9 (hval 1 9 v1 rfl rfl) h1
  clear hA0 hval0
  simp only [List.append_nil] at hW'
  refine (walk a0 a1 w0 w1 W).mono fun e W' ⟨he, hg⟩ => ?_
  subst he
  exact ⟨_, rfl, post_of_same (pa := []) (pv := []) hW' (fun _ _ _ => (trodAll_cons_mk (shut_bool Try.underlying4 _) trodAll_mk0)) (fun sp _ => (trodAll_cons_mk (shut_int Try.underlying2 w0) (trodAll_cons_mk (shut_string Try.underlying9 w1) trodAll_mk0))) (fun _ _ => rfl) rfl
    (hg.frame _) hg.2.1 (ok_one (by kernel_rfl) rfl (okWide_bool_mk Try.underlying4 _))⟩

theorem over : Rows.fnIntRefusesNonIntegersRow.holds Try.pinned (OpenSpec.ofChange Rows.fnIntRefusesNonIntegersSpec) :=
  OpenClaim.holds_of_wide 5 Try.f5 rfl rfl rfl rfl rfl rfl rfl ⟨rfl, rfl, rfl, rfl, rfl⟩ rfl rfl rfl rfl rfl (by kernel_rfl) Try.func5 (by kernel_rfl)
    (of_decide_eq_true (by kernel_rfl)) (by unfold Func.isWrapper; first | (rw [if_pos (by decide +kernel)]; kernel_rfl) | (rw [if_neg (by decide +kernel)]; exact ⟨rfl, rfl⟩))
    (fun os started H enc _ => lifted os started H enc)

theorem proved : Rows.FnIntRefusesNonIntegersSaid :=
  over
end Go.Proofs.Qxb6614270a.fnIntRefusesNonIntegers
