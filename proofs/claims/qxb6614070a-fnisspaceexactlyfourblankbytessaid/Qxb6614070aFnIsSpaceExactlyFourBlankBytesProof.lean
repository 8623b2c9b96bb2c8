import Derived.Test.Qxb6614070aRows
import Derived.WalkKit
import Derived.ProofKit
import Derived.OpenShut
import Derived.ShutString
namespace Go.Proofs.Qxb6614070a.fnIsSpaceExactlyFourBlankBytes
open Go.ChangeShapes Go.WideShapes Go.ChangeAt Go.RowKit
open Go.ChangeMaps (open_string shut_string)
set_option linter.unusedVariables false      -- a walk need not use every 'w<i>' (that an integer argument fits its kind)

theorem own : ownKnob Try.prog.godebug = none := by kernel_rfl

/-! ### STEP 1: THE WALK -/
def spB (c : Int) : Bool := decide (c = 32 ∨ c = 9 ∨ c = 10 ∨ c = 13)
def cntB (k : Nat) : Int := (if 9 < k then 1 else 0) + (if 10 < k then 1 else 0) + (if 13 < k then 1 else 0) + (if 32 < k then 1 else 0)

theorem sp_yes {c : Int} (h : c = 32 ∨ c = 9 ∨ c = 10 ∨ c = 13) : spB c = true := by simp [spB, h]
theorem sp_no {c : Int} (h : ¬ (c = 32 ∨ c = 9 ∨ c = 10 ∨ c = 13)) : spB c = false := by simp [spB]; omega
theorem ret_bool {a b : Bool} (h : a = b) : Ending.returned (.bool a) = .returned (.bool b) := by rw [h]
theorem cnt_le (k : Nat) : 0 ≤ cntB k ∧ cntB k ≤ 4 := by unfold cntB; omega
theorem cnt_yes {k : Nat} (h : k = 32 ∨ k = 9 ∨ k = 10 ∨ k = 13) : cntB (k + 1) = cntB k + 1 := by unfold cntB; rcases h with rfl | rfl | rfl | rfl <;> decide
theorem cnt_no {k : Nat} (h : ¬ (k = 32 ∨ k = 9 ∨ k = 10 ∨ k = 13)) : cntB (k + 1) = cntB k := by unfold cntB; omega

set_option maxHeartbeats 400000 in
theorem isSpace_any (c : Int) (w : World) :
    Calls Try.prog 6 #[.int .u8 c] w fun e w' => e = .returned (.bool (spB c)) ∧ w' = w := by
  go_enter Try.func6, Try.ntmps6
  go_wp2
  all_goals
    go_ret
    exact ⟨ret_bool (by rw [Bool.eq_iff_iff]; simp [spB]; try omega), rfl⟩

theorem zzIsSpace_any (c : Int) (w : World) :
    Calls Try.prog 4 #[.int .u8 c] w fun e w' => e = .returned (.bool (spB c)) ∧ w' = w := by
  go_enter Try.func4, Try.ntmps4
  go_wp2_with (go_at_call 6; refine (isSpace_any _ _).mono ?_; rintro e w' ⟨rfl, rfl⟩)
  go_ret
  exact ⟨rfl, rfl⟩

set_option maxHeartbeats 1000000 in
theorem token_any (c : Int) (w : World) (h : c < 34) :
    Calls Try.prog 5 #[.int .u8 c] w fun e w' => e = .returned (.bool false) ∧ w' = w := by
  go_enter Try.func5, Try.ntmps5
  go_wp2
  go_ret
  exact ⟨rfl, rfl⟩

set_option maxHeartbeats 1000000 in
set_option maxRecDepth 10000 in
theorem walk (a0 : Int) (w0 : (Lit.int .u8 a0).wf = true) (w : World) :
    Calls Try.prog 3 #[.int .u8 a0] w fun e w' => e = .returned (.bool true) ∧ Grown w w' := by
  clear w0
  go_enter Try.func3, Try.ntmps3
  go_wp2
  go_loop [3, 4] (fun n i => ∃ k : Nat, k ≤ 256 ∧ i = .int .i64 k ∧ n = .int .i64 (cntB k)) (fun _ i => 256 - (intOf i).toNat)
  case atStart => exact ⟨0, by omega, rfl, rfl⟩
  case round =>
    obtain ⟨k, hk, rfl, rfl⟩ := hrel
    have hc := cnt_le k
    by_cases hlt : k < 256
    · by_cases hs : k = 32 ∨ k = 9 ∨ k = 10 ∨ k = 13
      · have hy : spB (k : Int) = true := sp_yes (by omega)
        have HS : Hid (cntB (k + 1) = cntB k + 1) := cnt_yes hs
        have h1 : ¬ (32 : Int) < k := by omega
        have h2 : ((k : Int) == 0) = false := by simp; omega
        go_wp2_with (first | (go_at_call 4; refine (zzIsSpace_any _ _).mono ?_; rintro e w' ⟨rfl, rfl⟩) | (go_at_call 5; refine (token_any _ _ (by omega)).mono ?_; rintro e w' ⟨rfl, rfl⟩))
        go_round
        case rel => exact ⟨k + 1, by omega, by go_num, by rw [HS.out]⟩
        case measure => simp [intOf]; omega
      · have hy : spB (k : Int) = false := sp_no (by omega)
        have HS : Hid (cntB (k + 1) = cntB k) := cnt_no hs
        clear hs
        go_wp2_with (first | (go_at_call 4; refine (zzIsSpace_any _ _).mono ?_; rintro e w' ⟨rfl, rfl⟩) | (go_at_call 5; refine (token_any _ _ (by omega)).mono ?_; rintro e w' ⟨rfl, rfl⟩))
        go_round
        case rel => exact ⟨k + 1, by omega, by go_num, by rw [HS.out]⟩
        case measure => simp [intOf]; omega
    · have hk2 : k = 256 := by omega
      subst hk2
      have h4 : cntB 256 = 4 := by decide
      by_cases hs : a0 = 32 ∨ a0 = 9 ∨ a0 = 10 ∨ a0 = 13
      · have hy : spB a0 = true := sp_yes hs
        have h1 : a0 ≤ 32 := by omega
        have h2 : ¬ (a0 = 0) := by omega
        clear hs
        go_wp2_with (first | (go_at_call 4; refine (zzIsSpace_any _ _).mono ?_; rintro e w' ⟨rfl, rfl⟩) | (go_at_call 5; refine (token_any _ _ (by omega)).mono ?_; rintro e w' ⟨rfl, rfl⟩))
        go_ret
        exact ⟨ret_bool (by simpa using h2), Grown.refl _⟩
      · have hy : spB a0 = false := sp_no hs
        clear hs
        go_wp2_with (first | (go_at_call 4; refine (zzIsSpace_any _ _).mono ?_; rintro e w' ⟨rfl, rfl⟩) | (go_at_call 5; refine (token_any _ _ (by omega)).mono ?_; rintro e w' ⟨rfl, rfl⟩))
        go_ret
        exact ⟨rfl, Grown.refl _⟩

/-! ### THE ROW's STEP: WRITTEN OUT: LEAVE IT -/
set_option maxRecDepth 100000 in
theorem lifted (os : Os) (started : os.Started) (H : Type) (enc : TypeId × Value → H) :
    ReturnsInHanded {} Try.checked os 3 .any (Rows.fnIsSpaceExactlyFourBlankBytesSpec.pre6 enc Try.prog Try.f3 Rows.fnIsSpaceExactlyFourBlankBytesRow.domain false) (Rows.fnIsSpaceExactlyFourBlankBytesSpec.post enc Try.prog Try.f3 false true false false) := by
  refine returnsInHanded_of_change (C := Try.checked) own started (by kernel_rfl) Try.func3
    (ChangeSpec.witness6 (enc := enc) (C := Try.checked) false ⟨#[], #[.int .u8 0], []⟩ 8 (by kernel_rfl) (by kernel_rfl) (by kernel_rfl) (by kernel_rfl)) ?_
  intro W base args ds gs before hval0 hW hcnd _
  have hval : ∀ (j : Nat) t v, Try.f3.params[j]? = some t → args[j]? = some v → Value.okWide Try.prog W .any base t v := hval0
  have hW' := hW
  obtain ⟨p, q, hA0, hV, rfl, hfz, hnd⟩ := hW
  have hA : DataW.TrodAll enc Try.prog W 0 (fun _ => true) true Try.f3.params.toList args.toList ds p := hA0
  rw [Try.params3] at hA hval
  obtain ⟨v0, vs0, d0, ds0, p0, q0, hargs, rfl, rfl, h0, r0⟩ := trodAll_cons hA
  obtain ⟨rfl, rfl, rfl⟩ := trodAll_nil r0
  obtain rfl : args = #[v0] := by cases args; simp_all
  obtain ⟨rfl, rfl⟩ := trodVars_none hV
  obtain ⟨a0, rfl, rfl, rfl, w0⟩ := open_int Try.underlying5 (hval 0 5 v0 rfl rfl) h0
  clear hA0 hval0
  simp only [List.append_nil] at hW'
  refine (walk a0 w0 W).mono fun e W' ⟨he, hg⟩ => ?_
  subst he
  exact ⟨_, rfl, post_of_same (pa := []) (pv := []) hW' (fun _ _ _ => (trodAll_cons_mk (shut_bool Try.underlying4 _) trodAll_mk0)) (fun sp _ => (trodAll_cons_mk (shut_int Try.underlying5 w0) trodAll_mk0)) (fun _ _ => rfl) rfl
    (hg.frame _) hg.2.1 (ok_one (by kernel_rfl) rfl (okWide_bool_mk Try.underlying4 _))⟩

theorem over : Rows.fnIsSpaceExactlyFourBlankBytesRow.holds Try.pinned (OpenSpec.ofChange Rows.fnIsSpaceExactlyFourBlankBytesSpec) :=
  OpenClaim.holds_of_wide 3 Try.f3 rfl rfl rfl rfl rfl rfl rfl ⟨rfl, rfl, rfl, rfl, rfl⟩ rfl rfl rfl rfl rfl (by kernel_rfl) Try.func3 (by kernel_rfl)
    (of_decide_eq_true (by kernel_rfl)) (by unfold Func.isWrapper; first | (rw [if_pos (by decide +kernel)]; kernel_rfl) | (rw [if_neg (by decide +kernel)]; exact ⟨rfl, rfl⟩))
    (fun os started H enc _ => lifted os started H enc)

/-- ████ THE STATEMENT ████ -/
theorem proved : Rows.FnIsSpaceExactlyFourBlankBytesSaid :=
  over
end Go.Proofs.Qxb6614070a.fnIsSpaceExactlyFourBlankBytes
