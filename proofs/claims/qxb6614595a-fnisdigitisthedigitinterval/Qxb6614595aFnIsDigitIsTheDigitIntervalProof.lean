/-
  A proof of 'Rows.FnIsDigitIsTheDigitIntervalSaid'. The frame: the guide's skeleton.
-/
import Derived.Test.Qxb6614595aRows
import Derived.WalkKit
import Derived.ProofKit
import Derived.OpenShut
import Derived.ShutString
namespace Go.Proofs.Qxb6614595a.fnIsDigitIsTheDigitInterval
open Go.ChangeShapes Go.WideShapes Go.ChangeAt Go.RowKit
open Go.ChangeMaps (open_string shut_string)
set_option linter.unusedVariables false      -- a walk need not use every 'w<i>' (that an integer argument fits its kind)

theorem own : ownKnob Try.prog.godebug = none := by kernel_rfl

/-! ### THE CALLEES -/
theorem is_yes (a : Int) (w : World) (h : 48 ≤ a) (k : a ≤ 57) : Calls Try.prog 5 #[.int .u8 a] w fun e w' => e = .returned (.bool true) ∧ w' = w := by
  go_enter Try.func5, Try.ntmps5
  go_wp2
  go_ret
  exact ⟨rfl, rfl⟩
theorem is_no (a : Int) (w : World) (h : a < 48 ∨ 57 < a) : Calls Try.prog 5 #[.int .u8 a] w fun e w' => e = .returned (.bool false) ∧ w' = w := by
  rcases h with h | h
  · have d : decide (48 ≤ a) = false := decide_eq_false (by omega)
    go_enter Try.func5, Try.ntmps5
    go_wp2
    go_ret
    exact ⟨rfl, rfl⟩
  · have d : decide (48 ≤ a) = true := decide_eq_true (by omega)
    have d' : decide (a ≤ 57) = false := decide_eq_false (by omega)
    go_enter Try.func5, Try.ntmps5
    go_wp2
    go_ret
    exact ⟨rfl, rfl⟩
theorem zz_yes (a : Int) (w : World) (h : 48 ≤ a) (k : a ≤ 57) : Calls Try.prog 4 #[.int .u8 a] w fun e w' => e = .returned (.bool true) ∧ w' = w := by
  go_enter Try.func4, Try.ntmps4
  go_wp2_with (go_at_call 5; refine (is_yes _ _ h k).mono ?_; rintro e w' ⟨rfl, rfl⟩)
  go_ret
  exact ⟨rfl, rfl⟩
theorem zz_no (a : Int) (w : World) (h : a < 48 ∨ 57 < a) : Calls Try.prog 4 #[.int .u8 a] w fun e w' => e = .returned (.bool false) ∧ w' = w := by
  go_enter Try.func4, Try.ntmps4
  go_wp2_with (go_at_call 5; refine (is_no _ _ h).mono ?_; rintro e w' ⟨rfl, rfl⟩)
  go_ret
  exact ⟨rfl, rfl⟩

/-- how many of the first k bytes are digits -/
def cnt (k : Nat) : Nat := min k 58 - min k 48
theorem cnt_in {k : Nat} (h : 48 ≤ k) (h' : k ≤ 57) : cnt (k + 1) = cnt k + 1 := by unfold cnt; omega
theorem cnt_out {k : Nat} (h : k < 48 ∨ 57 < k) : cnt (k + 1) = cnt k := by unfold cnt; omega
theorem cnt_le (k : Nat) : cnt k ≤ 10 := by unfold cnt; omega

/-! ### STEP 1: THE WALK -/
set_option maxRecDepth 100000 in
set_option maxHeartbeats 800000 in
theorem walk (a0 : Int) (w0 : (Lit.int .u8 a0).wf = true) (w : World) :
    Calls Try.prog 3 #[.int .u8 a0] w fun e w' => e = .returned (.bool true) ∧ Grown w w' := by
  obtain ⟨hlo, hhi⟩ := bounds_u8 w0
  clear w0
  rcases (show (a0 < 48 ∨ (48 < a0 ∧ a0 < 57) ∨ 57 < a0) ∨ a0 = 48 ∨ a0 = 57 from by omega) with h | h | h
  · have e1 : (a0 == 48) = false := by simp; omega
    have e2 : (a0 == 57) = false := by simp; omega
    rcases h with h | h | h
    all_goals
      go_enter Try.func3, Try.ntmps3
      go_wp2_with (first | (go_at_call 4; refine (zz_yes _ _ ?_ ?_).mono ?_; (omega); (omega); rintro e w' ⟨rfl, rfl⟩) | (go_at_call 4; refine (zz_no _ _ ?_).mono ?_; (omega); rintro e w' ⟨rfl, rfl⟩))
      go_loop [5, 6] (fun c i => ∃ k : Nat, k ≤ 256 ∧ i = .int .i64 k ∧ c = .int .i64 (cnt k)) (fun _ i => 256 - (intOf i).toNat)
      case atStart => exact ⟨0, by omega, rfl, rfl⟩
      case round =>
        obtain ⟨k, hk, rfl, rfl⟩ := hrel
        have hc := cnt_le k
        by_cases hlt : k < 256
        · by_cases hd : 48 ≤ k ∧ k ≤ 57
          · obtain ⟨hd1, hd2⟩ := hd
            have HC : Hid (cnt (k + 1) = cnt k + 1) := cnt_in hd1 hd2
            go_wp2_with (first | (go_at_call 4; refine (zz_yes _ _ ?_ ?_).mono ?_; (omega); (omega); rintro e w' ⟨rfl, rfl⟩) | (go_at_call 4; refine (zz_no _ _ ?_).mono ?_; (omega); rintro e w' ⟨rfl, rfl⟩))
            go_round
            case rel => exact ⟨k + 1, by omega, by go_num, by rw [HC.out]; go_num⟩
            case measure => simp [intOf]; omega
          · have HC : Hid (cnt (k + 1) = cnt k) := cnt_out (by omega)
            go_wp2_with (first | (go_at_call 4; refine (zz_yes _ _ ?_ ?_).mono ?_; (omega); (omega); rintro e w' ⟨rfl, rfl⟩) | (go_at_call 4; refine (zz_no _ _ ?_).mono ?_; (omega); rintro e w' ⟨rfl, rfl⟩))
            go_round
            case rel => exact ⟨k + 1, by omega, by go_num, by rw [HC.out]⟩
            case measure => simp [intOf]; omega
        · obtain rfl : k = 256 := by omega
          have hc10 : cnt 256 = 10 := by decide
          rw [hc10]
          go_wp2_with fail
          go_ret
          exact ⟨rfl, Grown.refl _⟩
  all_goals
    subst h
    go_enter Try.func3, Try.ntmps3
    go_wp2_with (first | (go_at_call 4; refine (zz_yes _ _ ?_ ?_).mono ?_; (omega); (omega); rintro e w' ⟨rfl, rfl⟩) | (go_at_call 4; refine (zz_no _ _ ?_).mono ?_; (omega); rintro e w' ⟨rfl, rfl⟩))
    go_loop [5, 6] (fun c i => ∃ k : Nat, k ≤ 256 ∧ i = .int .i64 k ∧ c = .int .i64 (cnt k)) (fun _ i => 256 - (intOf i).toNat)
    case atStart => exact ⟨0, by omega, rfl, rfl⟩
    case round =>
      obtain ⟨k, hk, rfl, rfl⟩ := hrel
      have hc := cnt_le k
      by_cases hlt : k < 256
      · by_cases hd : 48 ≤ k ∧ k ≤ 57
        · obtain ⟨hd1, hd2⟩ := hd
          have HC : Hid (cnt (k + 1) = cnt k + 1) := cnt_in hd1 hd2
          go_wp2_with (first | (go_at_call 4; refine (zz_yes _ _ ?_ ?_).mono ?_; (omega); (omega); rintro e w' ⟨rfl, rfl⟩) | (go_at_call 4; refine (zz_no _ _ ?_).mono ?_; (omega); rintro e w' ⟨rfl, rfl⟩))
          go_round
          case rel => exact ⟨k + 1, by omega, by go_num, by rw [HC.out]; go_num⟩
          case measure => simp [intOf]; omega
        · have HC : Hid (cnt (k + 1) = cnt k) := cnt_out (by omega)
          go_wp2_with (first | (go_at_call 4; refine (zz_yes _ _ ?_ ?_).mono ?_; (omega); (omega); rintro e w' ⟨rfl, rfl⟩) | (go_at_call 4; refine (zz_no _ _ ?_).mono ?_; (omega); rintro e w' ⟨rfl, rfl⟩))
          go_round
          case rel => exact ⟨k + 1, by omega, by go_num, by rw [HC.out]⟩
          case measure => simp [intOf]; omega
      · obtain rfl : k = 256 := by omega
        have hc10 : cnt 256 = 10 := by decide
        rw [hc10]
        go_wp2_with fail
        go_ret
        exact ⟨rfl, Grown.refl _⟩

/-! ### THE ROW's STEP: WRITTEN OUT: LEAVE IT -/
set_option maxRecDepth 100000 in
theorem lifted (os : Os) (started : os.Started) (H : Type) (enc : TypeId × Value → H) :
    ReturnsInHanded {} Try.checked os 3 .any (Rows.fnIsDigitIsTheDigitIntervalSpec.pre6 enc Try.prog Try.f3 Rows.fnIsDigitIsTheDigitIntervalRow.domain false) (Rows.fnIsDigitIsTheDigitIntervalSpec.post enc Try.prog Try.f3 false true false false) := by
  refine returnsInHanded_of_change (C := Try.checked) own started (by kernel_rfl) Try.func3
    (ChangeSpec.witness6 (enc := enc) (C := Try.checked) false ⟨#[], #[.int .u8 0], []⟩ 8 (by kernel_rfl) (by kernel_rfl) (by kernel_rfl) (by kernel_rfl)) ?_
  intro W base args ds gs before hval0 hW hcnd _
  have hval : ∀ (j : Nat) t v, Try.f3.params[j]? = some t → args[j]? = some v → Value.okWide Try.prog W .any base t v := hval0
  have hW' := hW
  obtain ⟨p, q, hA0, hV, rfl, hfz, hnd⟩ := hW
  have hA : DataW.TrodAll enc Try.prog W 0 (fun _ => true) true Try.f3.params.toList args.toList ds p := hA0
  rw [Try.params3] at hA hval
  obtain ⟨v0, vs0, d0, ds0, p0, q0, hargs, rfl, rfl, h0, r0⟩ := trodAll_cons hA
  obtain ⟨rfl, rfl, rfl⟩ := trodAll_nil r0
  obtain rfl : args = #[v0] := by cases args; simp_all
  obtain ⟨rfl, rfl⟩ := trodVars_none hV
  obtain ⟨a0, rfl, rfl, rfl, w0⟩ := open_int Try.underlying5 (hval 0 5 v0 rfl rfl) h0
  clear hA0 hval0
  simp only [List.append_nil] at hW'
  refine (walk a0 w0 W).mono fun e W' ⟨he, hg⟩ => ?_
  subst he
  exact ⟨_, rfl, post_of_same (pa := []) (pv := []) hW' (fun _ _ _ => (trodAll_cons_mk (shut_bool Try.underlying4 _) trodAll_mk0)) (fun sp _ => (trodAll_cons_mk (shut_int Try.underlying5 w0) trodAll_mk0)) (fun _ _ => rfl) rfl
    (hg.frame _) hg.2.1 (ok_one (by kernel_rfl) rfl (okWide_bool_mk Try.underlying4 _))⟩

theorem over : Rows.fnIsDigitIsTheDigitIntervalRow.holds Try.pinned (OpenSpec.ofChange Rows.fnIsDigitIsTheDigitIntervalSpec) :=
  OpenClaim.holds_of_wide 3 Try.f3 rfl rfl rfl rfl rfl rfl rfl ⟨rfl, rfl, rfl, rfl, rfl⟩ rfl rfl rfl rfl rfl (by kernel_rfl) Try.func3 (by kernel_rfl)
    (of_decide_eq_true (by kernel_rfl)) (by unfold Func.isWrapper; first | (rw [if_pos (by decide +kernel)]; kernel_rfl) | (rw [if_neg (by decide +kernel)]; exact ⟨rfl, rfl⟩))
    (fun os started H enc _ => lifted os started H enc)

/-- ████ THE STATEMENT ████ -/
theorem proved : Rows.FnIsDigitIsTheDigitIntervalSaid :=
  over
end Go.Proofs.Qxb6614595a.fnIsDigitIsTheDigitInterval
