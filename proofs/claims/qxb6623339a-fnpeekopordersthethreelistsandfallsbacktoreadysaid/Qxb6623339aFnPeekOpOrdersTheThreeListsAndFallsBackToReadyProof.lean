/-
  THE PROOF OF 'Rows.FnPeekOpOrdersTheThreeListsAndFallsBackToReadySaid': the frame is the one that the kit's tool writes for this function; the walk is typed by hand: the two arguments are parted into 0, 1, 2 and 'from 3 on'; the callee 'ZZBeanstalkPeekNextOp' is met by its contract at each.
-/
import Derived.Test.Qxb6623339aRows
import Derived.WalkKit
import Derived.ProofKit
import Derived.OpenShut
import Derived.ShutString
import Derived.Deep.RegionWith
namespace Go.Proofs.Qxb6623339a.fnPeekOpOrdersTheThreeListsAndFallsBackToReady
open Go.ChangeShapes Go.WideShapes Go.ChangeAt Go.RowKit
open Go.ChangeMaps (open_string shut_string)
set_option linter.unusedVariables false      -- a walk need not use every 'w<i>' (that an integer argument fits its kind)

theorem own : ownKnob Try.prog.godebug = none := by kernel_rfl

/-! ### STEP 1: THE WALK: the Go text returns true. -/

/-- what 'op' answers -/
theorem op_1 (w : World) : Calls Try.prog 4 #[.int .u8 1] w fun e w' => e = .returned (.int .u8 3) ∧ w' = w.alloc (.cells #[.int .u8 1] 29) := by
  go_enter Try.func4, Try.ntmps4
  go_wp2
  go_ret
  exact ⟨rfl, rfl⟩
theorem op_2 (w : World) : Calls Try.prog 4 #[.int .u8 2] w fun e w' => e = .returned (.int .u8 4) ∧ w' = w.alloc (.cells #[.int .u8 2] 29) := by
  go_enter Try.func4, Try.ntmps4
  go_wp2
  go_ret
  exact ⟨rfl, rfl⟩
theorem op_0 (w : World) : Calls Try.prog 4 #[.int .u8 0] w fun e w' => e = .returned (.int .u8 2) ∧ w' = w.alloc (.cells #[.int .u8 0] 29) := by
  go_enter Try.func4, Try.ntmps4
  go_wp2
  go_ret
  exact ⟨rfl, rfl⟩
theorem op_r (x : Int) (h : 3 ≤ x) (w : World) : Calls Try.prog 4 #[.int .u8 x] w fun e w' => e = .returned (.int .u8 2) ∧ w' = w.alloc (.cells #[.int .u8 x] 29) := by
  have h1 : (x == 1) = false := beq_eq_false_iff_ne.2 (by omega)
  have h2 : (x == 2) = false := beq_eq_false_iff_ne.2 (by omega)
  go_enter Try.func4, Try.ntmps4
  go_wp2
  go_ret
  exact ⟨rfl, rfl⟩

set_option maxHeartbeats 2000000 in
theorem walk (a0 : Int) (a1 : Int) (w0 : (Lit.int .u8 a0).wf = true) (w1 : (Lit.int .u8 a1).wf = true) (w : World) :
    Calls Try.prog 3 #[.int .u8 a0, .int .u8 a1] w fun e w' => e = .returned (.bool true) ∧ Grown w w' := by
  have b0 := bounds_u8 w0
  have b1 := bounds_u8 w1
  clear w0 w1
  have hc : ∀ a : Int, 0 ≤ a → a = 0 ∨ a = 1 ∨ a = 2 ∨ (3 ≤ a ∧ (a == 1) = false ∧ (a == 2) = false ∧ (a != 1) = true ∧ (a != 2) = true) := by
    intro a ha
    by_cases h : 3 ≤ a
    · exact .inr (.inr (.inr ⟨h, beq_eq_false_iff_ne.2 (by omega), beq_eq_false_iff_ne.2 (by omega), by rw [bne_iff_ne]; omega, by rw [bne_iff_ne]; omega⟩))
    · omega
  rcases hc a0 b0.1 with rfl | rfl | rfl | ⟨h0, h01, h02, h03, h04⟩
  all_goals
    rcases hc a1 b1.1 with rfl | rfl | rfl | ⟨h1, h11, h12, h13, h14⟩
    all_goals
      clear hc
      go_enter Try.func3, Try.ntmps3
      go_wp2_with (first
        | (go_at_call_of 4 (Value.int .u8 0); refine (op_0 _).mono ?_; rintro e w' ⟨rfl, rfl⟩)
        | (go_at_call_of 4 (Value.int .u8 1); refine (op_1 _).mono ?_; rintro e w' ⟨rfl, rfl⟩)
        | (go_at_call_of 4 (Value.int .u8 2); refine (op_2 _).mono ?_; rintro e w' ⟨rfl, rfl⟩)
        | (go_at_call_of 4 (Value.int .u8 a0); refine (op_r a0 h0 _).mono ?_; rintro e w' ⟨rfl, rfl⟩)
        | (go_at_call_of 4 (Value.int .u8 a1); refine (op_r a1 h1 _).mono ?_; rintro e w' ⟨rfl, rfl⟩)
        | go_in)
      go_ret
      exact ⟨rfl, by repeat (first | exact Grown.refl _ | apply Grown.drew | apply Grown.alloc)⟩

/-! ### THE ROW's STEP: WRITTEN OUT: LEAVE IT -/
set_option maxRecDepth 100000 in
theorem lifted (os : Os) (started : os.Started) (H : Type) (enc : TypeId × Value → H) :
    ReturnsInHanded {} Try.checked os 3 .any (Rows.fnPeekOpOrdersTheThreeListsAndFallsBackToReadySpec.pre6 enc Try.prog Try.f3 Rows.fnPeekOpOrdersTheThreeListsAndFallsBackToReadyRow.domain false) (Rows.fnPeekOpOrdersTheThreeListsAndFallsBackToReadySpec.post enc Try.prog Try.f3 false true false false) := by
  refine returnsInHanded_of_change (C := Try.checked) own started (by kernel_rfl) Try.func3
    (ChangeSpec.witness6 (enc := enc) (C := Try.checked) false ⟨#[], #[.int .u8 0, .int .u8 0], []⟩ 8 (by kernel_rfl) (by kernel_rfl) (by kernel_rfl) (by kernel_rfl)) ?_
  intro W base args ds gs before hval0 hW hcnd _
  have hval : ∀ (j : Nat) t v, Try.f3.params[j]? = some t → args[j]? = some v → Value.okWide Try.prog W .any base t v := hval0
  have hW' := hW
  obtain ⟨p, q, hA0, hV, rfl, hfz, hnd⟩ := hW
  have hA : DataW.TrodAll enc Try.prog W 0 (fun _ => true) true Try.f3.params.toList args.toList ds p := hA0
  rw [Try.params3] at hA hval
  obtain ⟨v0, vs0, d0, ds0, p0, q0, hargs, rfl, rfl, h0, r0⟩ := trodAll_cons hA
  obtain ⟨v1, vs1, d1, ds1, p1, q1, rfl, rfl, rfl, h1, r1⟩ := trodAll_cons r0
  obtain ⟨rfl, rfl, rfl⟩ := trodAll_nil r1
  obtain rfl : args = #[v0, v1] := by cases args; simp_all
  obtain ⟨rfl, rfl⟩ := trodVars_none hV
  obtain ⟨a0, rfl, rfl, rfl, w0⟩ := open_int Try.underlying5 (hval 0 5 v0 rfl rfl) h0
  obtain ⟨a1, rfl, rfl, rfl, w1⟩ := open_int Try.underlying5 (hval 1 5 v1 rfl rfl) h1
  clear hA0 hval0
  simp only [List.append_nil] at hW'
  refine (walk a0 a1 w0 w1 W).mono fun e W' ⟨he, hg⟩ => ?_
  subst he
  exact ⟨_, rfl, post_of_same (pa := []) (pv := []) hW' (fun _ _ _ => (trodAll_cons_mk (shut_bool Try.underlying4 _) trodAll_mk0)) (fun sp _ => (trodAll_cons_mk (shut_int Try.underlying5 w0) (trodAll_cons_mk (shut_int Try.underlying5 w1) trodAll_mk0))) (fun _ _ => rfl) rfl
    (hg.frame _) hg.2.1 (ok_one (by kernel_rfl) rfl (okWide_bool_mk Try.underlying4 _))⟩

theorem over : Rows.fnPeekOpOrdersTheThreeListsAndFallsBackToReadyRow.holds Try.pinned (OpenSpec.ofChange Rows.fnPeekOpOrdersTheThreeListsAndFallsBackToReadySpec) :=
  OpenClaim.holds_of_wide 3 Try.f3 rfl rfl rfl rfl rfl rfl rfl ⟨rfl, rfl, rfl, rfl, rfl⟩ rfl rfl rfl rfl rfl (by kernel_rfl) Try.func3 (by kernel_rfl)
    (of_decide_eq_true (by kernel_rfl)) (by unfold Func.isWrapper; first | (rw [if_pos (by decide +kernel)]; kernel_rfl) | (rw [if_neg (by decide +kernel)]; exact ⟨rfl, rfl⟩))
    (fun os started H enc _ => lifted os started H enc)

/-- ████ THE STATEMENT ████ -/
theorem proved : Rows.FnPeekOpOrdersTheThreeListsAndFallsBackToReadySaid :=
  over
end Go.Proofs.Qxb6623339a.fnPeekOpOrdersTheThreeListsAndFallsBackToReady
