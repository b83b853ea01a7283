/- The proof of 'Rows.FnDateCompareIsTheOrderOfDaysSaid': the walk by the callees' contracts (WalkA), then the guide's frame. -/
import Derived.Test.Qxb6616249aWalkA
import Derived.WalkKit
import Derived.ProofKit
import Derived.OpenShut
import Derived.ShutString
namespace Go.Proofs.Qxb6616249a.fnDateCompareIsTheOrderOfDays
open Go.ChangeShapes Go.WideShapes Go.ChangeAt Go.RowKit
open Go.ChangeMaps (open_string shut_string)
set_option linter.unusedVariables false      -- a walk need not use every 'w<i>' (that an integer argument fits its kind)

theorem own : ownKnob Try.prog.godebug = none := by kernel_rfl

/-! ### STEP 1: THE WALK: the Go text returns true. -/
theorem walk_out (a0 : Int) (a1 : Int) (a2 : Int) (w : World) (h : a0 < 0 ∨ 3652058 < a0 ∨ a1 < 0 ∨ 3652058 < a1 ∨ a2 < 0 ∨ 3652058 < a2) :
    Calls Try.prog 3 #[.int .i32 a0, .int .i32 a1, .int .i32 a2] w fun e w' => e = .returned (.bool true) ∧ Grown w w' := by
  by_cases c1 : a0 < 0
  · go_enter Try.func3, Try.ntmps3
    go_wp2_with fail
    go_ret
    exact ⟨rfl, Grown.refl _⟩
  by_cases c2 : 3652058 < a0
  · go_enter Try.func3, Try.ntmps3
    go_wp2_with fail
    go_ret
    exact ⟨rfl, Grown.refl _⟩
  by_cases c3 : a1 < 0
  · go_enter Try.func3, Try.ntmps3
    go_wp2_with fail
    go_ret
    exact ⟨rfl, Grown.refl _⟩
  by_cases c4 : 3652058 < a1
  · go_enter Try.func3, Try.ntmps3
    go_wp2_with fail
    go_ret
    exact ⟨rfl, Grown.refl _⟩
  by_cases c5 : a2 < 0
  · go_enter Try.func3, Try.ntmps3
    go_wp2_with fail
    go_ret
    exact ⟨rfl, Grown.refl _⟩
  have c6 : 3652058 < a2 := by omega
  go_enter Try.func3, Try.ntmps3
  go_wp2_with fail
  go_ret
  exact ⟨rfl, Grown.refl _⟩

theorem ret_bool {a b : Bool} (h : a = b) : Ending.returned (.bool a) = .returned (.bool b) := by rw [h]

set_option maxHeartbeats 1000000 in
theorem walk_in (a0 a1 a2 : Int) (w : World) (c1 : 0 ≤ a0) (c2 : a0 ≤ 3652058) (c3 : 0 ≤ a1) (c4 : a1 ≤ 3652058) (c5 : 0 ≤ a2) (c6 : a2 ≤ 3652058) (p q r : Int)
    (e1 : sg a0 a1 = p) (e2 : sg a1 a0 = -p) (e3 : sg a0 a2 = r) (e4 : sg a1 a2 = q) (e5 : sg (a0 - a1) 0 = p) (e6 : sg (a0 - a2) 0 = r) (e7 : sg a0 a0 = 0)
    (n1 : ¬ (p ≤ 0 ∧ q ≤ 0 ∧ 0 < r)) (n2 : ¬ (0 ≤ p ∧ 0 ≤ q ∧ r < 0)) (b1 : -1 ≤ p) (b2 : p ≤ 1) :
    Calls Try.prog 3 #[.int .i32 a0, .int .i32 a1, .int .i32 a2] w fun e w' => e = .returned (.bool true) ∧ Grown w w' := by
  go_enter Try.func3, Try.ntmps3
  go_wp2_with (first | (go_at_call 6; refine (compare_any _ _ _).mono ?_; rintro e w' ⟨rfl, rfl⟩) | (go_at_call 7; refine (sign_any _ _).mono ?_; rintro e w' ⟨rfl, rfl⟩) | (go_at_call 5; refine (newDate_any _ _).mono ?_; rintro e w' ⟨rfl, rfl⟩))
  all_goals
    go_ret
    refine ⟨?_, ?_⟩
    · first | exact ret_bool rfl | exact ret_bool (by simp; omega)
    · repeat apply Grown.alloc
      exact Grown.refl _

theorem walk (a0 : Int) (a1 : Int) (a2 : Int) (w0 : (Lit.int .i32 a0).wf = true) (w1 : (Lit.int .i32 a1).wf = true) (w2 : (Lit.int .i32 a2).wf = true) (w : World) :
    Calls Try.prog 3 #[.int .i32 a0, .int .i32 a1, .int .i32 a2] w fun e w' => e = .returned (.bool true) ∧ Grown w w' := by
  by_cases h : a0 < 0 ∨ 3652058 < a0 ∨ a1 < 0 ∨ 3652058 < a1 ∨ a2 < 0 ∨ 3652058 < a2
  · exact walk_out a0 a1 a2 w h
  exact walk_in a0 a1 a2 w (by omega) (by omega) (by omega) (by omega) (by omega) (by omega) _ _ _ rfl (sg_swap _ _) rfl rfl (sg_sub _ _) (sg_sub _ _) (sg_self _) sg_up sg_down (sg_bd _ _).1 (sg_bd _ _).2

/-! ### THE ROW's STEP: WRITTEN OUT: LEAVE IT -/
set_option maxRecDepth 100000 in
theorem lifted (os : Os) (started : os.Started) (H : Type) (enc : TypeId × Value → H) :
    ReturnsInHanded {} Try.checked os 3 .any (Rows.fnDateCompareIsTheOrderOfDaysSpec.pre6 enc Try.prog Try.f3 Rows.fnDateCompareIsTheOrderOfDaysRow.domain false) (Rows.fnDateCompareIsTheOrderOfDaysSpec.post enc Try.prog Try.f3 false true false false) := by
  refine returnsInHanded_of_change (C := Try.checked) own started (by kernel_rfl) Try.func3
    (ChangeSpec.witness6 (enc := enc) (C := Try.checked) false ⟨#[], #[.int .i32 0, .int .i32 0, .int .i32 0], []⟩ 8 (by kernel_rfl) (by kernel_rfl) (by kernel_rfl) (by kernel_rfl)) ?_
  intro W base args ds gs before hval0 hW hcnd _
  have hval : ∀ (j : Nat) t v, Try.f3.params[j]? = some t → args[j]? = some v → Value.okWide Try.prog W .any base t v := hval0
  have hW' := hW
  obtain ⟨p, q, hA0, hV, rfl, hfz, hnd⟩ := hW
  have hA : DataW.TrodAll enc Try.prog W 0 (fun _ => true) true Try.f3.params.toList args.toList ds p := hA0
  rw [Try.params3] at hA hval
  obtain ⟨v0, vs0, d0, ds0, p0, q0, hargs, rfl, rfl, h0, r0⟩ := trodAll_cons hA
  obtain ⟨v1, vs1, d1, ds1, p1, q1, rfl, rfl, rfl, h1, r1⟩ := trodAll_cons r0
  obtain ⟨v2, vs2, d2, ds2, p2, q2, rfl, rfl, rfl, h2, r2⟩ := trodAll_cons r1
  obtain ⟨rfl, rfl, rfl⟩ := trodAll_nil r2
  obtain rfl : args = #[v0, v1, v2] := by cases args; simp_all
  obtain ⟨rfl, rfl⟩ := trodVars_none hV
  obtain ⟨a0, rfl, rfl, rfl, w0⟩ := open_int Try.underlying21 (hval 0 21 v0 rfl rfl) h0
  obtain ⟨a1, rfl, rfl, rfl, w1⟩ := open_int Try.underlying21 (hval 1 21 v1 rfl rfl) h1
  obtain ⟨a2, rfl, rfl, rfl, w2⟩ := open_int Try.underlying21 (hval 2 21 v2 rfl rfl) h2
  clear hA0 hval0
  simp only [List.append_nil] at hW'
  refine (walk a0 a1 a2 w0 w1 w2 W).mono fun e W' ⟨he, hg⟩ => ?_
  subst he
  exact ⟨_, rfl, post_of_same (pa := []) (pv := []) hW' (fun _ _ _ => (trodAll_cons_mk (shut_bool Try.underlying4 _) trodAll_mk0)) (fun sp _ => (trodAll_cons_mk (shut_int Try.underlying21 w0) (trodAll_cons_mk (shut_int Try.underlying21 w1) (trodAll_cons_mk (shut_int Try.underlying21 w2) trodAll_mk0)))) (fun _ _ => rfl) rfl
    (hg.frame _) hg.2.1 (ok_one (by kernel_rfl) rfl (okWide_bool_mk Try.underlying4 _))⟩

theorem over : Rows.fnDateCompareIsTheOrderOfDaysRow.holds Try.pinned (OpenSpec.ofChange Rows.fnDateCompareIsTheOrderOfDaysSpec) :=
  OpenClaim.holds_of_wide 3 Try.f3 rfl rfl rfl rfl rfl rfl rfl ⟨rfl, rfl, rfl, rfl, rfl⟩ rfl rfl rfl rfl rfl (by kernel_rfl) Try.func3 (by kernel_rfl)
    (of_decide_eq_true (by kernel_rfl)) (by unfold Func.isWrapper; first | (rw [if_pos (by decide +kernel)]; kernel_rfl) | (rw [if_neg (by decide +kernel)]; exact ⟨rfl, rfl⟩))
    (fun os started H enc _ => lifted os started H enc)

/-- ████ THE STATEMENT ████ -/
theorem proved : Rows.FnDateCompareIsTheOrderOfDaysSaid :=
  over
end Go.Proofs.Qxb6616249a.fnDateCompareIsTheOrderOfDays

namespace Go.Proofs.Qxb6616249a
/-- The statement. -/
theorem dateCompare_proved : Rows.FnDateCompareIsTheOrderOfDaysSaid := fnDateCompareIsTheOrderOfDays.proved
end Go.Proofs.Qxb6616249a
