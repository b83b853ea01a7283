/- The callees of the law: cmp.Compare[int32], Date.Compare, zzSign64, ZZnewDate, each by a contract. -/
import Derived.Test.Qxb6616249aRows
import Derived.WalkKit
namespace Go.Proofs.Qxb6616249a
open Go.RowKit

/-- The sign of 'x against y'. -/
def sg (x y : Int) : Int := if x < y then -1 else if y < x then 1 else 0

theorem sg_lt {x y : Int} (h : x < y) : sg x y = -1 := by unfold sg; rw [if_pos h]
theorem sg_gt {x y : Int} (h : y < x) : sg x y = 1 := by unfold sg; rw [if_neg (by omega), if_pos h]
theorem sg_eq {x y : Int} (h : x = y) : sg x y = 0 := by unfold sg; rw [if_neg (by omega), if_neg (by omega)]

theorem ret_int {k : IntKind} {a b : Int} (h : a = b) : Ending.returned (.int k a) = .returned (.int k b) := by rw [h]

set_option maxHeartbeats 400000 in
theorem cmp_any (x y : Int) (w : World) : Calls Try.prog 12 #[.int .i32 x, .int .i32 y] w fun e w' => e = .returned (.int .i64 (sg x y)) ∧ w' = w := by
  by_cases h1 : x < y
  · go_enter Try.func12, Try.ntmps12
    go_wp2
    go_ret
    exact ⟨ret_int (sg_lt h1).symm, rfl⟩
  · by_cases h2 : y < x
    · go_enter Try.func12, Try.ntmps12
      go_wp2
      go_ret
      exact ⟨ret_int (sg_gt h2).symm, rfl⟩
    · go_enter Try.func12, Try.ntmps12
      go_wp2
      go_ret
      exact ⟨ret_int (sg_eq (by omega)).symm, rfl⟩

set_option maxHeartbeats 400000 in
theorem sign_any (x : Int) (w : World) : Calls Try.prog 7 #[.int .i64 x] w fun e w' => e = .returned (.int .i64 (sg x 0)) ∧ w' = w := by
  by_cases h1 : x < 0
  · go_enter Try.func7, Try.ntmps7
    go_wp2
    go_ret
    exact ⟨ret_int (sg_lt h1).symm, rfl⟩
  · by_cases h2 : 0 < x
    · go_enter Try.func7, Try.ntmps7
      go_wp2
      go_ret
      exact ⟨ret_int (sg_gt h2).symm, rfl⟩
    · go_enter Try.func7, Try.ntmps7
      go_wp2
      go_ret
      exact ⟨ret_int (sg_eq (by omega)).symm, rfl⟩

set_option maxHeartbeats 400000 in
theorem compare_any (x y : Int) (w : World) : Calls Try.prog 6 #[.agg #[.int .i32 x], .agg #[.int .i32 y]] w fun e w' => e = .returned (.int .i64 (sg x y)) ∧ w' = (w.alloc (.cells #[.int .i32 x] 23)).alloc (.cells #[.int .i32 y] 23) := by
  go_enter Try.func6, Try.ntmps6
  go_wp2_with (go_at_call 12; refine (cmp_any _ _ _).mono ?_; rintro e w' ⟨rfl, rfl⟩)
  go_ret
  exact ⟨rfl, rfl⟩

set_option maxHeartbeats 400000 in
theorem newDate_any (x : Int) (w : World) : Calls Try.prog 5 #[.int .i32 x] w fun e w' => e = .returned (.agg #[.int .i32 x]) ∧ w' = w.alloc (.cells #[.int .i32 x] 23) := by
  go_enter Try.func5, Try.ntmps5
  go_wp2
  exact bodyPost_ret (v := .agg #[.int .i32 x]) (by simp [results, Try.results5, go_sem]) rfl ⟨rfl, rfl⟩

/-- The plain law: the values that the comparisons can take together. -/
theorem sg_swap (a b : Int) : sg b a = - sg a b := by
  unfold sg; split <;> split <;> (try split) <;> omega
theorem sg_sub (a b : Int) : sg (a - b) 0 = sg a b := by
  unfold sg; split <;> split <;> (try split) <;> (try split) <;> omega
theorem sg_self (a : Int) : sg a a = 0 := sg_eq rfl
theorem sg_le {a b : Int} (h : sg a b ≤ 0) : a ≤ b := by
  unfold sg at h; split at h <;> (try split at h) <;> omega
theorem sg_ge {a b : Int} (h : 0 ≤ sg a b) : b ≤ a := by
  unfold sg at h; split at h <;> (try split at h) <;> omega
theorem sg_bd (a b : Int) : -1 ≤ sg a b ∧ sg a b ≤ 1 := by
  unfold sg; split <;> (try split) <;> omega
theorem sg_up {a b c : Int} : ¬ (sg a b ≤ 0 ∧ sg b c ≤ 0 ∧ 0 < sg a c) := by
  rintro ⟨h1, h2, h3⟩
  have := sg_le h1; have := sg_le h2
  have h4 : sg a c ≤ 0 := by unfold sg; split <;> (try split) <;> omega
  omega
theorem sg_down {a b c : Int} : ¬ (0 ≤ sg a b ∧ 0 ≤ sg b c ∧ sg a c < 0) := by
  rintro ⟨h1, h2, h3⟩
  have := sg_ge h1; have := sg_ge h2
  have h4 : 0 ≤ sg a c := by unfold sg; split <;> (try split) <;> omega
  omega
end Go.Proofs.Qxb6616249a
