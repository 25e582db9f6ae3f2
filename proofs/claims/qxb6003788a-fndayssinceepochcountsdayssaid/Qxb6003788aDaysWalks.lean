import Derived.Test.Qxb6003788aRows
import Derived.Test.Qxb6003788aCal
import Derived.WalkKit
import Derived.WalkSpells
namespace Go.Proofs.Qxb6003788a.Days
open Go.RowKit
set_option linter.unusedVariables false

theorem ret_bool {a b : Bool} (h : a = b) : Ending.returned (.bool a) = .returned (.bool b) := by rw [h]
theorem ret_int {k : IntKind} {a b : Int} (h : a = b) : Ending.returned (.int k a) = .returned (.int k b) := by rw [h]

set_option maxHeartbeats 400000 in
theorem leap_any (y : Int) (w : World) (h0 : 0 ≤ y) (h1 : y ≤ 1000000) :
    Calls Try.prog 21 #[.int .i64 y] w fun e w' => e = .returned (.bool (Cal.lpB y)) ∧ w' = w := by
  by_cases c4 : y % 4 = 0
  · by_cases c100 : y % 100 = 0
    · by_cases c400 : y % 400 = 0
      · go_enter Try.func21, Try.ntmps21
        go_wp2
        go_ret
        exact ⟨ret_bool (by simp [Cal.lpB, c4, c400]), rfl⟩
      · go_enter Try.func21, Try.ntmps21
        go_wp2
        go_ret
        exact ⟨ret_bool (by simp [Cal.lpB, c400, c100]), rfl⟩
    · go_enter Try.func21, Try.ntmps21
      go_wp2
      go_ret
      exact ⟨ret_bool (by simp [Cal.lpB]; omega), rfl⟩
  · go_enter Try.func21, Try.ntmps21
    go_wp2
    go_ret
    exact ⟨ret_bool (by simp [Cal.lpB]; omega), rfl⟩

set_option maxHeartbeats 400000 in
theorem ml_any (y m : Int) (w : World) (h0 : 0 ≤ y) (h1 : y ≤ 1000000) :
    Calls Try.prog 10 #[.int .i64 y, .int .i64 m] w fun e w' => e = .returned (.int .i64 (Cal.ml y m)) ∧ w' = w := by
  by_cases e2 : m = 2
  · subst e2
    go_enter Try.func10, Try.ntmps10
    go_wp2_with (go_at_call 21; refine (leap_any _ _ h0 h1).mono ?_; rintro e w' ⟨rfl, rfl⟩)
    all_goals
      go_ret
      exact ⟨ret_int (by simp [Cal.ml, *]), rfl⟩
  · by_cases h : m = 4 ∨ m = 6 ∨ m = 9 ∨ m = 11
    · rcases h with rfl | rfl | rfl | rfl
      all_goals
        go_enter Try.func10, Try.ntmps10
        go_wp2
        go_ret
        exact ⟨ret_int (by simp [Cal.ml]), rfl⟩
    · have HM : Hid (Cal.ml y m = 31) := by unfold Cal.ml; rw [if_neg e2, if_neg h]; trivial
      have h4 : (m == 4) = false := by simp; omega
      have h6 : (m == 6) = false := by simp; omega
      have h9 : (m == 9) = false := by simp; omega
      have h11 : (m == 11) = false := by simp; omega
      clear h
      go_enter Try.func10, Try.ntmps10
      go_wp2
      go_ret
      exact ⟨ret_int (by rw [HM.out]), rfl⟩

set_option maxHeartbeats 400000 in
theorem dse_any (y m d : Int) (w : World) (h0 : 0 ≤ y) (h1 : y ≤ 1000001) (m0 : 1 ≤ m) (m1 : m ≤ 12) (d0 : 1 ≤ d) (d1 : d ≤ 31) :
    Calls Try.prog 22 #[.int .i64 y, .int .i64 m, .int .i64 d] w fun e w' => e = .returned (.int .i64 (Cal.dse y m d)) ∧ w' = w := by
  by_cases e3 : m < 3
  · go_enter Try.func22, Try.ntmps22
    go_wp2
    go_ret
    exact ⟨ret_int (by simp [Cal.dse, e3]), rfl⟩
  · go_enter Try.func22, Try.ntmps22
    go_wp2
    go_ret
    exact ⟨ret_int (by unfold Cal.dse; rw [if_neg (by omega)]; simp only []; omega), rfl⟩

theorem zz_any (y m d : Int) (w : World) (h0 : 0 ≤ y) (h1 : y ≤ 1000001) (m0 : 1 ≤ m) (m1 : m ≤ 12) (d0 : 1 ≤ d) (d1 : d ≤ 31) :
    Calls Try.prog 11 #[.int .i64 y, .int .i64 m, .int .i64 d] w fun e w' => e = .returned (.int .i64 (Cal.dse y m d)) ∧ w' = w := by
  go_enter Try.func11, Try.ntmps11
  go_wp2_with (go_at_call 22; refine (dse_any _ _ _ _ h0 h1 m0 m1 d0 d1).mono ?_; rintro e w' ⟨rfl, rfl⟩)
  go_ret
  exact ⟨rfl, rfl⟩
end Go.Proofs.Qxb6003788a.Days
