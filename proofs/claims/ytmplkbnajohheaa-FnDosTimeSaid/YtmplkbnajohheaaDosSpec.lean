/- The walks of the reference's months and days, and of the leap years' function. -/
import Derived.Test.YtmplkbnajohheaaRows
import Derived.Test.YtmplkbnajohheaaDosPlain
import Derived.WalkKit
import Derived.Lib.Hide
namespace Go.Proofs.Ytmplkbnajohheaa.Dos
open Go.RowKit

theorem leap_yes {y : Int} (h4 : y % 4 = 0) (h : y % 100 ≠ 0 ∨ y % 400 = 0) : leapB y = true := (leap_iff y).2 ⟨h4, h⟩
theorem leap_no {y : Int} (h : ¬ (y % 4 = 0 ∧ (y % 100 ≠ 0 ∨ y % 400 = 0))) : leapB y = false := by
  cases hb : leapB y
  · rfl
  · exact absurd ((leap_iff y).1 hb) h

set_option maxRecDepth 100000 in
set_option maxHeartbeats 1000000 in
theorem month_any (y m : Int) (hy0 : 1970 ≤ y) (hy1 : y ≤ 3000) (hm1 : 1 ≤ m) (hm2 : m ≤ 12) (w : World) :
    Calls Try.prog 7 #[.int .i64 y, .int .i64 m] w fun e w' => e = .returned (.int .i64 (dim y m)) ∧ w = w' := by
  by_cases h2 : m = 2
  · subst h2
    by_cases h4 : y % 4 = 0
    · by_cases h100 : y % 100 = 0
      · by_cases h400 : y % 400 = 0
        · have HD : Hid (dim y 2 = 29) := by show dim y 2 = 29; simp [dim, leap_yes h4 (Or.inr h400)]
          go_enter Try.func7, Try.ntmps7
          go_wp2
          go_ret
          exact ⟨by rw [HD.out]; rfl, rfl⟩
        · have HD : Hid (dim y 2 = 28) := by show dim y 2 = 28; simp [dim, leap_no (y := y) (by omega)]
          go_enter Try.func7, Try.ntmps7
          go_wp2
          go_ret
          exact ⟨by rw [HD.out]; rfl, rfl⟩
      · have HD : Hid (dim y 2 = 29) := by show dim y 2 = 29; simp [dim, leap_yes h4 (Or.inl h100)]
        go_enter Try.func7, Try.ntmps7
        go_wp2
        go_ret
        exact ⟨by rw [HD.out]; rfl, rfl⟩
    · have HD : Hid (dim y 2 = 28) := by show dim y 2 = 28; simp [dim, leap_no (y := y) (by omega)]
      go_enter Try.func7, Try.ntmps7
      go_wp2
      go_ret
      exact ⟨by rw [HD.out]; rfl, rfl⟩
  · have h : m = 1 ∨ m = 3 ∨ m = 4 ∨ m = 5 ∨ m = 6 ∨ m = 7 ∨ m = 8 ∨ m = 9 ∨ m = 10 ∨ m = 11 ∨ m = 12 := by omega
    clear h2 hm1 hm2
    rcases h with rfl | rfl | rfl | rfl | rfl | rfl | rfl | rfl | rfl | rfl | rfl
    all_goals
      go_enter Try.func7, Try.ntmps7
      go_wp2
      go_ret
      exact ⟨by simp [dim], rfl⟩

set_option maxRecDepth 100000 in
set_option maxHeartbeats 1000000 in
theorem days_any (y m d : Int) (hy0 : 1970 ≤ y) (hy1 : y ≤ 3000) (hm1 : 1 ≤ m) (hm2 : m ≤ 12) (hd1 : 1 ≤ d) (hd2 : d ≤ 31) (w : World) :
    Calls Try.prog 9 #[.int .i64 y, .int .i64 m, .int .i64 d] w fun e w' => e = .returned (.int .i64 (dby y + cum y m + (d - 1))) ∧ w = w' := by
  have HE : Hid (dby y = 365 * (y - 1) + (y - 1) / 4 - (y - 1) / 100 + (y - 1) / 400 - 719162) := rfl
  go_enter Try.func9, Try.ntmps9
  go_wp2
  go_loop [7, 8] (fun vn vk => ∃ k : Int, 1 ≤ k ∧ k ≤ m ∧ vk = .int .i64 k ∧ vn = .int .i64 (d - 1 + cum y k)) (fun _ vk => (m - intOf vk).toNat)
  case atStart => exact ⟨1, by omega, by omega, rfl, by rw [cum_one]; go_num⟩
  case round =>
    obtain ⟨k, hk1, hk2, rfl, rfl⟩ := hrel
    have hcb := cum_bd y hk1 (by omega)
    have hdb := dim_bd y k
    by_cases hlt : k < m
    · have HC : Hid (cum y (k + 1) = cum y k + dim y k) := cum_step y hk1 (by omega)
      go_wp2_with (go_at_call 7; refine (month_any y k hy0 hy1 hk1 (by omega) _).mono ?_; rintro e w' ⟨rfl, rfl⟩)
      go_round
      case rel => exact ⟨k + 1, by omega, by omega, rfl, by rw [HC.out]; go_num⟩
      case measure => simp [intOf]; omega
    · have hk : k = m := by omega
      subst hk
      go_wp2
      go_ret
      exact ⟨by rw [HE.out]; go_num, rfl⟩

set_option maxRecDepth 100000 in
set_option maxHeartbeats 1000000 in
theorem leap_any (y : Int) (hy0 : 1970 ≤ y) (hy1 : y ≤ 3000) (w : World) :
    Calls Try.prog 20 #[.int .i64 y] w fun e w' => e = .returned (.bool (leapB y)) ∧ w = w' := by
  by_cases h4 : y % 4 = 0
  · by_cases h100 : y % 100 = 0
    · by_cases h400 : y % 400 = 0
      · have HD : Hid (leapB y = true) := leap_yes h4 (Or.inr h400)
        go_enter Try.func20, Try.ntmps20
        go_wp2
        go_ret
        exact ⟨by rw [HD.out]; rfl, rfl⟩
      · have HD : Hid (leapB y = false) := leap_no (by omega)
        have b : (y % 400 == 0) = false := by simp [h400]
        go_enter Try.func20, Try.ntmps20
        go_wp2
        go_ret
        exact ⟨by rw [HD.out]; rfl, rfl⟩
    · have HD : Hid (leapB y = true) := leap_yes h4 (Or.inl h100)
      have b : (y % 100 != 0) = true := by simp [h100]
      go_enter Try.func20, Try.ntmps20
      go_wp2
      go_ret
      exact ⟨by rw [HD.out]; rfl, rfl⟩
  · have HD : Hid (leapB y = false) := leap_no (by omega)
    have b : (y % 4 == 0) = false := by simp [h4]
    go_enter Try.func20, Try.ntmps20
    go_wp2
    go_ret
    exact ⟨by rw [HD.out]; rfl, rfl⟩
end Go.Proofs.Ytmplkbnajohheaa.Dos
