/- Plain law of days: the years and the months summed one by one tell what the closed formula tells. No program. -/
namespace Go.Proofs.Ytmplkbnajohheaa.Dos

def leapB (y : Int) : Bool := y % 4 == 0 && (y % 100 != 0 || y % 400 == 0)
/-- Days ahead of a year, from 1970 on. -/
def dby (y : Int) : Int := 365 * (y - 1) + (y - 1) / 4 - (y - 1) / 100 + (y - 1) / 400 - 719162
/-- Days of a month. -/
def dim (y m : Int) : Int := if m = 2 then (if leapB y then 29 else 28) else if m = 4 ∨ m = 6 ∨ m = 9 ∨ m = 11 then 30 else 31
/-- Days of a year ahead of a month (1 to 13). -/
def cum (y m : Int) : Int :=
  (if m ≤ 1 then 0 else if m = 2 then 31 else if m = 3 then 59 else if m = 4 then 90 else if m = 5 then 120 else if m = 6 then 151 else if m = 7 then 181 else if m = 8 then 212 else if m = 9 then 243 else if m = 10 then 273 else if m = 11 then 304 else if m = 12 then 334 else 365) +
    if 3 ≤ m ∧ leapB y = true then 1 else 0

theorem leap_iff (y : Int) : leapB y = true ↔ y % 4 = 0 ∧ (y % 100 ≠ 0 ∨ y % 400 = 0) := by simp [leapB]
theorem dby_1970 : dby 1970 = 0 := by decide
theorem dby_yes {y : Int} (h : leapB y = true) : dby (y + 1) = dby y + 366 := by
  rw [leap_iff] at h
  unfold dby; omega
theorem dby_no {y : Int} (h : leapB y = false) : dby (y + 1) = dby y + 365 := by
  have h' : ¬ (y % 4 = 0 ∧ (y % 100 ≠ 0 ∨ y % 400 = 0)) := fun hh => by rw [(leap_iff y).2 hh] at h; cases h
  unfold dby; omega
theorem dby_bd {y : Int} (h0 : 1970 ≤ y) (h1 : y ≤ 2108) : 0 ≤ dby y ∧ dby y ≤ 60000 := by unfold dby; omega
theorem months {m : Int} (h1 : 1 ≤ m) (h2 : m ≤ 12) : m = 1 ∨ m = 2 ∨ m = 3 ∨ m = 4 ∨ m = 5 ∨ m = 6 ∨ m = 7 ∨ m = 8 ∨ m = 9 ∨ m = 10 ∨ m = 11 ∨ m = 12 := by omega
theorem cum_step (y : Int) {m : Int} (h1 : 1 ≤ m) (h2 : m ≤ 12) : cum y (m + 1) = cum y m + dim y m := by
  rcases months h1 h2 with rfl | rfl | rfl | rfl | rfl | rfl | rfl | rfl | rfl | rfl | rfl | rfl <;> cases hl : leapB y <;> simp [cum, dim, hl]
theorem cum_bd (y : Int) {m : Int} (h1 : 1 ≤ m) (h2 : m ≤ 13) : 0 ≤ cum y m ∧ cum y m ≤ 366 := by
  have h : m = 1 ∨ m = 2 ∨ m = 3 ∨ m = 4 ∨ m = 5 ∨ m = 6 ∨ m = 7 ∨ m = 8 ∨ m = 9 ∨ m = 10 ∨ m = 11 ∨ m = 12 ∨ m = 13 := by omega
  rcases h with rfl | rfl | rfl | rfl | rfl | rfl | rfl | rfl | rfl | rfl | rfl | rfl | rfl <;> cases hl : leapB y <;> simp [cum, hl]
theorem dim_bd (y m : Int) : 28 ≤ dim y m ∧ dim y m ≤ 31 := by
  unfold dim
  refine ⟨?_, ?_⟩ <;> (repeat' split) <;> omega
theorem cum_one (y : Int) : cum y 1 = 0 := by simp [cum]
/-- The seconds that a time of DOS tells. -/
def secs (y m d h n s : Int) : Int := (dby y + cum y m + (d - 1)) * 86400 + h * 3600 + n * 60 + s
end Go.Proofs.Ytmplkbnajohheaa.Dos
