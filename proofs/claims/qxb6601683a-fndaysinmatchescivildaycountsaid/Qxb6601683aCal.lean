import Derived.Test.Qxb6601683aProg
import Derived.WalkKit
import Derived.WalkSpells
import Derived.WalkLawsBesides
/-! The plain calendar, and the contracts of civilDay and daysIn. -/
namespace Go.Proofs.Qxb6601683a
open Go.RowKit

theorem ret_int {k : IntKind} {a b : Int} (h : a = b) : Ending.returned (.int k a) = .returned (.int k b) := by rw [h]

/-- Days from the epoch to the first of month m of year y. -/
def civ (y m : Int) : Int :=
  if m ≤ 2 then
    (y - 1) / 400 * 146097 + (((y - 1) - (y - 1) / 400 * 400) * 365 + ((y - 1) - (y - 1) / 400 * 400) / 4 - ((y - 1) - (y - 1) / 400 * 400) / 100 + (153 * (m + 9) + 2) / 5)
  else
    y / 400 * 146097 + ((y - y / 400 * 400) * 365 + (y - y / 400 * 400) / 4 - (y - y / 400 * 400) / 100 + (153 * (m - 3) + 2) / 5)

set_option maxHeartbeats 800000 in
theorem civ_any (y m : Int) (w : World) (hy0 : 0 ≤ y) (hy1 : y ≤ 400) (hm0 : 1 ≤ m) (hm1 : m ≤ 12) :
    Calls Try.prog 8 #[.int .i64 y, .int .i64 m, .int .i64 1] w fun e w' => e = .returned (.int .i64 (civ y m)) ∧ w' = w := by
  by_cases hm : m ≤ 2
  · by_cases hy : 1 ≤ y
    · go_enter Try.func8, Try.ntmps8
      go_wp2
      go_ret
      exact ⟨ret_int (by unfold civ; rw [if_pos hm]), rfl⟩
    · obtain rfl : y = 0 := by omega
      clear hy hy0 hy1
      go_enter Try.func8, Try.ntmps8
      go_wp2
      go_ret
      exact ⟨ret_int (by unfold civ; rw [if_pos hm]; omega), rfl⟩
  · go_enter Try.func8, Try.ntmps8
    go_wp2
    go_ret
    exact ⟨ret_int (by unfold civ; rw [if_neg (by omega)]), rfl⟩

def leap (y : Int) : Bool := (y.tmod 4 == 0) && (!(y.tmod 100 == 0) || (y.tmod 400 == 0))

def dim (y m : Int) : Int :=
  if m = 2 then (if leap y then 29 else 28) else if m = 4 ∨ m = 6 ∨ m = 9 ∨ m = 11 then 30 else 31

set_option maxHeartbeats 800000 in
theorem dim_any (y m : Int) (w : World) :
    Calls Try.prog 20 #[.int .i64 y, .int .i64 m] w fun e w' => e = .returned (.int .i64 (dim y m)) ∧ w' = w := by
  go_enter Try.func20, Try.ntmps20
  go_wp2
  all_goals go_ret
  all_goals exact ⟨ret_int (by simp_all [dim, leap]), rfl⟩

theorem tmod0 (y : Int) (k : Int) (h : k = 4 ∨ k = 100 ∨ k = 400) : (y.tmod k == 0) = decide (y % k = 0) := by
  rw [Int.tmod_eq_emod]
  rcases h with rfl | rfl | rfl <;> (rw [Bool.eq_iff_iff]; simp; split <;> omega)

/-- The law: daysIn is the count of days from the first of the month to the first of the next. -/
theorem law (y r m : Int) (hr : r = y % 400) (hm0 : 1 ≤ m) (hm1 : m ≤ 12) :
    dim y m = civ (if m = 12 then r + 1 else r) (if m = 12 then 1 else m + 1) - civ r m := by
  have e4 := tmod0 y 4 (by simp)
  have e100 := tmod0 y 100 (by simp)
  have e400 := tmod0 y 400 (by simp)
  have hm : m = 1 ∨ m = 2 ∨ m = 3 ∨ m = 4 ∨ m = 5 ∨ m = 6 ∨ m = 7 ∨ m = 8 ∨ m = 9 ∨ m = 10 ∨ m = 11 ∨ m = 12 := by omega
  rcases hm with rfl | rfl | rfl | rfl | rfl | rfl | rfl | rfl | rfl | rfl | rfl | rfl
  case inr.inl =>
    simp only [dim, leap, e4, e100, e400, civ]
    by_cases h4 : y % 4 = 0 <;> by_cases h1 : y % 100 = 0 <;> by_cases h0 : y % 400 = 0 <;> simp [h4, h1, h0] <;> omega
  all_goals (simp [dim, civ]; omega)

end Go.Proofs.Qxb6601683a
