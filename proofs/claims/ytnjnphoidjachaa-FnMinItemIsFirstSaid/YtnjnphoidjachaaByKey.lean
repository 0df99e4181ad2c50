/- Contracts of compare, byKey. -/
import Derived.Test.YtnjnphoidjachaaInfo
import Derived.Test.YtnjnphoidjachaaItems
namespace Go.Proofs.Ytnjnphoidjachaa
open Go.RowKit

/-- How two numbers compare: -1, 0, 1. -/
def cmpI (a b : Int) : Int := if a < b then -1 else if b < a then 1 else 0
theorem cmpI_lt {a b : Int} : cmpI a b < 0 ↔ a < b := by unfold cmpI; split <;> (try split) <;> omega
theorem cmpI_zero {a b : Int} : cmpI a b = 0 ↔ a = b := by unfold cmpI; split <;> (try split) <;> omega

theorem cmpI_gt {a b : Int} : 0 < cmpI a b ↔ b < a := by unfold cmpI; split <;> (try split) <;> omega

theorem compare_calls (a b : Int) (w : World) : Calls Try.prog 49 #[.int .i64 a, .int .i64 b] w fun e w' => e = .returned (.int .i64 (cmpI a b)) ∧ w = w' := by
  by_cases h1 : a < b
  · have HC := Lib.hid (show -1 = cmpI a b by simp [cmpI, h1])
    go_enter Try.func49, Try.ntmps49
    go_wp2
    go_ret
    exact ⟨ret_int HC.out, rfl⟩
  · by_cases h2 : b < a
    · have HC := Lib.hid (show 1 = cmpI a b by simp [cmpI, h1, h2])
      go_enter Try.func49, Try.ntmps49
      go_wp2
      go_ret
      exact ⟨ret_int HC.out, rfl⟩
    · have HC := Lib.hid (show 0 = cmpI a b by simp [cmpI, h1, h2])
      go_enter Try.func49, Try.ntmps49
      go_wp2
      go_ret
      exact ⟨ret_int HC.out, rfl⟩

theorem byKey_calls (k t k' t' : Int) (w : World) : Calls Try.prog 35 #[.agg #[.int .i64 k, .int .i64 t], .agg #[.int .i64 k', .int .i64 t']] w fun e w' => e = .returned (.int .i64 (cmpI k k')) ∧ w' = (w.alloc (.cells #[.int .i64 k, .int .i64 t] 41)).alloc (.cells #[.int .i64 k', .int .i64 t'] 41) := by
  go_enter Try.func35, Try.ntmps35
  go_wp2_with (go_at_call 49; refine (compare_calls _ _ _).mono ?_; rintro e w' ⟨rfl, rfl⟩)
  go_ret
  exact ⟨rfl, rfl⟩
end Go.Proofs.Ytnjnphoidjachaa
