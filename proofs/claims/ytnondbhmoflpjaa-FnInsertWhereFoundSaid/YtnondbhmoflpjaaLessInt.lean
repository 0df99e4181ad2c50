/- Contract of cmp.Less at int. -/
import Derived.Test.YtnondbhmoflpjaaInfo
namespace Go.Proofs.Ytnondbhmoflpjaa
open Go.RowKit

theorem less_int (a b : Int) (w : World) : Calls Try.prog 49 #[.int .i64 a, .int .i64 b] w fun e w' => e = .returned (.bool (decide (a < b))) ∧ Draws w w' := by
  by_cases h : a < b
  all_goals
    have h1 : (a != a) = false := by simp
    go_enter Try.func49, Try.ntmps49
    go_wp2
    go_ret
    exact ⟨ret_bool (by simp [h]), Draws.refl _⟩

theorem less_int_t (a b : Int) (w : World) (h : a < b) : Calls Try.prog 49 #[.int .i64 a, .int .i64 b] w fun e w' => e = .returned (.bool true) ∧ Draws w w' :=
  (less_int a b w).mono fun _ _ ⟨he, hd⟩ => ⟨he.trans (ret_bool (by simp [h])), hd⟩
theorem less_int_f (a b : Int) (w : World) (h : b ≤ a) : Calls Try.prog 49 #[.int .i64 a, .int .i64 b] w fun e w' => e = .returned (.bool false) ∧ Draws w w' :=
  (less_int a b w).mono fun _ _ ⟨he, hd⟩ => ⟨he.trans (ret_bool (by simp; omega)), hd⟩

end Go.Proofs.Ytnondbhmoflpjaa
