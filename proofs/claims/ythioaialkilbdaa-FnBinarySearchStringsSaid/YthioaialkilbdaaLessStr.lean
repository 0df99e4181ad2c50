/- Contract of cmp.Less at string. -/
import Derived.Test.YthioaialkilbdaaInfo
import Derived.Test.YthioaialkilbdaaStrPlain
namespace Go.Proofs.Ythioaialkilbdaa
open Go.RowKit

theorem less_str (a b : ByteArray) (w : World) : Calls Try.prog 73 #[.string a, .string b] w fun e w' => e = .returned (.bool (sl a b)) ∧ Draws w w' := by
  go_enter Try.func73, Try.ntmps73
  go_wp2
  go_ret
  exact ⟨rfl, Draws.refl _⟩
theorem less_str_t (a b : ByteArray) (w : World) (h : sl a b = true) : Calls Try.prog 73 #[.string a, .string b] w fun e w' => e = .returned (.bool true) ∧ Draws w w' :=
  (less_str a b w).mono fun _ _ ⟨he, hd⟩ => ⟨he.trans (ret_bool h), hd⟩
theorem less_str_f (a b : ByteArray) (w : World) (h : sl a b = false) : Calls Try.prog 73 #[.string a, .string b] w fun e w' => e = .returned (.bool false) ∧ Draws w w' :=
  (less_str a b w).mono fun _ _ ⟨he, hd⟩ => ⟨he.trans (ret_bool h), hd⟩
end Go.Proofs.Ythioaialkilbdaa
