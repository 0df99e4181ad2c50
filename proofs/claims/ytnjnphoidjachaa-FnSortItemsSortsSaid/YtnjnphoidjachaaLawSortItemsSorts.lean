/- The walk of FnSortItemsSorts. -/
import Derived.Test.YtnjnphoidjachaaSortItems
import Derived.Test.YtnjnphoidjachaaToItems
import Derived.Test.YtnjnphoidjachaaAscKeys
import Derived.Test.YtnjnphoidjachaaSameElements
namespace Go.Proofs.Ytnjnphoidjachaa
open Go.RowKit

theorem asck_of_srt {ys : List (Int × Int)} (h : Srt ltK ys) : ascB (keys ys) = true := by
  unfold ascB keys
  rw [decide_eq_true_iff, List.pairwise_map]
  exact h.imp (fun {a b} hab => by simp [ltK] at hab; exact hab)

set_option maxHeartbeats 800000 in
theorem lawSortItemsSorts (A : Option Addr) (c : Nat) (zs : List (Int × Int)) (w : World) (hA : Items w A zs) (hn : zs.length * 16 ≤ 140737488351232) :
    Calls Try.prog 4 #[.slice A zs.length c] w fun e w' => e = .returned (.bool true) ∧ Below w.heap.size w w' := by
  go_enter Try.func4, Try.ntmps4
  go_wp2_with fail
  refine (toItems_calls _ _ zs w hA hn).mono ?_
  rintro e w1 ⟨A1, c1, rfl, ho1, hb1⟩
  go_wp2_with fail
  refine (sortItems_calls _ _ zs w1 ho1.items hn).mono ?_
  rintro e w2 ⟨ys, hp, hs, A2, c2, rfl, ho2, hb2'⟩
  have hb2 := hb1.trans (hb2'.mono hb1.size)
  have hnY : ys.length * 16 ≤ 140737488351232 := by rw [hp.length_eq]; exact hn
  have HS := Lib.hid (asck_of_srt hs)
  have HP := Lib.hid hp
  clear hp hs ho1 hb2'
  go_wp2_with fail
  have hc3 := ascendingKeys_calls A2 c2 ys w2 ho2.items hnY
  rw [HS.out] at hc3
  refine hc3.mono ?_
  clear hc3
  rintro e w3 ⟨rfl, hd3⟩
  have hb3 := hb2.trans hd3.below
  have hI3 := ho2.items.below hd3.below
  clear ho2
  go_wp2_with fail
  refine (toItems_calls _ _ zs w3 (hA.below hb3) hn).mono ?_
  rintro e w4 ⟨A4, c4, rfl, ho4, hb4'⟩
  have hb4 := hb3.trans (hb4'.mono hb3.size)
  have hI4 := hI3.below hb4'
  clear hI3 hb4'
  go_wp2_with fail
  refine (sameElements_perm _ _ _ _ zs ys w4 ho4.items hI4 hn HP.out.symm).mono ?_
  rintro e w5 ⟨rfl, hb5'⟩
  have hb5 := hb4.trans (hb5'.mono hb4.size)
  go_wp2
  go_ret
  exact ⟨rfl, hb5⟩
end Go.Proofs.Ytnjnphoidjachaa
