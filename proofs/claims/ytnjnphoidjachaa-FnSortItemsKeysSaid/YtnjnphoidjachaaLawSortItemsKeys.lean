/- The walk of FnSortItemsKeys. -/
import Derived.Test.YtnjnphoidjachaaSortItems
import Derived.Test.YtnjnphoidjachaaToItems
import Derived.Test.YtnjnphoidjachaaKeysOf
import Derived.Test.YtnjnphoidjachaaSortInts
import Derived.Test.YtnjnphoidjachaaSameInts
namespace Go.Proofs.Ytnjnphoidjachaa
open Go.RowKit

theorem keys_sorted {ys zs : List (Int × Int)} (hp : ys.Perm zs) (h : Srt ltK ys) : keys ys = sortI (keys zs) := by
  refine asc_unique ?_ (asc_sortI _) ((hp.map _).trans (perm_sortI (keys zs)).symm)
  unfold ascB keys
  rw [decide_eq_true_iff, List.pairwise_map]
  exact h.imp (fun {a b} hab => by simp [ltK] at hab; exact hab)

set_option maxHeartbeats 800000 in
theorem lawSortItemsKeys (A : Option Addr) (c : Nat) (zs : List (Int × Int)) (w : World) (hA : Items w A zs) (hn : zs.length * 16 ≤ 140737488351232) :
    Calls Try.prog 3 #[.slice A zs.length c] w fun e w' => e = .returned (.bool true) ∧ Below w.heap.size w w' := by
  obtain ⟨K, hK⟩ : ∃ K, K = keys zs := ⟨_, rfl⟩
  obtain ⟨L, hL⟩ : ∃ L, L = sortI K := ⟨_, rfl⟩
  have hKl : K.length = zs.length := by rw [hK, length_keys]
  have hLl : L.length = zs.length := by rw [hL, length_sortI, hKl]
  have hnK : K.length * 8 ≤ 140737488351232 := by omega
  have hnL : L.length * 8 ≤ 140737488351232 := by omega
  have hq : ((L.length : Int) == (zs.length : Int)) = true := by rw [hLl]; simp
  have HK := Lib.hid hK
  have HL := Lib.hid hL
  clear hK hL hKl hLl
  go_enter Try.func3, Try.ntmps3
  go_wp2_with fail
  refine (toItems_calls _ _ zs w hA hn).mono ?_
  rintro e w1 ⟨A1, c1, rfl, ho1, hb1⟩
  go_wp2_with fail
  refine (sortItems_calls _ _ zs w1 ho1.items hn).mono ?_
  rintro e w2 ⟨ys, hp, hs, A2, c2, rfl, ho2, hb2'⟩
  have hb2 := hb1.trans (hb2'.mono hb1.size)
  have hI2 := ho1.items.below hb2'
  have hnY : ys.length * 16 ≤ 140737488351232 := by rw [hp.length_eq]; exact hn
  have HS := Lib.hid (show keys ys = L by rw [keys_sorted hp hs, HL.out, HK.out])
  clear hp hs ho1 hb2'
  go_wp2_with fail
  have hc3 := keysOf_calls A2 c2 ys w2 ho2.items hnY
  rw [HS.out] at hc3
  refine hc3.mono ?_
  clear hc3
  rintro e w3 ⟨A3, c3, rfl, ho3, hb3'⟩
  have hb3 := hb2.trans (hb3'.mono hb2.size)
  have hI3 := hI2.below hb3'
  clear ho2 hI2 hb3'
  go_wp2_with fail
  have hc4 := keysOf_calls A1 c1 zs w3 hI3 hn
  rw [← HK.out] at hc4
  refine hc4.mono ?_
  clear hc4
  rintro e w4 ⟨A4, c4, rfl, ho4, hb4'⟩
  have hb4 := hb3.trans (hb4'.mono hb3.size)
  have hY4 := ho3.ints.below hb4'
  clear ho3 hI3 hb4'
  go_wp2_with fail
  have hc5 := sortInts_calls A4 c4 K w4 ho4.ints hnK
  rw [← HL.out] at hc5
  refine hc5.mono ?_
  clear hc5
  rintro e w5 ⟨A5, c5, rfl, ho5, hb5'⟩
  have hb5 := hb4.trans (hb5'.mono hb4.size)
  have hY5 := hY4.below hb5'
  clear ho4 hY4 hb5'
  go_wp2_with fail
  refine (sameInts_calls _ _ _ _ L L w5 hY5 ho5.ints hnL).mono ?_
  rintro e w6 ⟨he6, hd6⟩
  rw [decide_eq_true rfl] at he6
  subst he6
  go_wp2
  go_ret
  exact ⟨rfl, hb5.trans hd6.below⟩
end Go.Proofs.Ytnjnphoidjachaa
