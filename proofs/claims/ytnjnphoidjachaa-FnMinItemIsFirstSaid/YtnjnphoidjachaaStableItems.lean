/- Contract of StableItems: a list of its own, the items sorted stably by keys. -/
import Derived.Test.YtnjnphoidjachaaStable
import Derived.Test.YtnjnphoidjachaaIsort
namespace Go.Proofs.Ytnjnphoidjachaa
open Go.RowKit

theorem enters_byKey' : ∀ args w, (callFunc 35 args).run Try.prog w = .ok (.enter 35 args) w := enters_of Try.func35 (by kernel_rfl) rfl

set_option maxHeartbeats 400000 in
theorem stableItems_is (A : Option Addr) (c : Nat) (zs : List (Int × Int)) (w : World) (hA : Items w A zs) (hn : zs.length * 16 ≤ 140737488351232) :
    Calls Try.prog 26 #[.slice A zs.length c] w (RetP 41 (isort ltK zs) w) := by
  rcases Nat.eq_zero_or_pos zs.length with h0 | h0
  · obtain rfl : zs = [] := List.eq_nil_of_length_eq_zero h0
    go_enter Try.func26, Try.ntmps26
    go_wp2_with fail
    refine (items_calls _ _ [] _ hA hn).mono ?_
    rintro e w1 ⟨A1, cap1, rfl, ho, hb⟩
    go_wp2_with fail
    refine (sortStableFunc_none _ _ _ _ _ _).mono ?_
    rintro e w2 ⟨rfl, rfl⟩
    go_wp2
    go_ret
    exact ⟨A1, cap1, rfl, ho, hb⟩
  · go_enter Try.func26, Try.ntmps26
    go_wp2_with fail
    refine (items_calls _ _ zs _ hA hn).mono ?_
    rintro e w1 ⟨A1, cap1, rfl, ho, hb⟩
    obtain ⟨g, cur, rfl, hg, hk, hc1, hc2, hsz, hcur⟩ := ho.block h0
    have hR : RowK encP 2 w1 g 0 zs.toArray := ⟨encP_len, encP_one, holdsK_own hk hcur, hk.lt⟩
    have hc := sortStableFunc_calls (g := 35) (cb := #[]) (cf := cmpK) (blk := g) (off := 0) (n := zs.length) (w0 := w1) ⟨⟨_, hR, by simp⟩, cmpLays_K _ _ _ _, enters_byKey', hn⟩ cap1 zs w1 rfl (SWK.start hR.hH)
    clear hcur hsz hR
    go_wp2_with fail
    refine hc.mono ?_
    clear hc
    rintro e w2 ⟨rfl, z, hz, n, os, rfl⟩
    go_wp2
    go_ret
    have hs := hz.2
    rw [ltOf_K'] at hs
    rw [← (hs (weak_K _)).unique (stable_isort (weak_K _)) (weak_K _)]
    exact retP_sorted z hz.length hb ho
end Go.Proofs.Ytnjnphoidjachaa
