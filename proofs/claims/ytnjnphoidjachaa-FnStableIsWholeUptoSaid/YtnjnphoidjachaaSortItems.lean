/- Contracts of SortItems and SortWhole: a list of its own, the same items, in order. -/
import Derived.Test.YtnjnphoidjachaaCmpItems
import Derived.Test.YtnjnphoidjachaaLayF
import Derived.Shelf.SlSortCmp.NoneTotal
namespace Go.Proofs.Ytnjnphoidjachaa
open Go.RowKit

/-- A call hands back a new row of the same items in order. -/
def RetSrt (t : TypeId) (lt : Int × Int → Int × Int → Bool) (zs : List (Int × Int)) (w : World) (e : Ending) (w' : World) : Prop := ∃ ys : List (Int × Int), ys.Perm zs ∧ Srt lt ys ∧ RetP t ys w e w'

theorem enters_byKey : ∀ args w, (callFunc 35 args).run Try.prog w = .ok (.enter 35 args) w := enters_of Try.func35 (by kernel_rfl) rfl
theorem enters_byWhole : ∀ args w, (callFunc 40 args).run Try.prog w = .ok (.enter 40 args) w := enters_of Try.func40 (by kernel_rfl) rfl

set_option maxHeartbeats 400000 in
theorem sortItems_calls (A : Option Addr) (c : Nat) (zs : List (Int × Int)) (w : World) (hA : Items w A zs) (hn : zs.length * 16 ≤ 140737488351232) :
    Calls Try.prog 14 #[.slice A zs.length c] w (RetSrt 41 ltK zs w) := by
  rcases Nat.eq_zero_or_pos zs.length with h0 | h0
  · obtain rfl : zs = [] := List.eq_nil_of_length_eq_zero h0
    go_enter Try.func14, Try.ntmps14
    go_wp2_with fail
    refine (items_calls _ _ [] _ hA hn).mono ?_
    rintro e w1 ⟨A1, cap1, rfl, ho, hb⟩
    go_wp2_with fail
    refine (AnyF.slices_SortFunc_none Try.layLayF _ _ _ _).mono ?_
    rintro e w2 ⟨rfl, rfl⟩
    go_wp2
    go_ret
    exact ⟨[], List.Perm.refl _, List.Pairwise.nil, A1, cap1, rfl, ho, hb⟩
  · go_enter Try.func14, Try.ntmps14
    go_wp2_with fail
    refine (items_calls _ _ zs _ hA hn).mono ?_
    rintro e w1 ⟨A1, cap1, rfl, ho, hb⟩
    obtain ⟨g, cur, rfl, hg, hk, hc1, hc2, hsz, hcur⟩ := ho.block h0
    have hc := AnyQ.slices_SortFunc Try.layLayF 2 Try.isAgg41 Try.sizeOf41 encP encP_len encP_one cmpK swo_K 35 #[] g 0 cap1 zs.toArray w1 enters_byKey (cmpLays_K _ _ _ _) (holdsK_own hk hcur) hk.lt (by simp; omega)
    rw [List.size_toArray] at hc
    clear hcur hsz
    go_wp2_with fail
    refine hc.mono ?_
    clear hc
    rintro e w2 ⟨rfl, d', n, os, hp, hs, rfl⟩
    go_wp2
    go_ret
    have hp' := perm_of_in (d := zs.toArray) (d' := d') (by simpa using hp)
    have hsz := hp.1
    have hs' : Srt (ltOf cmpK) d'.toList := srt_of_in (by rw [hsz]; simpa using hs)
    rw [ltOf_K'] at hs'
    exact ⟨d'.toList, hp', hs', retP_sorted d'.toList (by simpa using hsz) hb ho⟩

set_option maxHeartbeats 400000 in
theorem sortWhole_calls (A : Option Addr) (c : Nat) (zs : List (Int × Int)) (w : World) (hA : Items w A zs) (hn : zs.length * 16 ≤ 140737488351232) :
    Calls Try.prog 22 #[.slice A zs.length c] w (RetSrt 41 ltW zs w) := by
  rcases Nat.eq_zero_or_pos zs.length with h0 | h0
  · obtain rfl : zs = [] := List.eq_nil_of_length_eq_zero h0
    go_enter Try.func22, Try.ntmps22
    go_wp2_with fail
    refine (items_calls _ _ [] _ hA hn).mono ?_
    rintro e w1 ⟨A1, cap1, rfl, ho, hb⟩
    go_wp2_with fail
    refine (AnyF.slices_SortFunc_none Try.layLayF _ _ _ _).mono ?_
    rintro e w2 ⟨rfl, rfl⟩
    go_wp2
    go_ret
    exact ⟨[], List.Perm.refl _, List.Pairwise.nil, A1, cap1, rfl, ho, hb⟩
  · go_enter Try.func22, Try.ntmps22
    go_wp2_with fail
    refine (items_calls _ _ zs _ hA hn).mono ?_
    rintro e w1 ⟨A1, cap1, rfl, ho, hb⟩
    obtain ⟨g, cur, rfl, hg, hk, hc1, hc2, hsz, hcur⟩ := ho.block h0
    have hc := AnyQ.slices_SortFunc Try.layLayF 2 Try.isAgg41 Try.sizeOf41 encP encP_len encP_one cmpW swo_W 40 #[] g 0 cap1 zs.toArray w1 enters_byWhole (cmpLays_W _ _ _ _) (holdsK_own hk hcur) hk.lt (by simp; omega)
    rw [List.size_toArray] at hc
    clear hcur hsz
    go_wp2_with fail
    refine hc.mono ?_
    clear hc
    rintro e w2 ⟨rfl, d', n, os, hp, hs, rfl⟩
    go_wp2
    go_ret
    have hp' := perm_of_in (d := zs.toArray) (d' := d') (by simpa using hp)
    have hsz := hp.1
    have hs' : Srt (ltOf cmpW) d'.toList := srt_of_in (by rw [hsz]; simpa using hs)
    rw [ltOf_W'] at hs'
    exact ⟨d'.toList, hp', hs', retP_sorted d'.toList (by simpa using hsz) hb ho⟩
end Go.Proofs.Ytnjnphoidjachaa
