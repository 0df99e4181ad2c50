/- Contract of SortInts: a list of its own, sorted. -/
import Derived.Test.YtnjnphoidjachaaNumbers
import Derived.Test.YtnjnphoidjachaaSortPlain
import Derived.Test.YtnjnphoidjachaaShelf
import Derived.Sort.OwnSortedInts
namespace Go.Proofs.Ytnjnphoidjachaa
open Go.RowKit

theorem retOwn_sorted {t : TypeId} {w w1 : World} {g cap n : Nat} {os : Array Obj} {zs : List Int} (ts : List Int) (hl : ts.length = zs.length) (hb : Below w.heap.size w w1) (ho : OwnI t w1 w.heap.size (some ⟨g, 0, none⟩) cap zs) :
    RetOwn t ts w (.returned (.slice (some ⟨g, 0, none⟩) zs.length cap)) (Sort.grow (Sort.putRow (Value.int .i64) (Sort.ahead w1 n) g 0 ts.toArray) os) := by
  rcases ho.2 with ⟨h, _⟩ | ⟨g', cap', cur, hv, hbb, hh, hc, hm, hs, ht⟩
  · cases h
  · simp only [Value.slice.injEq, Option.some.injEq, Addr.mk.injEq] at hv
    obtain ⟨⟨rfl, _⟩, _, rfl⟩ := hv
    refine ⟨some ⟨g, 0, none⟩, cap, by rw [hl], ?_, ?_⟩
    · have := ownsRow_sortedI (n := n) (os := os) (base := w.heap.size) (ts := ts) hl hbb hh hc hm hs
      unfold OwnI
      rw [hl]
      exact this
    · exact hb.grown (grownBy_sortedI (g := g) (n := n) (os := os) ts.toArray) hb.size (fun k h => by cases h; exact hbb)

set_option maxHeartbeats 400000 in
theorem sortInts_calls (A : Option Addr) (c : Nat) (zs : List Int) (w : World) (hA : Ints w A zs) (hn : zs.length * 8 ≤ 140737488351232) :
    Calls Try.prog 16 #[.slice A zs.length c] w (RetOwn 3 (sortI zs) w) := by
  rcases Nat.eq_zero_or_pos zs.length with h0 | h0
  · obtain rfl : zs = [] := List.eq_nil_of_length_eq_zero h0
    go_enter Try.func16, Try.ntmps16
    go_wp2_with fail
    refine (numbers_calls _ _ [] _ hA hn).mono ?_
    rintro e w1 ⟨A1, cap1, rfl, ho, hb⟩
    go_wp2_with fail
    refine (Try.slices_Sort_int_none _ _ _).mono ?_
    rintro e w2 ⟨rfl, rfl⟩
    go_wp2
    go_ret
    exact ⟨A1, cap1, by rw [sortI_nil]; rfl, by rw [sortI_nil]; exact ho, hb⟩
  · go_enter Try.func16, Try.ntmps16
    go_wp2_with fail
    refine (numbers_calls _ _ zs _ hA hn).mono ?_
    rintro e w1 ⟨A1, cap1, rfl, ho, hb⟩
    obtain ⟨g, cur, rfl, hg, hk, hc1, hc2, hsz, hcur⟩ := ho.block h0
    have hH : Hid (Sort.Holds (Value.int .i64) w1 g 0 zs.toArray) := by
      intro j hj
      have hj' : j < zs.length := by simpa using hj
      refine ⟨?_, hk.frozen _⟩
      rw [Nat.zero_add, hk.cell j, hcur j hj']
      simp [gi, hj']
    have HC := Lib.hid hcur
    have HS := Lib.hid hsz
    clear hcur hsz
    go_wp2_with fail
    refine (Try.slices_Sort_int g 0 cap1 zs w1 hH.out hk.lt (by omega)).mono ?_
    rintro e w2 ⟨rfl, n, os, rfl⟩
    go_wp2
    go_ret
    exact retOwn_sorted (sortI zs) (length_sortI zs) hb ho
end Go.Proofs.Ytnjnphoidjachaa
