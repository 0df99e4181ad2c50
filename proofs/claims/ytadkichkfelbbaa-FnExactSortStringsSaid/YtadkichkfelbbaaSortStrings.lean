/- Contract of SortStrings: a list of its own, sorted. -/
import Derived.Test.YtadkichkfelbbaaTexts
import Derived.Test.YtadkichkfelbbaaSortStrPlain
import Derived.Test.YtadkichkfelbbaaShelf
import Derived.Sort.OwnSorted
namespace Go.Proofs.Ytadkichkfelbbaa
open Go.RowKit

theorem retS_sorted {t : TypeId} {w w1 : World} {g cap n : Nat} {os : Array Obj} {zs : List ByteArray} (ts : List (List UInt8)) (hl : ts.length = zs.length) (hb : Below w.heap.size w w1) (ho : OwnS t w1 w.heap.size (some ⟨g, 0, none⟩) cap zs) :
    RetS t (ts.map ofBytes) w (.returned (.slice (some ⟨g, 0, none⟩) zs.length cap)) (Sort.grow (Sort.putRow encStr (Sort.ahead w1 n) g 0 ts.toArray) os) := by
  rcases ho.2 with ⟨h, _⟩ | ⟨g', cap', cur, hv, hbb, hh, hc, hm, hs, ht⟩
  · cases h
  · simp only [Value.slice.injEq, Option.some.injEq, Addr.mk.injEq] at hv
    obtain ⟨⟨rfl, _⟩, _, rfl⟩ := hv
    have hl2 : (ts.map ofBytes).length = zs.length := by simpa using hl
    refine ⟨some ⟨g, 0, none⟩, cap, by rw [hl2], ?_, ?_⟩
    · have := ownsRow_sorted (n := n) (os := os) (base := w.heap.size) (ss := ts) (ts := ts) rfl hbb hh (by omega) hm hs
      unfold OwnS
      rw [List.length_map, List.map_map]
      exact this
    · exact hb.grown (grownBy_sorted (g := g) (n := n) (os := os) ts.toArray) hb.size (fun k h => by cases h; exact hbb)

set_option maxHeartbeats 400000 in
theorem sortStrings_calls (A : Option Addr) (c : Nat) (zs : List ByteArray) (w : World) (hA : Strs w A zs) (hn : zs.length * 16 ≤ 140737488351232) :
    Calls Try.prog 11 #[.slice A zs.length c] w (RetS 9 (sortS zs) w) := by
  rcases Nat.eq_zero_or_pos zs.length with h0 | h0
  · obtain rfl : zs = [] := List.eq_nil_of_length_eq_zero h0
    go_enter Try.func11, Try.ntmps11
    go_wp2_with fail
    refine (texts_calls _ _ [] _ hA hn).mono ?_
    rintro e w1 ⟨A1, cap1, rfl, ho, hb⟩
    go_wp2_with fail
    refine (Try.slices_Sort_string_none _ _ _).mono ?_
    rintro e w2 ⟨rfl, rfl⟩
    go_wp2
    go_ret
    exact ⟨A1, cap1, by rw [sortS_nil]; rfl, by rw [sortS_nil]; exact ho, hb⟩
  · go_enter Try.func11, Try.ntmps11
    go_wp2_with fail
    refine (texts_calls _ _ zs _ hA hn).mono ?_
    rintro e w1 ⟨A1, cap1, rfl, ho, hb⟩
    obtain ⟨g, cur, rfl, hg, hk, hc1, hc2, hsz, hcur⟩ := ho.block h0
    have hH : Hid (Sort.Holds encStr w1 g 0 (zs.map bytesOf).toArray) := by
      intro j hj
      have hj' : j < zs.length := by simpa using hj
      refine ⟨?_, hk.frozen _⟩
      rw [Nat.zero_add, hk.cell j, hcur j hj']
      have e1 : (zs.map bytesOf).toArray[j]! = bytesOf (gs zs j) := by simp [gs, hj']
      rw [e1]
      show _ = some (Value.string (ofBytes (bytesOf (gs zs j))))
      rw [ofBytes_bytesOf]
    have hl : (zs.map bytesOf).length = zs.length := by simp
    have hc := Try.slices_Sort_string g 0 cap1 (zs.map bytesOf) w1 hH.out hk.lt (by rw [hl]; omega)
    rw [hl] at hc
    clear hcur hsz hl
    go_wp2_with fail
    refine hc.mono ?_
    clear hc
    rintro e w2 ⟨rfl, n, os, rfl⟩
    go_wp2
    go_ret
    exact retS_sorted ((zs.map bytesOf).mergeSort fun x y => decide (x ≤ y)) (by simp) hb ho
end Go.Proofs.Ytadkichkfelbbaa
