/- Behind a sort the same slice owns the sorted numbers. -/
import Derived.Test.YtfapllhjccpfpaaNumbers
import Derived.Sort.OwnSortedInts
namespace Go.Proofs.Ytfapllhjccpfpaa
open Go.RowKit

theorem retOwn_sorted {t : TypeId} {w w1 : World} {g cap n : Nat} {os : Array Obj} {zs : List Int} (ts : List Int) (hl : ts.length = zs.length) (hb : Below w.heap.size w w1) (ho : OwnI t w1 w.heap.size (some ⟨g, 0, none⟩) cap zs) :
    RetOwn t ts w (.returned (.slice (some ⟨g, 0, none⟩) zs.length cap)) (Sort.grow (Sort.putRow (Value.int .i64) (Sort.ahead w1 n) g 0 ts.toArray) os) := by
  rcases ho.2 with ⟨h, _⟩ | ⟨g', cap', cur, hv, hbb, hh, hc, hm, hs, ht⟩
  · cases h
  · simp only [Value.slice.injEq, Option.some.injEq, Addr.mk.injEq] at hv
    obtain ⟨⟨rfl, _⟩, _, rfl⟩ := hv
    refine ⟨some ⟨g, 0, none⟩, cap, by rw [hl], ?_, ?_⟩
    · have := ownsRow_sortedI (n := n) (os := os) (base := w.heap.size) (ts := ts) hl hbb hh hc hm hs
      unfold OwnI
      rw [hl]
      exact this
    · exact hb.grown (grownBy_sortedI (g := g) (n := n) (os := os) ts.toArray) hb.size (fun k h => by cases h; exact hbb)
theorem holds_own {t : TypeId} {w : World} {g : Nat} {cur : Array Value} {zs : List Int} (hk : Blk w g t cur) (hcur : ∀ i, i < zs.length → cur[i]? = some (.int .i64 (gi zs i))) : Sort.Holds (Value.int .i64) w g 0 zs.toArray := by
  intro j hj
  have hj' : j < zs.length := by simpa using hj
  refine ⟨?_, hk.frozen _⟩
  rw [Nat.zero_add, hk.cell j, hcur j hj']
  simp [gi, hj']
end Go.Proofs.Ytfapllhjccpfpaa
