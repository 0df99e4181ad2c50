/- Contract of StableByOrder: a list of its own, the numbers sorted stably so far as the relation is an order of them. -/
import Derived.Test.YtfapllhjccpfpaaNStable
import Derived.Test.YtfapllhjccpfpaaSign
import Derived.Test.YtfapllhjccpfpaaRetSorted
namespace Go.Proofs.Ytfapllhjccpfpaa
open Go.RowKit

/-- A call hands back a new row of the numbers, sorted so far as the relation is an order. -/
def RetSO (t : TypeId) (lt : Int → Int → Bool) (zs : List Int) (w : World) (e : Ending) (w' : World) : Prop := ∃ ys : List Int, SO lt zs ys ∧ RetOwn t ys w e w'

theorem ret_mono {t : TypeId} {w w0 : World} {ys : List Int} {e : Ending} {w' : World} (hb : Below w.heap.size w w0) (h : RetOwn t ys w0 e w') : RetOwn t ys w e w' := by
  obtain ⟨A, cap, rfl, ho, hb'⟩ := h
  exact ⟨A, cap, rfl, ho.mono hb.size, hb.trans (hb'.mono hb.size)⟩

set_option maxHeartbeats 1600000 in
theorem stableByOrder_calls (A : Option Addr) (c : Nat) (zs : List Int) (sz : Int) (B : Option Addr) (d : Nat) (bs : List Bool) (w : World) (hA : Ints w A zs) (hn : zs.length * 8 ≤ 140737488351232) (hB : Bools w B bs) (hbn : bs.length ≤ 140737488351232) (hsz : sz < 9223372036854775808) :
    Calls Try.prog 8 #[.slice A zs.length c, .agg #[.int .i64 sz, .slice B bs.length d]] w (RetSO 3 (rel sz bs) zs w) := by
  have hb0 : Below w.heap.size w (w.alloc (.cells #[.int .i64 sz, .slice B bs.length d] 28)) := (Below.refl _ _).alloc (Nat.le_refl _) _
  have hK := Blk.new w 28 #[.int .i64 sz, .slice B bs.length d]
  have hbox : BoxR (w.alloc (.cells #[.int .i64 sz, .slice B bs.length d] 28)) w.heap.size sz bs := ⟨⟨B, d, hK.pair.1, hK.pair.2, hB.below hb0⟩, hbn, hsz⟩
  have hA0 := hA.below hb0
  have HBX := Lib.hid hbox
  clear hbox hK hB
  go_enter Try.func8, Try.ntmps8
  go_wp2_with fail
  refine (numbers_calls _ _ zs _ hA0 hn).mono ?_
  rintro e w1 ⟨A1, cap1, rfl, ho, hb⟩
  generalize hg0 : w.heap.size = g0
  rw [hg0] at HBX
  generalize hW0 : w.alloc (.cells #[.int .i64 sz, .slice B bs.length d] 28) = w00 at hb0 hA0 HBX ho hb
  rcases Nat.eq_zero_or_pos zs.length with h0 | h0
  · obtain rfl : zs = [] := List.eq_nil_of_length_eq_zero h0
    go_wp2_with fail
    refine (sortStableFunc_none _ _ _ _ _ _).mono ?_
    rintro e w2 ⟨rfl, rfl⟩
    go_wp2
    go_ret
    exact ⟨[], SO.refl_nil, ret_mono hb0 ⟨A1, cap1, rfl, ho, hb⟩⟩
  · obtain ⟨g, cur, rfl, hg, hk, hc1, hc2, hs, hcur⟩ := ho.block h0
    have hH : Sort.Holds encI w1 g 0 zs.toArray := holds_own hk hcur
    have hR : Row1 encI w1 g 0 zs.toArray := ⟨encI_one, hH, hk.lt⟩
    have hc := sortStableFunc_calls (g := 18) (cb := #[.pointer (some ⟨g0, 0, none⟩)]) (cf := cmpR sz bs) (blk := g) (off := 0) (n := zs.length) (w0 := w1) ⟨⟨_, hR, by simp⟩, stableCmp_lays HBX.out hb hg 0 _, enters_stableCmp, hn⟩ cap1 zs w1 rfl (SW.start hH)
    clear hcur hs hR hH
    go_wp2_with fail
    refine hc.mono ?_
    clear hc
    rintro e w2 ⟨rfl, z, hz, n, os, rfl⟩
    go_wp2
    go_ret
    have hz' : SO (rel sz bs) zs z := by
      have e : ltOf (cmpR sz bs) = rel sz bs := ltOf_R sz bs
      rw [← e]
      exact hz
    exact ⟨z, hz', ret_mono hb0 (retOwn_sorted z hz.length hb ho)⟩
end Go.Proofs.Ytfapllhjccpfpaa
