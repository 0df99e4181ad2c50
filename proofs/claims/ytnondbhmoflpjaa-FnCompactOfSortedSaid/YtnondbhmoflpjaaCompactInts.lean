/- Contract of CompactInts: a list of its own, runs of equal numbers as one. -/
import Derived.Test.YtnondbhmoflpjaaSortInts
import Derived.Test.YtnondbhmoflpjaaCompactPlain
namespace Go.Proofs.Ytnondbhmoflpjaa
open Go.RowKit

theorem OwnI.take {t : TypeId} {w : World} {base g cap : Nat} {zs : List Int} (h : OwnI t w base (some ⟨g, 0, none⟩) cap zs) {ys : List Int} {k : Nat} (hk : k ≤ zs.length) (hy : ys = zs.take k) : OwnI t w base (some ⟨g, 0, none⟩) cap ys := by
  subst hy
  unfold OwnI
  have hl : (zs.take k).length = k := by simp; omega
  refine ⟨by simp, ?_⟩
  rcases h.2 with ⟨h0, _⟩ | ⟨g', cap', cur, hv, hbb, hh, hc, hm, hs, ht⟩
  · cases h0
  · simp only [Value.slice.injEq, Option.some.injEq, Addr.mk.injEq] at hv
    obtain ⟨⟨rfl, _⟩, _, rfl⟩ := hv
    refine .inr ⟨g, cap, cur, rfl, hbb, hh, by omega, hm, hs, ?_⟩
    rw [hl, Nat.mul_one]
    have := congrArg (List.take k) ht
    rw [List.take_take, Nat.mul_one, Nat.min_eq_left hk] at this
    rw [this, List.map_take]

set_option maxHeartbeats 400000 in
theorem compactInts_calls (A : Option Addr) (c : Nat) (zs : List Int) (w : World) (hA : Ints w A zs) (hn : zs.length * 8 ≤ 140737488351232) :
    Calls Try.prog 26 #[.slice A zs.length c] w (RetOwn 3 (onceI zs) w) := by
  rcases Nat.eq_zero_or_pos zs.length with h0 | h0
  · obtain rfl : zs = [] := List.eq_nil_of_length_eq_zero h0
    go_enter Try.func26, Try.ntmps26
    go_wp2_with fail
    refine (numbers_calls _ _ [] _ hA hn).mono ?_
    rintro e w1 ⟨A1, cap1, rfl, ho, hb⟩
    go_wp2_with fail
    refine (Try.slices_Compact_int_empty _ _ _).mono ?_
    rintro e w2 ⟨rfl, rfl⟩
    go_wp2
    go_ret
    exact ⟨A1, cap1, by rw [onceI_nil]; rfl, by rw [onceI_nil]; exact ho, hb⟩
  · go_enter Try.func26, Try.ntmps26
    go_wp2_with fail
    refine (numbers_calls _ _ zs _ hA hn).mono ?_
    rintro e w1 ⟨A1, cap1, rfl, ho, hb⟩
    obtain ⟨g, cur, rfl, hg, hk, hc1, hc2, hsz, hcur⟩ := ho.block h0
    have hH : Hid (Sort.Holds (Value.int .i64) w1 g 0 zs.toArray) := by
      intro j hj
      have hj' : j < zs.length := by simpa using hj
      refine ⟨?_, hk.frozen _⟩
      rw [Nat.zero_add, hk.cell j, hcur j hj']
      simp [gi, hj']
    have HC := Lib.hid hcur
    have HS := Lib.hid hsz
    clear hcur hsz
    go_wp2_with fail
    refine (Try.slices_Compact_int g 0 cap1 zs w1 hH.out (by omega) hc1).mono ?_
    rintro e w2 ⟨rfl, n, rfl⟩
    go_wp2
    go_ret
    have hle : (onceI zs).length ≤ zs.length := length_once zs
    have hl : (onceI zs ++ List.replicate (zs.length - (onceI zs).length) 0).length = zs.length := by simp; omega
    obtain ⟨A2, cap2, he, ho2, hb2⟩ := retOwn_sorted (n := n) (os := #[]) (onceI zs ++ List.replicate (zs.length - (onceI zs).length) 0) hl hb ho
    simp only [Ending.returned.injEq, Value.slice.injEq] at he
    obtain ⟨rfl, _, rfl⟩ := he
    have hw : ∀ x : World, Sort.grow x #[] = x := fun x => by cases x; simp [Sort.grow]
    rw [hw] at ho2 hb2
    exact ⟨_, _, rfl, ho2.take (k := (onceI zs).length) (by omega) (by simp), hb2⟩
end Go.Proofs.Ytnondbhmoflpjaa
