/- Contract of ends: the ends of a part, the lesser one first. -/
import Derived.Test.YtnondbhmoflpjaaInfo
import Derived.Test.YtnondbhmoflpjaaItems
namespace Go.Proofs.Ytnondbhmoflpjaa
open Go.RowKit

theorem tmod_bounds (x : Int) (n : Nat) : -(n : Int) ≤ x.tmod ((n : Int) + 1) ∧ x.tmod ((n : Int) + 1) ≤ n := by
  have h1 := Int.tmod_lt_of_pos x (b := (n : Int) + 1) (by omega)
  have h2 := Int.tmod_lt_of_pos (-x) (b := (n : Int) + 1) (by omega)
  rw [Int.neg_tmod] at h2
  omega

theorem ret_ii {k : IntKind} {a b c d : Int} (h : a = b) (h' : c = d) : Ending.returned (.tuple #[.int k a, .int k c]) = .returned (.tuple #[.int k b, .int k d]) := by rw [h, h']

/-- Two places of a list of n, the first not behind the second. -/
def RetEnds (n : Nat) (w : World) (e : Ending) (w' : World) : Prop := ∃ i j : Nat, i ≤ j ∧ j ≤ n ∧ e = .returned (.tuple #[.int .i64 i, .int .i64 j]) ∧ Below w.heap.size w w'

set_option maxHeartbeats 800000 in
theorem ends_calls (x y : Int) (n : Nat) (w : World) (hn : n * 8 ≤ 140737488351232) :
    Calls Try.prog 38 #[.agg #[.int .i64 x, .int .i64 y], .int .i64 n] w (RetEnds n w) := by
  obtain ⟨r, hr⟩ : ∃ r, x.tmod ((n : Int) + 1) = r := ⟨_, rfl⟩
  obtain ⟨s, hs⟩ : ∃ s, y.tmod ((n : Int) + 1) = s := ⟨_, rfl⟩
  have hr1 := tmod_bounds x n
  have hs1 := tmod_bounds y n
  rw [hr] at hr1
  rw [hs] at hs1
  obtain ⟨hr1, hr2⟩ := hr1
  obtain ⟨hs1, hs2⟩ := hs1
  go_enter Try.func38, Try.ntmps38
  go_wp2
  have hne : ¬ ((n : Int) + 1 = 0) := by omega
  go_quiet (fail)
  clear hne hr hs
  have hb : Below w.heap.size w ((w.alloc (.cells #[.int .i64 x, .int .i64 y] 42)).drewN nq) := below_drewN ((Below.refl _ _).alloc (Nat.le_refl _) _) _
  by_cases h1 : r < 0 <;> by_cases h2 : s < 0
  · by_cases h3 : s + (n + 1) < r + (n + 1)
    · go_wp2
      go_ret2
      exact ⟨(s + (n + 1)).toNat, (r + (n + 1)).toNat, by omega, by omega, ret_ii (by omega) (by omega), hb⟩
    · go_wp2
      go_ret2
      exact ⟨(r + (n + 1)).toNat, (s + (n + 1)).toNat, by omega, by omega, ret_ii (by omega) (by omega), hb⟩
  · by_cases h3 : s < r + (n + 1)
    · go_wp2
      go_ret2
      exact ⟨s.toNat, (r + (n + 1)).toNat, by omega, by omega, ret_ii (by omega) (by omega), hb⟩
    · go_wp2
      go_ret2
      exact ⟨(r + (n + 1)).toNat, s.toNat, by omega, by omega, ret_ii (by omega) (by omega), hb⟩
  · by_cases h3 : s + (n + 1) < r
    · go_wp2
      go_ret2
      exact ⟨(s + (n + 1)).toNat, r.toNat, by omega, by omega, ret_ii (by omega) (by omega), hb⟩
    · go_wp2
      go_ret2
      exact ⟨r.toNat, (s + (n + 1)).toNat, by omega, by omega, ret_ii (by omega) (by omega), hb⟩
  · by_cases h3 : s < r
    · go_wp2
      go_ret2
      exact ⟨s.toNat, r.toNat, by omega, by omega, ret_ii (by omega) (by omega), hb⟩
    · go_wp2
      go_ret2
      exact ⟨r.toNat, s.toNat, by omega, by omega, ret_ii (by omega) (by omega), hb⟩
end Go.Proofs.Ytnondbhmoflpjaa
