/- The walk of FnStableKeepsEqual. -/
import Derived.Test.YtnjnphoidjachaaStableItems
import Derived.Test.YtnjnphoidjachaaStabLaws
import Derived.BigQuiet
namespace Go.Proofs.Ytnjnphoidjachaa
open Go.RowKit

set_option maxHeartbeats 3200000 in
theorem lawStableKeepsEqual (A : Option Addr) (c : Nat) (zs : List Int) (w : World) (hA : Ints w A zs) (hn : zs.length * 16 ≤ 140737488351232) :
    Calls Try.prog 9 #[.slice A zs.length c] w fun e w' => e = .returned (.bool true) ∧ Below w.heap.size w w' := by
  have mixed : Try.prog.follows .mixedOrders = true := by kernel_rfl
  obtain ⟨T1, hT1⟩ : ∃ T, T = numb zs := ⟨_, rfl⟩
  obtain ⟨L, hL⟩ : ∃ L, L = isort ltK T1 := ⟨_, rfl⟩
  have l1 : T1.length = zs.length := by rw [hT1, length_numb]
  have l4 : L.length = zs.length := by rw [hL, (isort_perm T1).length_eq, l1]
  have n1 : T1.length * 16 ≤ 140737488351232 := by omega
  have n4 : L.length * 16 ≤ 140737488351232 := by omega
  have hq : ((L.length : Int) != (zs.length : Int)) = false := by rw [l4]; simp
  have H1 := Lib.hid hT1
  have H4 := Lib.hid hL
  have H5 := Lib.hid (show ∀ i, i + 1 < L.length → ¬ gk L (i + 1) < gk L i ∧ (gk L (i + 1) = gk L i → ¬ gt L (i + 1) ≤ gt L i) by rw [hL, hT1]; exact fun i hi => numb_next hi)
  clear hT1 hL l1 l4
  go_enter Try.func9, Try.ntmps9
  go_wp2_with fail
  have hc1 := numbered_calls A c zs w hA hn
  rw [← H1.out] at hc1
  refine hc1.mono ?_
  clear hc1
  rintro e w1 ⟨A1, c1, rfl, ho1, hb1⟩
  go_wp2_with fail
  have hc5 := stableItems_is A1 c1 T1 w1 ho1.items n1
  rw [← H4.out] at hc5
  refine hc5.mono ?_
  clear hc5
  rintro e w5 ⟨A5, c5, rfl, ho5, hb5'⟩
  have hb5 := hb1.trans (hb5'.mono hb1.size)
  have hI := ho5.items
  clear ho1 hb5' ho5 hA
  go_wp2
  clear hq
  go_loopw [4] (fun i wr => ∃ k : Nat, i = .int .i64 ((k : Int) + 1) ∧ k ≤ L.length ∧ Draws w5 wr) (fun i _ => L.length - (intOf i).toNat)
  case atStart => exact ⟨0, by simp, Nat.zero_le _, Draws.refl _⟩
  case round =>
    obtain ⟨m, rfl, hk, hdr⟩ := hrel
    by_cases hlt : m + 1 < L.length
    · obtain ⟨b, off, rfl, hbl, hc⟩ := hI.below hdr.below (by omega)
      obtain ⟨hck, hct⟩ := hc m (by omega)
      obtain ⟨hck', hct'⟩ := hc (m + 1) (by omega)
      clear hc hI
      have hi1 : (0 : Int) ≤ (m : Int) + 1 := by omega
      have hi2 : (m : Int) < (L.length : Int) := by omega
      have hi3 : (m : Int) + 1 < (L.length : Int) := by omega
      obtain ⟨q1, q2⟩ := H5.out m hlt
      by_cases he : gk L (m + 1) = gk L m
      · have q3 := q2 he
        have he' : (gk L (m + 1) == gk L m) = true := by simp [he]
        clear q2 he
        go_wp2
        have hb1 : decide (gk L (m + 1) < gk L m) = false := decide_eq_false (by omega)
        have hb3 : decide (gt L (m + 1) ≤ gt L m) = false := decide_eq_false (by omega)
        have hx1 : ((m : Int) + 1).toNat = m + 1 := by omega
        have hw : IntKind.i64.wrap (m : Int) = m := IntWalk.i64_in _ (by omega)
        go_big_quiet (fail)
        clear hx1 hw
        go_wp2
        go_roundw
        case rel => exact ⟨m + 1, by go_num, by omega, hdr.drewN _⟩
        case measure => simp [intOf]; omega
      · have he' : (gk L (m + 1) == gk L m) = false := by simp [he]
        clear q2 he
        go_wp2
        have hb1 : decide (gk L (m + 1) < gk L m) = false := decide_eq_false (by omega)
        have hx1 : ((m : Int) + 1).toNat = m + 1 := by omega
        have hw : IntKind.i64.wrap (m : Int) = m := IntWalk.i64_in _ (by omega)
        go_big_quiet (fail)
        clear hx1 hw
        go_wp2
        go_roundw
        case rel => exact ⟨m + 1, by go_num, by omega, hdr.drewN _⟩
        case measure => simp [intOf]; omega
    · go_wp2
      go_ret
      exact ⟨rfl, hb5.trans (hdr.below.mono hb5.size)⟩
end Go.Proofs.Ytnjnphoidjachaa
