/- The walk of FnCompactOfSorted. -/
import Derived.Test.YtnondbhmoflpjaaCompactInts
import Derived.Test.YtnondbhmoflpjaaCountInt
namespace Go.Proofs.Ytnondbhmoflpjaa
open Go.RowKit

set_option maxHeartbeats 1600000 in
theorem lawCompactOfSorted (A : Option Addr) (c : Nat) (zs : List Int) (w : World) (hA : Ints w A zs) (hn : zs.length * 8 ≤ 140737488351232) :
    Calls Try.prog 11 #[.slice A zs.length c] w fun e w' => e = .returned (.bool true) ∧ Below w.heap.size w w' := by
  have hn1 : (sortI zs).length * 8 ≤ 140737488351232 := by rw [length_sortI]; exact hn
  obtain ⟨L, hL⟩ : ∃ L, L = onceI (sortI zs) := ⟨_, rfl⟩
  have hLl : L.length ≤ zs.length := by rw [hL, ← length_sortI zs]; exact length_once _
  have hn2 : L.length * 8 ≤ 140737488351232 := by omega
  have hasc := asc_sortI zs
  have HLT : Hid (∀ i, i + 1 < L.length → gi L i < gi L (i + 1)) := fun i hi => by subst hL; exact once_lt hasc hi
  have HONE : Hid (∀ k, k < zs.length → cntI L (gi zs k) = 1) := fun k hk => by
    subst hL; exact once_count hasc ((perm_sortI zs).mem_iff.2 (gi_mem hk))
  have HIN : Hid (∀ k, k < L.length → 0 < cntI zs (gi L k)) := fun k hk => by
    have h1 : gi L k ∈ sortI zs := (once_mem hasc _).1 (by rw [← hL]; exact gi_mem hk)
    exact List.count_pos_iff.2 ((perm_sortI zs).mem_iff.1 h1)
  have HL := Lib.hid hL
  clear hL hasc
  go_enter Try.func11, Try.ntmps11
  go_wp2_with fail
  refine (sortInts_calls _ _ zs w hA hn).mono ?_
  rintro e w1 ⟨A1, c1, rfl, ho1, hb1⟩
  go_wp2_with fail
  have hc2 := compactInts_calls _ c1 (sortI zs) w1 ho1.ints hn1
  rw [← HL.out] at hc2
  refine hc2.mono ?_
  clear hc2
  rintro e w2 ⟨A2, c2, rfl, ho2, hb2'⟩
  have hb2 := hb1.trans (hb2'.mono hb1.size)
  have hI := ho2.ints
  have hA2 := hA.below hb2
  clear ho1 ho2 hb2'
  go_wp2
  go_loopw [4] (fun j wr => ∃ m : Nat, j = .int .i64 ((m : Int) + 1) ∧ m ≤ L.length ∧ Draws w2 wr) (fun j _ => L.length - (intOf j).toNat)
  case atStart => exact ⟨0, by simp, Nat.zero_le _, Draws.refl _⟩
  case round =>
    obtain ⟨m, rfl, hk, hd⟩ := hrel
    by_cases hlt : m + 1 < L.length
    · obtain ⟨b, off, rfl, hbl, hc⟩ := hI.below hd.below (by omega)
      have hck := hc m (by omega)
      have hck' := hc (m + 1) hlt
      have hle := HLT.out m hlt
      have hi1 : (0 : Int) ≤ (m : Int) + 1 := by omega
      have hi2 : (m : Int) < (L.length : Int) := by omega
      have hi3 : (m : Int) + 1 < (L.length : Int) := by omega
      clear hc
      go_wp2
      have hx1 : ((m : Int) + 1).toNat = m + 1 := by omega
      have hw : IntKind.i64.wrap (m : Int) = m := IntWalk.i64_in _ (by omega)
      have hnl : ¬ gi L (m + 1) ≤ gi L m := by omega
      go_quiet (fail)
      clear hx1 hw
      go_wp2
      go_roundw
      case rel => exact ⟨m + 1, by go_num, by omega, hd.drewN _⟩
      case measure => simp [intOf]; omega
    · go_wp2
      obtain ⟨wo, rfl⟩ : ∃ wo : World, wo = wr := ⟨_, rfl⟩
      go_loopw [30] (fun j wr => ∃ k : Nat, k ≤ zs.length ∧ j = .int .i64 k ∧ Draws w2 wr) (fun j _ => zs.length - (intOf j).toNat)
      case atStart => exact ⟨0, Nat.zero_le _, rfl, hd⟩
      case round =>
        obtain ⟨a, ha, rfl, hd1⟩ := hrel
        by_cases hal : a < zs.length
        · obtain ⟨b, off, rfl, hbl, hc⟩ := hA2.below hd1.below (by omega)
          have hca := hc a hal
          clear hc
          go_wp2_with fail
          have hcc := countInt_calls A2 c2 L (gi zs a) wr (hI.below hd1.below) hn2
          rw [HONE.out a hal] at hcc
          refine hcc.mono ?_
          clear hcc
          rintro e w3 ⟨rfl, hd3⟩
          go_wp2
          go_roundw
          case rel => exact ⟨a + 1, by omega, by go_num, hd1.trans hd3⟩
          case measure => simp [intOf]; omega
        · go_wp2
          obtain ⟨wp, rfl⟩ : ∃ wp : World, wp = wr := ⟨_, rfl⟩
          go_loopw [41] (fun j wr => ∃ k : Nat, k ≤ L.length ∧ j = .int .i64 k ∧ Draws w2 wr) (fun j _ => L.length - (intOf j).toNat)
          case atStart => exact ⟨0, Nat.zero_le _, rfl, hd1⟩
          case round =>
            obtain ⟨r, hr, rfl, hd2⟩ := hrel
            by_cases hrl : r < L.length
            · obtain ⟨b, off, rfl, hbl, hc⟩ := hI.below hd2.below (by omega)
              have hcr := hc r hrl
              clear hc
              go_wp2_with fail
              obtain ⟨m, hm, hm0⟩ : ∃ m, cntI zs (gi L r) = m ∧ 0 < m := ⟨_, rfl, HIN.out r hrl⟩
              have hmle : m ≤ zs.length := by rw [← hm]; exact List.count_le_length
              have hcc := countInt_calls A c zs (gi L r) wr (hA2.below hd2.below) hn
              rw [hm] at hcc
              refine hcc.mono ?_
              clear hcc hm
              rintro e w3 ⟨rfl, hd3⟩
              have hq : ((m : Int) == 0) = false := by simp; omega
              go_wp2
              go_roundw
              case rel => exact ⟨r + 1, by omega, by go_num, hd2.trans hd3⟩
              case measure => simp [intOf]; omega
            · go_wp2
              go_ret
              exact ⟨rfl, hb2.trans hd2.below⟩
end Go.Proofs.Ytnondbhmoflpjaa
