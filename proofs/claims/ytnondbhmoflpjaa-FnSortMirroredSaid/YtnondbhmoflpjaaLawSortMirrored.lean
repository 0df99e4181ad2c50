/- The walk of FnSortMirrored. -/
import Derived.Test.YtnondbhmoflpjaaSortInts
import Derived.Test.YtnondbhmoflpjaaCpl
namespace Go.Proofs.Ytnondbhmoflpjaa
open Go.RowKit

set_option maxHeartbeats 1600000 in
theorem lawSortMirrored (A : Option Addr) (c : Nat) (zs : List Int) (w : World) (hA : Ints w A zs) (hn : zs.length * 8 ≤ 140737488351232) (hf : ∀ z ∈ zs, (Lit.int .i64 z).wf = true) :
    Calls Try.prog 7 #[.slice A zs.length c] w fun e w' => e = .returned (.bool true) ∧ Below w.heap.size w w' := by
  have HF := Lib.hid hf
  clear hf
  go_enter Try.func7, Try.ntmps7
  go_wp2
  go_loopw [3, 11] (fun v i wr => ∃ (k : Nat) (l : List Int) (B : Option Addr) (cap : Nat), k ≤ zs.length ∧ l.length ≤ k ∧ v = .slice B l.length cap ∧ i = .int .i64 k ∧ l = (zs.take k).map cpl ∧ OwnI 3 wr w.heap.size B cap l ∧ Below w.heap.size w wr) (fun _ i _ => zs.length - (intOf i).toNat)
  case atStart => exact ⟨0, [], none, 0, Nat.zero_le _, Nat.le_refl _, rfl, rfl, rfl, OwnI.nil _ _ _, Below.refl _ _⟩
  case round =>
    obtain ⟨k, l, B, cap, hk, hlk, rfl, rfl, hl, ho, hb⟩ := hrel
    have HL := Lib.hid hl
    clear hl
    by_cases hlt : k < zs.length
    · obtain ⟨b, off, rfl, hbl, hc⟩ := hA.below hb (by omega)
      have hck := hc k hlt
      have HN := Lib.hid (show l ++ [cpl (gi zs k)] = (zs.take (k + 1)).map cpl by rw [take_gi hlt, List.map_append, ← HL.out]; rfl)
      clear hc hA
      go_wp2_with (at_builtin; refine wpList_append_one _ rfl (.tmp 15) (.tmp 18) 22 rfl w.heap.size 3 Try.underlying22 infoInt B cap l rfl ho (bits .xor .i64 (-1) (gi zs k)) rfl ?c1 ?c2 ?_)
      case c1 => omega
      case c2 => exact hb.size
      intro B' cap' w' ho' hb'
      go_wp2
      go_roundw
      case rel => exact ⟨k + 1, l ++ [cpl (gi zs k)], B', cap', by omega, by simp; omega, by simp, by go_num, HN.out, ho', hb.trans hb'⟩
      case measure => simp [intOf]; omega
    · have HN := Lib.hid (show l = zs.map cpl by rw [HL.out, List.take_of_length_le (by omega)])
      have hll : l.length = zs.length := by rw [HN.out]; simp
      have HLL := Lib.hid hll
      have hnl : l.length * 8 ≤ 140737488351232 := by omega
      clear hll HL
      go_wp2_with fail
      refine (sortInts_calls _ _ zs wr (hA.below hb) hn).mono ?_
      rintro e w1 ⟨A1, c1, rfl, ho1, hb1'⟩
      have hb1 := hb.trans (hb1'.mono hb.size)
      have hl1 := length_sortI zs
      have HL1 := Lib.hid hl1
      clear hl1
      go_wp2_with fail
      refine (sortInts_calls _ _ l w1 (ho.ints.below hb1') hnl).mono ?_
      rintro e w2 ⟨A2, c2, rfl, ho2, hb2'⟩
      have hb2 := hb1.trans (hb2'.mono hb1.size)
      have hl2 := length_sortI l
      have HL2 := Lib.hid hl2
      clear hl2
      have hI1 := ho1.ints.below hb2'
      have hI2 := ho2.ints
      have hq1 : (((sortI zs).length : Int) != (zs.length : Int)) = false := by rw [HL1.out]; simp
      have hq2 : (((sortI l).length : Int) != (zs.length : Int)) = false := by rw [HL2.out, HLL.out]; simp
      clear ho1 ho2 ho
      go_wp2
      clear hq1 hq2
      go_loopw [39] (fun j wr => ∃ k : Nat, k ≤ (sortI zs).length ∧ j = .int .i64 k ∧ Draws w2 wr) (fun j _ => (sortI zs).length - (intOf j).toNat)
      case atStart => exact ⟨0, Nat.zero_le _, rfl, Draws.refl _⟩
      case round =>
        obtain ⟨m, hm, rfl, hd⟩ := hrel
        have hs1 : (sortI zs).length ≤ zs.length := by rw [HL1.out]; exact Nat.le_refl _
        by_cases hlt2 : m < (sortI zs).length
        · have hm2 : m < (sortI l).length := by rw [HL2.out, HLL.out, ← HL1.out]; exact hlt2
          obtain ⟨b1, off1, rfl, hbl1, hc1⟩ := hI1.below hd.below (by omega)
          obtain ⟨b2, off2, rfl, hbl2, hc2⟩ := hI2.below hd.below (by omega)
          have hck1 := hc1 ((sortI zs).length - 1 - m) (by omega)
          have hck2 := hc2 m hm2
          clear hc1 hc2
          have hg : (gi (sortI l) m != bits .xor .i64 (-1) (gi (sortI zs) ((sortI zs).length - 1 - m))) = false := by
            have := gi_mirror HF.out (k := m) (by have := HL1.out; omega)
            rw [← HN.out] at this
            rw [this, HL1.out]
            simp [cpl]
          have hg2 : (gi (sortI l) m != bits .xor .i64 (if IntKind.i64.signed = true then -1 else 9223372036854775807) (gi (sortI zs) ((sortI zs).length - 1 - m))) = false := hg
          clear hg
          go_wp2
          have x1 : IntKind.i64.wrap (((sortI zs).length : Int) - 1) = ((sortI zs).length : Int) - 1 := IntWalk.i64_in _ (by omega)
          have x2 : IntKind.i64.wrap (((sortI zs).length : Int) - 1 - (m : Int)) = ((sortI zs).length : Int) - 1 - (m : Int) := IntWalk.i64_in _ (by omega)
          have x3 : (((sortI zs).length : Int) - 1 - (m : Int)).toNat = (sortI zs).length - 1 - m := by omega
          have x4 : (0 : Int) ≤ ((sortI zs).length : Int) - 1 - (m : Int) := by omega
          have x5 : ((sortI zs).length : Int) - 1 - (m : Int) < ((sortI zs).length : Int) := by omega
          go_quiet (fail)
          clear x1 x2 x3 x4 x5
          go_wp2
          go_roundw
          case rel => exact ⟨m + 1, by omega, by go_num, hd.drewN _⟩
          case measure => simp [intOf]; omega
        · go_wp2
          go_ret
          exact ⟨rfl, hb2.trans hd.below⟩
end Go.Proofs.Ytnondbhmoflpjaa
