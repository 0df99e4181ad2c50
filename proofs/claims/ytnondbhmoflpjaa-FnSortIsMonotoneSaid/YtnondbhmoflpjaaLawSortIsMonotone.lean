/- The walk of FnSortIsMonotone. -/
import Derived.Test.YtnondbhmoflpjaaSortInts
namespace Go.Proofs.Ytnondbhmoflpjaa
open Go.RowKit

set_option maxHeartbeats 1600000 in
theorem lawSortIsMonotone (A : Option Addr) (c : Nat) (zs : List Int) (i v : Int) (w : World) (hA : Ints w A zs) (hn : zs.length * 8 ≤ 140737488351232) :
    Calls Try.prog 6 #[.slice A zs.length c, .int .i64 i, .int .i64 v] w fun e w' => e = .returned (.bool true) ∧ Below w.heap.size w w' := by
  by_cases h1 : i < 0
  · go_enter Try.func6, Try.ntmps6
    go_wp2
    go_ret
    exact ⟨rfl, Below.refl _ _⟩
  obtain ⟨k, rfl⟩ : ∃ k : Nat, i = k := ⟨i.toNat, by omega⟩
  by_cases h2 : zs.length ≤ k
  · go_enter Try.func6, Try.ntmps6
    go_wp2
    go_ret
    exact ⟨rfl, Below.refl _ _⟩
  have h2' : k < zs.length := by omega
  have hA' := hA
  obtain ⟨b, off, rfl, hbl, hc⟩ := hA' (by omega)
  have hck := hc k h2'
  clear hc hA' h1 h2
  by_cases h3 : v < gi zs k
  · go_enter Try.func6, Try.ntmps6
    go_wp2
    go_ret
    exact ⟨rfl, Below.refl _ _⟩
  obtain ⟨i0, hi, hz0, hz1, hz2⟩ := info_parts infoInt
  have HR := Lib.hid (Reads.of_ints hA)
  have h3' := Int.not_lt.1 h3
  have HV := Lib.hid h3'
  go_enter Try.func6, Try.ntmps6
  go_wp2_with (at_builtin; refine wpList_append_any _ rfl _ _ 22 rfl w.heap.size 3 i0 (.int .i64 0) 1 8 Try.underlying22 hi hz0 hz1 hz2 rfl (by decide) _ 0 [] rfl (World.ownsRow_nil _ _ _ _) w.heap.size (some ⟨b, off, none⟩) zs.length c (zs.map (Value.int .i64)) rfl HR.out (oneCell_ints zs) ?c1 ?c2 (Nat.le_refl _) ?_)
  case c1 => unfold maxLen; omega
  case c2 => omega
  intro v' w1 hown hg hb
  obtain ⟨A1, cap1, rfl, ho1⟩ := own_form hown
  have hb1 : Below w.heap.size w w1 := (Below.refl _ _).grown hg (Nat.le_refl _) (fun k h => by cases h)
  clear hg hb hown hck HR hz0 hz1 hz2
  obtain ⟨g, cur, rfl, hgg, hk1, hcap1, hcap2, hsz, hcur⟩ := ho1.block (by omega)
  have hcc : w1.cell? ⟨g, k, none⟩ = some (.int .i64 (gi zs k)) := by rw [hk1.cell]; exact hcur k h2'
  have hff := hk1.frozen k
  clear hcur hsz
  have hb2 : Below w.heap.size w (w1.setCell ⟨g, k, none⟩ (.int .i64 v)) := hb1.setCell hgg _
  have ho2 := ho1.set k v
  have hls : (zs.set k v).length = zs.length := List.length_set
  have HLS := Lib.hid hls
  have hn2 : (zs.set k v).length * 8 ≤ 140737488351232 := by omega
  clear hls ho1
  go_wp2_with fail
  refine (sortInts_calls _ _ zs (w1.setCell ⟨g, k, none⟩ (.int .i64 v)) (hA.below hb2) hn).mono ?_
  rintro e w3 ⟨A3, c3, rfl, ho3, hb3'⟩
  have hb3 := hb2.trans (hb3'.mono hb2.size)
  go_wp2_with fail
  have hcs := sortInts_calls (some ⟨g, 0, none⟩) cap1 (zs.set k v) w3 (ho2.ints.below hb3') hn2
  rw [HLS.out] at hcs
  refine hcs.mono ?_
  clear hcs
  rintro e w4 ⟨A4, c4, rfl, ho4, hb4'⟩
  have hb4 := hb3.trans (hb4'.mono hb3.size)
  have hl1 := length_sortI zs
  have hl2 : (sortI (zs.set k v)).length = zs.length := by rw [length_sortI]; exact HLS.out
  have HL1 := Lib.hid hl1
  have HL2 := Lib.hid hl2
  have hq1 : (((sortI zs).length : Int) != (zs.length : Int)) = false := by rw [hl1]; simp
  have hq2 : (((sortI (zs.set k v)).length : Int) != (zs.length : Int)) = false := by rw [hl2]; simp
  have hs1 : (sortI zs).length ≤ zs.length := by omega
  have hs2 : (sortI zs).length ≤ (sortI (zs.set k v)).length := by omega
  have hI3 := ho3.ints.below hb4'
  have hI4 := ho4.ints
  clear hl1 hl2 ho2 ho3 ho4 hcc hff hi h3' h3
  go_wp2
  clear hq1 hq2
  go_loopw [51] (fun j wr => ∃ m : Nat, m ≤ (sortI zs).length ∧ j = .int .i64 m ∧ Draws w4 wr) (fun j _ => (sortI zs).length - (intOf j).toNat)
  case atStart => exact ⟨0, Nat.zero_le _, rfl, Draws.refl _⟩
  case round =>
    obtain ⟨m, hm, rfl, hd⟩ := hrel
    by_cases hlt : m < (sortI zs).length
    · obtain ⟨b1, off1, rfl, hbl1, hc1⟩ := hI3.below hd.below (by omega)
      obtain ⟨b2, off2, rfl, hbl2, hc2⟩ := hI4.below hd.below (by omega)
      have hck1 := hc1 m hlt
      have hck2 := hc2 m (by omega)
      have hx2 : m < (sortI (zs.set k v)).length := by omega
      have hmono : gi (sortI zs) m ≤ gi (sortI (zs.set k v)) m := monotone h2' HV.out (by omega)
      clear hc1 hc2
      go_wp2
      go_quiet (fail)
      go_wp2
      go_roundw
      case rel => exact ⟨m + 1, by omega, by go_num, hd.drewN _⟩
      case measure => simp [intOf]; omega
    · go_wp2
      go_ret
      exact ⟨rfl, hb4.trans hd.below⟩
end Go.Proofs.Ytnondbhmoflpjaa
