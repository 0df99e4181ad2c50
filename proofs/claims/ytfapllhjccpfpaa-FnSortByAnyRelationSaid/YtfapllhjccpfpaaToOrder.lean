/- Contract of toOrder: the relation with a row of its own. -/
import Derived.Test.YtfapllhjccpfpaaOrder
import Derived.Test.YtfapllhjccpfpaaInfo
import Derived.Test.YtfapllhjccpfpaaAppend
import Derived.Deep.RegionLaw
namespace Go.Proofs.Ytfapllhjccpfpaa
open Go.RowKit

theorem infoBool : (Try.prog.info? 4).map (fun i => (i.zero, i.size, i.bytes)) = some (some (.bool false), 1, 1) := by kernel_rfl
theorem oneCell_bools (bs : List Bool) : ∀ u ∈ bs.map Value.bool, u.oneCell' = true := by
  intro u hu
  obtain ⟨z, _, rfl⟩ := List.mem_map.1 hu
  rfl
theorem Reads.of_bools {w : World} {A : Option Addr} {bs : List Bool} (h : Bools w A bs) : Reads w w.heap.size 1 A bs.length (bs.map Value.bool) :=
  Reads.of_row h (by simp) (fun i hi => by simp [gb, hi])
theorem own_bools {w : World} {base : Nat} {t : TypeId} {v : Value} {bs : List Bool} (h : w.ownsRow base t 1 v bs.length (bs.map Value.bool)) : ∃ A cap, v = .slice A bs.length cap ∧ Bools w A bs ∧ ∀ ad, A = some ad → base ≤ ad.block := by
  rcases h.2 with ⟨hv, h0⟩ | ⟨g, cap, cur, hv, hb, hh, hc, hm, hs, ht⟩
  · exact ⟨none, 0, by rw [hv, h0], fun hn => absurd hn (by omega), fun _ h => by cases h⟩
  · refine ⟨some ⟨g, 0, none⟩, cap, hv, fun hn => ⟨g, 0, rfl, Blk.lt (t := t) (cs := cur) hh, fun i hi => ?_⟩, fun ad h => by cases h; exact hb⟩
    rw [Nat.zero_add, Blk.cell (t := t) (cs := cur) hh i]
    have h1 : (cur.toList.take (bs.length * 1))[i]? = (bs.map Value.bool)[i]? := by rw [ht]
    rw [List.getElem?_take, if_pos (by omega)] at h1
    simp [hi] at h1
    simp [gb, hi, h1]

theorem Bools.set_far {w : World} {A : Option Addr} {bs : List Bool} (h : Bools w A bs) {p : Addr} (hne : ∀ ad, A = some ad → ad.block ≠ p.block) (v : Value) : Bools (w.setCell p v) A bs := fun hn => by
  obtain ⟨b, o, rfl, hlt, hc⟩ := h hn
  have := hne _ rfl
  refine ⟨b, o, rfl, by simpa using hlt, fun i hi => ?_⟩
  rw [World.cell?_setCell_other _ _ _ _ (by intro e; exact this (by rw [e]))]
  exact hc i hi

set_option maxHeartbeats 800000 in
theorem toOrder_calls (sz : Int) (A : Option Addr) (c : Nat) (bs : List Bool) (w : World) (hB : Bools w A bs) (hn : bs.length ≤ 140737488351232) :
    Calls Try.prog 9 #[.agg #[.int .i64 sz, .slice A bs.length c]] w fun e w' => ∃ A' c', e = .returned (.agg #[.int .i64 sz, .slice A' bs.length c']) ∧ Bools w' A' bs ∧ Below w.heap.size w w' := by
  have mixed : Try.prog.follows .mixedOrders = true := by kernel_rfl
  obtain ⟨i0, hi, hz0, hz1, hz2⟩ := info_parts infoBool
  have hb0 : Below w.heap.size w ((w.alloc (.cells #[.int .i64 sz, .slice A bs.length c] 25)).alloc (.cells #[.int .i64 0, .slice none 0 0] 28)) := ((Below.refl _ _).alloc (Nat.le_refl _) _).alloc (by simp) _
  have hK := (Blk.new w 25 #[.int .i64 sz, .slice A bs.length c]).alloc (.cells #[.int .i64 0, .slice none 0 0] 28)
  have hM : Blk ((w.alloc (.cells #[.int .i64 sz, .slice A bs.length c] 25)).alloc (.cells #[.int .i64 0, .slice none 0 0] 28)) (w.heap.size + 1) 28 #[.int .i64 0, .slice none 0 0] := Blk.new' (by simp)
  have hR := Reads.of_bools (hB.below hb0)
  go_enter Try.func9, Try.ntmps9
  go_wp2_with fail
  generalize hW : (w.alloc (.cells #[.int .i64 sz, .slice A bs.length c] 25)).alloc (.cells #[.int .i64 0, .slice none 0 0] 28) = w2 at hb0 hK hM hR ⊢
  generalize hg0 : w.heap.size = g0 at hK hM ⊢
  obtain ⟨k0, k1⟩ := hK.pair
  obtain ⟨m0, m1⟩ := hM.pair
  have f0 := hM.frozen 0
  have f1 := hM.frozen 1
  have HR := Lib.hid hR
  have HK := Lib.hid hK
  have HM := Lib.hid hM
  clear hR hK hM hW hB
  go_region_law (refine step_append_any _ rfl _ _ 23 rfl w2.heap.size 4 i0 (.bool false) 1 1 Try.underlying23 hi hz0 hz1 hz2 rfl (by decide) (.slice none 0 0) 0 [] rfl (World.ownsRow_nil _ _ _ _) w2.heap.size A bs.length c (bs.map Value.bool) rfl HR.out.drew (oneCell_bools bs) (by unfold maxLen; omega) (by omega) (Nat.le_refl _) ?_; intro v' w' hown hg _; obtain ⟨A', c', rfl, hB', hfar⟩ := own_bools (bs := bs) (by simpa using hown); obtain ⟨k0', k1'⟩ := (HK.out.drewN 1).grown hg (fun h => by cases h) |>.pair; have hM' := (HM.out.drewN 1).grown hg (fun h => by cases h); obtain ⟨m0', m1'⟩ := hM'.pair; have f0' := hM'.frozen 0; have f1' := hM'.frozen 1; have s1 := (cell_setOther w' (g0 + 1) (.int .i64 sz)).trans m1'; have HW : Aside (Below w2.heap.size w2 w' ∧ Blk w' (g0 + 1) 28 #[.int .i64 0, .slice none 0 0] ∧ Bools w' A' bs ∧ ∀ ad, A' = some ad → w2.heap.size ≤ ad.block) := ⟨below_drewN (Below.refl _ _) 1 |>.grown hg (Nat.le_refl _) (fun k h => by cases h), hM', hB', hfar⟩; clear hg hown hM' hB' hfar)
  all_goals
    obtain ⟨hbw, hMw, hBw, hfar⟩ := HW.out
    have hM2 := hMw.setPair (.int .i64 sz) (.slice A' bs.length c')
    obtain ⟨q0, q1⟩ := hM2.pair
    have hlt : g0 + 1 < w2.heap.size := HM.out.lt
    have hB2 := (hBw.set_far (p := ⟨g0 + 1, 0, none⟩) (fun ad h => by have := hfar ad h; show ad.block ≠ g0 + 1; omega) (.int .i64 sz)).set_far (p := ⟨g0 + 1, 1, none⟩) (fun ad h => by have := hfar ad h; show ad.block ≠ g0 + 1; omega) (.slice A' bs.length c')
    have hbF : Below w.heap.size w ((w'.setCell ⟨g0 + 1, 0, none⟩ (.int .i64 sz)).setCell ⟨g0 + 1, 1, none⟩ (.slice A' bs.length c')) := ((hb0.trans (hbw.mono hb0.size)).setCell (by show w.heap.size ≤ g0 + 1; omega) _).setCell (by show w.heap.size ≤ g0 + 1; omega) _
    generalize (w'.setCell ⟨g0 + 1, 0, none⟩ (.int .i64 sz)).setCell ⟨g0 + 1, 1, none⟩ (.slice A' bs.length c') = wF at q0 q1 hB2 hbF ⊢
    clear k0' k1' m0' m1' f0' f1' s1 k0 k1 m0 m1 f0 f1 hM2
    go_wp2
    refine bodyPost_ret (v := .agg #[.int .i64 sz, .slice A' bs.length c']) (by simp [results, Try.results9, go_sem, q0, q1]) rfl ⟨A', c', rfl, hB2, hbF⟩
end Go.Proofs.Ytfapllhjccpfpaa
