/- Rows of items as the library's sorts speak of them; contract of items. -/
import Derived.Test.YtnjnphoidjachaaInfoItem
import Derived.Test.YtnjnphoidjachaaAppendItems
import Derived.Test.YtnjnphoidjachaaStabPlain
import Derived.Shelf.SlSortCmp.KitK
namespace Go.Proofs.Ytnjnphoidjachaa
open Go.RowKit
open Go.Sort (flatK HoldsK putRowK get_flatK size_flatK)

/-- The cells of an item. -/
def encP (p : Int × Int) : List Value := [.int .i64 p.1, .int .i64 p.2]
theorem encP_len (p : Int × Int) : (encP p).length = 2 := rfl
theorem encP_one (p : Int × Int) : ∀ v ∈ encP p, v.oneCell' = true := fun v hv => by
  rcases List.mem_cons.1 hv with rfl | hv
  · rfl
  · rcases List.mem_cons.1 hv with rfl | hv
    · rfl
    · cases hv
theorem flat_pair (xs : List (Int × Int)) : (flatK encP 2 xs.toArray).toList = pairCells xs := by
  apply List.ext_getElem?
  intro t
  by_cases ht : t < xs.length * 2
  · have h1 : (flatK encP 2 xs.toArray).toList[t]? = some ((flatK encP 2 xs.toArray)[t]!) := by
      have hs : t < (flatK encP 2 xs.toArray).size := by simpa using ht
      rw [Array.getElem?_toList, Array.getElem?_eq_getElem hs, getElem!_pos _ t hs]
    rw [h1, get_flatK _ _ _ _ (by simpa using ht)]
    have h2 := pairCells_at xs (i := t / 2) (by omega)
    have hx : xs.toArray[t / 2]! = (gk xs (t / 2), gt xs (t / 2)) := by
      have : t / 2 < xs.length := by omega
      rw [pair_eq this]
      simp [this]
    rw [hx]
    rcases Nat.mod_two_eq_zero_or_one t with h0 | h0
    · rw [h0, show t = t / 2 * 2 by omega, h2.1, show t / 2 * 2 / 2 = t / 2 by omega]; rfl
    · rw [h0, show t = t / 2 * 2 + 1 by omega, h2.2, show (t / 2 * 2 + 1) / 2 = t / 2 by omega]; rfl
  · rw [List.getElem?_eq_none (by simp; omega), List.getElem?_eq_none (by rw [length_pairCells]; omega)]
theorem holdsK_own {t : TypeId} {w : World} {g : Nat} {cur : Array Value} {xs : List (Int × Int)} (hb : Blk w g t cur) (ht : cur.toList.take (xs.length * 2) = pairCells xs) : HoldsK encP 2 w g 0 xs.toArray := by
  intro j hj
  have hj' : j < xs.length * 2 := by simpa using hj
  refine ⟨?_, hb.frozen _⟩
  rw [Nat.zero_add, hb.cell j]
  have h1 : (cur.toList.take (xs.length * 2))[j]? = (flatK encP 2 xs.toArray).toList[j]? := by rw [ht, flat_pair]
  rw [List.getElem?_take, if_pos hj', Array.getElem?_toList, Array.getElem?_toList] at h1
  rw [h1, Array.getElem?_eq_getElem hj, getElem!_pos _ j hj]
  rfl
/-- Behind a sort the same slice owns the sorted items. -/
theorem retP_sorted {t : TypeId} {w w1 : World} {g cap n : Nat} {os : Array Obj} {zs : List (Int × Int)} (ts : List (Int × Int)) (hl : ts.length = zs.length) (hb : Below w.heap.size w w1) (ho : OwnP t w1 w.heap.size (some ⟨g, 0, none⟩) cap zs) :
    RetP t ts w (.returned (.slice (some ⟨g, 0, none⟩) zs.length cap)) (sortWorldK encP 2 w1 g 0 n ts.toArray os) := by
  rcases ho.2 with ⟨h, _⟩ | ⟨g', cap', cur, hv, hbb, hh, hc, hm, hs, ht⟩
  · cases h
  · simp only [Value.slice.injEq, Option.some.injEq, Addr.mk.injEq] at hv
    obtain ⟨⟨rfl, _⟩, _, rfl⟩ := hv
    have hg : g < w1.heap.size := Blk.lt (t := t) (cs := cur) hh
    refine ⟨some ⟨g, 0, none⟩, cap, by rw [hl], ⟨by rw [length_pairCells], .inr ⟨g, cap, Sort.putCells id 0 (flatK encP 2 ts.toArray) cur, rfl, hbb, ?_, by omega, hm, by simp [Sort.putCells]; omega, ?_⟩⟩, ?_⟩
    · unfold sortWorldK putRowK
      rw [Sort.heap_grow_old _ _ (by simpa [Sort.putRow, Sort.mapBlock, Sort.ahead] using hg)]
      simp [Sort.putRow, Sort.mapBlock, Sort.ahead, Array.getElem?_modify, hh, Sort.onCells]
    · rw [← flat_pair]
      apply List.ext_getElem?
      intro j
      by_cases hj : j < ts.length * 2
      · rw [List.getElem?_take, if_pos hj, Array.getElem?_toList, Array.getElem?_toList]
        have hF : j < (flatK encP 2 ts.toArray).size := by simpa using hj
        have hcj : j < cur.size := by omega
        simp only [Sort.putCells, Array.getElem?_mapIdx, Array.getElem?_eq_getElem hcj, Option.map_some]
        rw [Array.getElem?_eq_getElem hF, if_pos ⟨by omega, by simpa using hj⟩, Nat.sub_zero, getElem!_pos _ j hF]
        rfl
      · rw [List.getElem?_eq_none (by simp; omega), List.getElem?_eq_none (by simp; omega)]
    · refine hb.grown (row := some g) ⟨rfl, rfl, rfl, ?_, fun k hk hne => ?_⟩ hb.size (fun k h => by cases h; exact hbb)
      · simp [sortWorldK, putRowK, Sort.grow, Sort.putRow, Sort.mapBlock, Sort.ahead]
      · unfold sortWorldK putRowK
        rw [Sort.heap_grow_old _ _ (by simpa [Sort.putRow, Sort.mapBlock, Sort.ahead] using hk)]
        have : g ≠ k := fun e => hne (by rw [e])
        simp [Sort.putRow, Sort.mapBlock, Sort.ahead, Array.getElem?_modify, this]
theorem perm_of_in {d d' : Array (Int × Int)} (h : Sort.PermIn 0 d.size d d') : d'.toList.Perm d.toList := by
  have h3 := h.2.2
  rw [Array.extract_size] at h3
  have : d'.extract 0 d.size = d' := by rw [← h.1]; exact Array.extract_size
  rwa [this] at h3
theorem srt_of_in {lt : Int × Int → Int × Int → Bool} {d : Array (Int × Int)} (h : Sort.SortedIn lt 0 d.size d) : Srt lt d.toList := by
  unfold Srt
  rw [List.pairwise_iff_getElem]
  intro i j hi hj hij
  have hi' : i < d.size := by simpa using hi
  have hj' : j < d.size := by simpa using hj
  have := h i j (Nat.zero_le _) hij hj'
  rwa [getElem!_pos d j hj', getElem!_pos d i hi'] at this

theorem Reads.of_items {w : World} {A : Option Addr} {zs : List (Int × Int)} (h : Items w A zs) : Reads w w.heap.size 2 A zs.length (pairCells zs) := by
  refine ⟨length_pairCells zs, fun hn => ?_⟩
  obtain ⟨b, off, e, hb, hc⟩ := h hn
  refine ⟨_, e, hb, fun j u hu => ?_⟩
  have hj : j < zs.length * 2 := by
    rcases Nat.lt_or_ge j (zs.length * 2) with h1 | h1
    · exact h1
    · rw [List.getElem?_eq_none (by rw [length_pairCells]; exact h1)] at hu; cases hu
  have hadd : (⟨b, off, none⟩ : Addr).add j = ⟨b, off + j, none⟩ := by
    rcases Nat.eq_zero_or_pos j with hz | hz
    · subst hz; simp [Addr.add]
    · have hne : j ≠ 0 := by omega
      simp [Addr.add, hne]
  rw [hadd]
  have h1 := hc (j / 2) (by omega)
  have h2 := pairCells_at zs (i := j / 2) (by omega)
  rcases Nat.mod_two_eq_zero_or_one j with h0 | h0
  · have e : j = j / 2 * 2 := by omega
    rw [e] at hu ⊢
    rw [h2.1] at hu
    rw [← hu]; exact h1.1
  · have e : j = j / 2 * 2 + 1 := by omega
    rw [e] at hu ⊢
    rw [h2.2] at hu
    rw [← hu, ← Nat.add_assoc]; exact h1.2

set_option maxHeartbeats 400000 in
theorem items_calls (A : Option Addr) (c : Nat) (zs : List (Int × Int)) (w : World) (hA : Items w A zs) (hn : zs.length * 16 ≤ 140737488351232) :
    Calls Try.prog 33 #[.slice A zs.length c] w (RetP 41 zs w) := by
  obtain ⟨i0, hi, hz0, hz1, hz2⟩ := info_parts infoItem
  have HR := Lib.hid (Reads.of_items hA)
  go_enter Try.func33, Try.ntmps33
  go_wp2_with (at_builtin; refine wpList_append_any _ rfl _ _ 23 rfl w.heap.size 41 i0 (.agg #[.int .i64 0, .int .i64 0]) 2 16 Try.underlying23 hi hz0 hz1 hz2 rfl (by decide) _ 0 [] rfl (World.ownsRow_nil _ _ _ _) w.heap.size A zs.length c (pairCells zs) rfl HR.out (oneCell_pairs zs) ?c1 ?c2 (Nat.le_refl _) ?_)
  case c1 => unfold maxLen; omega
  case c2 => omega
  intro v' w' hown hg hb
  have hown2 : w'.ownsRow w.heap.size 41 2 v' zs.length (pairCells zs) := by simpa using hown
  obtain ⟨A', cap', rfl, ho⟩ := own_formP hown2
  have hbel : Below w.heap.size w w' := (Below.refl _ _).grown hg (Nat.le_refl _) (fun k h => by cases h)
  clear hg hb hown hown2
  go_wp2
  go_ret
  exact ⟨_, _, rfl, ho, hbel⟩
end Go.Proofs.Ytnjnphoidjachaa
