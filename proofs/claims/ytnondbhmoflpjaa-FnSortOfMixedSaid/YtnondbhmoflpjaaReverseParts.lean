/- Contract of ReverseParts: a list of its own, the same numbers. -/
import Derived.Test.YtnondbhmoflpjaaSortInts
import Derived.Test.YtnondbhmoflpjaaEnds
import Derived.Test.YtnondbhmoflpjaaAppendItems
namespace Go.Proofs.Ytnondbhmoflpjaa
open Go.RowKit

/-- A call hands back a new row of some list of the same numbers. -/
def RetPerm (t : TypeId) (zs : List Int) (w : World) (e : Ending) (w' : World) : Prop := ∃ ys : List Int, ys.Perm zs ∧ RetOwn t ys w e w'

/-- A part of a list turned round. -/
def turnI (zs : List Int) (i j : Nat) : List Int := zs.take i ++ (((zs.take j).drop i).reverse ++ zs.drop j)
theorem turn_perm (zs : List Int) {i j : Nat} (hij : i ≤ j) : (turnI zs i j).Perm zs := by
  unfold turnI
  have h1 : zs = zs.take i ++ ((zs.take j).drop i ++ zs.drop j) := by
    have e1 : zs.take i ++ (zs.take j).drop i = zs.take j := by
      have := List.take_append_drop i (zs.take j)
      rwa [List.take_take, Nat.min_eq_left hij] at this
    rw [← List.append_assoc, e1, List.take_append_drop]
  have h2 : (zs.take i ++ (((zs.take j).drop i).reverse ++ zs.drop j)).Perm (zs.take i ++ ((zs.take j).drop i ++ zs.drop j)) :=
    (List.Perm.refl _).append ((List.reverse_perm _).append (List.Perm.refl _))
  rw [← h1] at h2
  exact h2
theorem length_turn (zs : List Int) {i j : Nat} (hij : i ≤ j) : (turnI zs i j).length = zs.length := (turn_perm zs hij).length_eq

/-- Where a stretch of a row of the call's own has been overwritten by as many numbers. -/
theorem own_put {t : TypeId} {w : World} {base g cap n i : Nat} {zs ts : List Int} (h : OwnI t w base (some ⟨g, 0, none⟩) cap zs) (hl : i + ts.length ≤ zs.length) :
    OwnI t (Sort.putRow (Value.int .i64) (Sort.ahead w n) g i ts.toArray) base (some ⟨g, 0, none⟩) cap (zs.take i ++ (ts ++ zs.drop (i + ts.length))) := by
  have hL : (zs.take i ++ (ts ++ zs.drop (i + ts.length))).length = zs.length := by simp; omega
  unfold OwnI
  refine ⟨by rw [List.length_map]; omega, ?_⟩
  rcases h.2 with ⟨h0, _⟩ | ⟨g', cap', cur, hv, hbb, hh, hc, hm, hs, ht⟩
  · cases h0
  · simp only [Value.slice.injEq, Option.some.injEq, Addr.mk.injEq] at hv
    obtain ⟨⟨rfl, _⟩, _, rfl⟩ := hv
    refine .inr ⟨g, cap, Sort.putCells (Value.int .i64) i ts.toArray cur, rfl, hbb, ?_, by omega, hm, by simp [Sort.putCells]; omega, ?_⟩
    · simp [Sort.putRow, Sort.mapBlock, Sort.ahead, Array.getElem?_modify, hh, Sort.onCells]
    · rw [hL, Nat.mul_one]
      rw [Nat.mul_one] at ht
      apply List.ext_getElem?
      intro k
      by_cases hk : k < zs.length
      · have hk0 : cur[k]? = some (.int .i64 (gi zs k)) := by
          have : (cur.toList.take zs.length)[k]? = (zs.map (Value.int .i64))[k]? := by rw [ht]
          rw [List.getElem?_take, if_pos hk] at this
          simpa [gi, hk] using this
        rw [List.getElem?_take, if_pos hk, Array.getElem?_toList]
        have hpc : (Sort.putCells (Value.int .i64) i ts.toArray cur)[k]? = some (if i ≤ k ∧ k < i + ts.length then .int .i64 (gi ts (k - i)) else .int .i64 (gi zs k)) := by
          simp only [Sort.putCells, Array.getElem?_mapIdx, hk0, Option.map_some, List.size_toArray]
          by_cases hik : i ≤ k ∧ k < i + ts.length
          · have : k - i < ts.length := by omega
            simp [hik, gi, this]
          · simp only [if_neg hik]
        rw [hpc, List.getElem?_map]
        by_cases h1 : k < i
        · have h2 : ¬ (i ≤ k ∧ k < i + ts.length) := by omega
          rw [if_neg h2, List.getElem?_append_left (by simp; omega), List.getElem?_take, if_pos h1]
          simp [gi, hk]
        · have hlt : (zs.take i).length = i := by simp; omega
          rw [List.getElem?_append_right (by omega), hlt]
          by_cases h2 : k < i + ts.length
          · have h3 : k - i < ts.length := by omega
            rw [if_pos ⟨by omega, h2⟩, List.getElem?_append_left h3]
            simp [gi, h3]
          · have h3 : ¬ (i ≤ k ∧ k < i + ts.length) := by omega
            rw [if_neg h3, List.getElem?_append_right (by omega), List.getElem?_drop]
            have h4 : i + ts.length + (k - i - ts.length) = k := by omega
            rw [h4]
            simp [gi, hk]
      · rw [List.getElem?_eq_none (by simp; omega), List.getElem?_eq_none (by simp; omega)]

theorem below_put {B : Nat} {w w1 : World} {g i n : Nat} {d : Array Int} (h : Below B w w1) (hs : B ≤ w1.heap.size) (hg : B ≤ g) : Below B w (Sort.putRow (Value.int .i64) (Sort.ahead w1 n) g i d) := by
  refine h.grown (row := some g) ⟨rfl, rfl, rfl, by simp [Sort.putRow, Sort.mapBlock, Sort.ahead], fun k hk hne => ?_⟩ hs (fun k h => by cases h; exact hg)
  have : g ≠ k := fun e => hne (by rw [e])
  simp [Sort.putRow, Sort.mapBlock, Sort.ahead, Array.getElem?_modify, this]

theorem OwnI.cap {t : TypeId} {w : World} {base : Nat} {A : Option Addr} {cap : Nat} {zs : List Int} (h : OwnI t w base A cap zs) : zs.length ≤ cap ∧ cap ≤ maxLen := by
  rcases h.2 with ⟨hv, h0⟩ | ⟨g, cap', cur, hv, hbb, hh, hc, hm, hs, ht⟩
  · simp only [Value.slice.injEq] at hv
    obtain ⟨_, _, rfl⟩ := hv
    exact ⟨by omega, by unfold maxLen; omega⟩
  · simp only [Value.slice.injEq] at hv
    obtain ⟨_, _, rfl⟩ := hv
    exact ⟨hc, hm⟩

set_option maxHeartbeats 800000 in
theorem reverseParts_calls (A B : Option Addr) (c d : Nat) (zs : List Int) (ps : List (Int × Int)) (w : World) (hA : Ints w A zs) (hB : Items w B ps) (hn : zs.length * 8 ≤ 140737488351232) (hp : ps.length * 16 ≤ 140737488351232) :
    Calls Try.prog 28 #[.slice A zs.length c, .slice B ps.length d] w (RetPerm 3 zs w) := by
  go_enter Try.func28, Try.ntmps28
  go_wp2_with fail
  refine (numbers_calls _ _ zs _ hA hn).mono ?_
  rintro e w1 ⟨A1, cap1, rfl, ho, hb⟩
  have hs1 := hb.size
  go_wp2
  go_loopw [14] (fun i wr => ∃ (k : Nat) (ys : List Int), k ≤ ps.length ∧ ys.length = zs.length ∧ i = .int .i64 k ∧ ys.Perm zs ∧ OwnI 3 wr w.heap.size A1 cap1 ys ∧ Below w.heap.size w wr) (fun i _ => ps.length - (intOf i).toNat)
  case atStart => exact ⟨0, zs, Nat.zero_le _, rfl, rfl, List.Perm.refl _, ho, hb⟩
  case round =>
    obtain ⟨k, ys, hk, hyl, rfl, hperm, ho1, hb1⟩ := hrel
    have HP := Lib.hid hperm
    have hnz : ys.length * 8 ≤ 140737488351232 := by omega
    clear ho hb hperm
    by_cases hlt : k < ps.length
    · obtain ⟨b, off, rfl, hbl, hc⟩ := hB.below hb1 (by omega)
      obtain ⟨hck, hck'⟩ := hc k hlt
      clear hc
      go_wp2_with fail
      refine (ends_calls _ _ zs.length _ hn).mono ?_
      rintro e w2 ⟨i, j, hij, hjl, rfl, hb2'⟩
      have hb2 : Below w.heap.size w w2 := (hb1.alloc hb1.size _).trans (hb2'.mono (by have := hb1.size; simp; omega))
      have ho2 : OwnI 3 w2 w.heap.size A1 cap1 ys := (ho1.below ((Below.refl _ _).alloc (Nat.le_refl _) _)).below hb2'
      clear hb2' ho1 hb1 hck hck'
      rcases Nat.lt_or_ge i j with h1 | h1
      · obtain ⟨g, cur, rfl, hg, hbk, hc1, hc2, hsz, hcur⟩ := ho2.block (by omega)
        have HC := Lib.hid hcur
        have HS := Lib.hid hsz
        clear hcur hsz
        have hcap : zs.length ≤ cap1 := by omega
        have hmx : cap1 ≤ 9223372036854775807 := hc2
        obtain ⟨ts, hts⟩ : ∃ ts, ts = (ys.take j).drop i := ⟨_, rfl⟩
        have htl : ts.length = j - i := by rw [hts]; simp; omega
        have hH : Hid (Sort.Holds (Value.int .i64) w2 g i ts.toArray) := by
          intro q hq
          have hq' : q < j - i := by simpa [htl] using hq
          refine ⟨?_, hbk.frozen _⟩
          rw [hbk.cell (i + q), HC.out (i + q) (by omega), hts]
          have e : ((ys.take j).drop i)[q]? = some (gi ys (i + q)) := by
            rw [List.getElem?_drop, List.getElem?_take, if_pos (by omega)]
            simp [gi, show i + q < ys.length by omega]
          simp [e]
        have HT := Lib.hid hts
        have htn : ts.length ≤ 9223372036854775807 := by omega
        have hc := Try.slices_Reverse_int g i (cap1 - i) ts w2 hH.out htn
        rw [htl] at hc
        have HTL := Lib.hid htl
        clear hts htl
        go_wp2_with fail
        refine hc.mono ?_
        clear hc
        rintro e w3 ⟨rfl, n, rfl⟩
        have hrl : ts.reverse.length = j - i := by rw [List.length_reverse]; exact HTL.out
        have ho3 := own_put (n := n) (i := i) (ts := ts.reverse) ho2 (by rw [hrl]; omega)
        have hb3 := below_put (i := i) (n := n) (d := ts.reverse.toArray) hb2 hb2.size hg
        obtain ⟨us, hus⟩ : ∃ us, us = ys.take i ++ (ts.reverse ++ ys.drop (i + ts.reverse.length)) := ⟨_, rfl⟩
        rw [← hus] at ho3
        have hut : us = turnI ys i j := by rw [hus, hrl, HT.out]; unfold turnI; rw [show i + (j - i) = j by omega]
        have HU := Lib.hid (show us.Perm zs by rw [hut]; exact (turn_perm ys hij).trans HP.out)
        have hul : us.length = zs.length := by rw [hut, length_turn ys hij]; exact hyl
        clear hus hut hrl ho2 hb2
        go_wp2
        go_roundw
        case rel => exact ⟨k + 1, us, by omega, hul, by go_num, HU.out, ho3, hb3⟩
        case measure => simp [intOf]; omega
      · obtain rfl : i = j := by omega
        obtain ⟨hcap, hmx⟩ := ho2.cap
        have hmx' : cap1 ≤ 9223372036854775807 := hmx
        have hle : i ≤ cap1 := by omega
        clear hmx
        by_cases hi : cap1 = i
        · subst hi
          go_wp2_with fail
          refine (Try.slices_Reverse_int_empty _ _ _).mono ?_
          rintro e w3 ⟨rfl, rfl⟩
          go_wp2
          go_roundw
          case rel => exact ⟨k + 1, ys, by omega, hyl, by go_num, HP.out, ho2, hb2⟩
          case measure => simp [intOf]; omega
        · go_wp2_with fail
          refine (Try.slices_Reverse_int_empty _ _ _).mono ?_
          rintro e w3 ⟨rfl, rfl⟩
          go_wp2
          go_roundw
          case rel => exact ⟨k + 1, ys, by omega, hyl, by go_num, HP.out, ho2, hb2⟩
          case measure => simp [intOf]; omega
    · go_wp2
      go_ret
      exact ⟨ys, HP.out, A1, cap1, by rw [hyl]; rfl, ho1, hb1⟩
end Go.Proofs.Ytnondbhmoflpjaa
