/- The walk of FnInsertWhereFound. -/
import Derived.Test.YtnondbhmoflpjaaInsertInts
import Derived.Test.YtnondbhmoflpjaaSortIntsW
import Derived.Test.YtnondbhmoflpjaaSortedIntW
import Derived.Test.YtnondbhmoflpjaaBinInts
import Derived.Test.YtnondbhmoflpjaaAscending
import Derived.Test.YtnondbhmoflpjaaSameIntsW
import Derived.Test.YtnondbhmoflpjaaJoined
namespace Go.Proofs.Ytnondbhmoflpjaa
open Go.RowKit

theorem ins_perm (zs : List Int) (i : Nat) (v : Int) : (insI zs i v).Perm (zs ++ [v]) := by
  unfold insI
  have h1 : (zs.take i ++ v :: zs.drop i).Perm (v :: (zs.take i ++ zs.drop i)) := List.perm_middle
  rw [List.take_append_drop] at h1
  exact h1.trans (List.perm_append_singleton v zs).symm
theorem ins_asc {zs : List Int} {v : Int} (ha : ascB zs = true) : ascB (insI zs (lessN zs v) v) = true := by
  have hi : lessN zs v ≤ zs.length := List.countP_le_length
  have hm := (ascB_iff zs).1 ha
  obtain ⟨i, hd⟩ : ∃ i, lessN zs v = i := ⟨_, rfl⟩
  rw [hd] at hi ⊢
  have hlow : ∀ j, j < i → gi zs j < v := fun j hj => by
    refine Int.not_le.1 fun hle => ?_
    have : lessN zs v ≤ j := by
      unfold lessN
      rw [← List.take_append_drop j zs, List.countP_append]
      have e2 : (zs.drop j).countP (fun x => decide (x < v)) = 0 := List.countP_eq_zero.2 (fun a ha' => by
        obtain ⟨k, hk, rfl⟩ := List.mem_iff_getElem.1 ha'
        have hk' : j + k < zs.length := by simp at hk; omega
        rw [List.getElem_drop, ← gi_eq hk']
        rcases Nat.eq_zero_or_pos k with h0 | h0
        · subst h0; simp; exact hle
        · have := hm j (j + k) (by omega) hk'; simp; omega)
      have e1 : (zs.take j).countP (fun x => decide (x < v)) ≤ (zs.take j).length := List.countP_le_length
      simp at e1
      omega
    omega
  have hhigh : ∀ j, i ≤ j → j < zs.length → v ≤ gi zs j := fun j hj hl => by
    refine Int.not_lt.1 fun hlt => ?_
    have : j + 1 ≤ lessN zs v := by
      unfold lessN
      rw [← List.take_append_drop (j + 1) zs, List.countP_append]
      have hl1 : (zs.take (j + 1)).length = j + 1 := by simp; omega
      have := (List.countP_eq_length (p := fun x => decide (x < v)) (l := zs.take (j + 1))).2 (fun a ha' => by
        obtain ⟨k, hk, rfl⟩ := List.mem_iff_getElem.1 ha'
        have hk' : k < j + 1 := by omega
        rw [List.getElem_take, ← gi_eq (by omega)]
        rcases Nat.lt_or_ge k j with h1 | h1
        · have := hm k j h1 hl; simp; omega
        · obtain rfl : k = j := by omega
          simpa using hlt)
      omega
    omega
  refine ascB_of_adj fun k hk => ?_
  rw [length_ins zs v hi] at hk
  rw [gi_ins hi, gi_ins hi]
  by_cases h1 : k + 1 < i
  · rw [if_pos (by omega), if_pos h1]; exact hm k (k + 1) (by omega) (by omega)
  · rw [if_neg h1]
    by_cases h2 : k + 1 = i
    · rw [if_pos (by omega), if_pos h2]; exact Int.le_of_lt (hlow k (by omega))
    · rw [if_neg h2, if_neg (by omega), Nat.add_sub_cancel]
      by_cases h3 : k = i
      · rw [if_pos h3]; exact hhigh k (by omega) (by omega)
      · rw [if_neg h3]
        have := hm (k - 1) k (by omega) (by omega)
        exact this
theorem ins_sorted {zs : List Int} {v : Int} (ha : ascB zs = true) : sortI (zs ++ [v]) = insI zs (lessN zs v) v := by
  rw [← sortI_of_perm (ins_perm zs (lessN zs v) v)]
  exact sortI_of_asc (ins_asc ha)

set_option maxHeartbeats 800000 in
theorem lawInsertWhereFound (A : Option Addr) (c : Nat) (zs : List Int) (v : Int) (w : World) (hA : Ints w A zs) (hn : zs.length * 8 ≤ 140737488351232) :
    Calls Try.prog 14 #[.slice A zs.length c, .int .i64 v] w fun e w' => e = .returned (.bool true) ∧ Below w.heap.size w w' := by
  go_enter Try.func14, Try.ntmps14
  go_wp2_with fail
  refine (ascending_calls _ _ zs w hA hn).mono ?_
  rintro e w1 ⟨rfl, hd1⟩
  cases ha : ascB zs with
  | false =>
    clear ha
    go_wp2
    go_ret
    exact ⟨rfl, hd1.below⟩
  | true =>
    obtain ⟨p, hp⟩ : ∃ p, lessN zs v = p := ⟨_, rfl⟩
    obtain ⟨q, hq0⟩ : ∃ q, hasB zs v = q := ⟨_, rfl⟩
    have hpl : p ≤ zs.length := by rw [← hp]; exact List.countP_le_length
    obtain ⟨L, hL⟩ : ∃ L, L = insI zs p v := ⟨_, rfl⟩
    have hLl : L.length = zs.length + 1 := by rw [hL]; exact length_ins zs v hpl
    obtain ⟨M, hM⟩ : ∃ M, M = zs ++ [v] := ⟨_, rfl⟩
    have hMl : M.length = zs.length + 1 := by rw [hM]; simp
    have HA := Lib.hid ha
    have HL := Lib.hid hL
    have HM := Lib.hid hM
    have HASC := Lib.hid (show ascB L = true by rw [hL, ← hp]; exact ins_asc ha)
    have HS := Lib.hid (show sortI M = L by rw [hL, hM, ← hp]; exact ins_sorted ha)
    have hnL : L.length * 8 ≤ 140737488355328 := by omega
    have hnM : M.length * 8 ≤ 140737488355328 := by omega
    have hnj : (zs.length + 1) * 8 ≤ 140737488355328 := by omega
    have hqq : ((L.length : Int) == (zs.length : Int) + 1) = true := by rw [hLl]; simp
    have hc2 := binarySearchInts_asc A c zs v w1 (hA.below hd1.below) hn ha
    rw [hp, hq0] at hc2
    clear ha hp hq0 hL hM hLl hMl
    go_wp2_with fail
    refine hc2.mono ?_
    clear hc2
    rintro e w2 ⟨rfl, hd2⟩
    have hb2 : Below w.heap.size w w2 := (hd1.trans hd2).below
    have hv := Blk.new w2 3 #[.int .i64 v]
    have hb3 := hb2.alloc hb2.size (.cells #[.int .i64 v] 3)
    have hc3 := insertInts_calls A c zs p v w2.heap.size _ (hA.below hb3) hn hpl hv
    rw [← HL.out] at hc3
    clear hv
    go_wp2_with fail
    refine hc3.mono ?_
    clear hc3
    rintro e w4 ⟨A4, c4, rfl, ho4, hb4'⟩
    have hb4 := hb3.trans (hb4'.mono hb3.size)
    have hI4 := ho4.ints
    clear hb4' hb3 ho4
    have hc5 := isSortedInts_callsW A4 c4 L w4 hI4 hnL
    rw [HASC.out] at hc5
    go_wp2_with fail
    refine hc5.mono ?_
    clear hc5
    rintro e w5 ⟨rfl, hd5⟩
    have hb5 := hb4.trans hd5.below
    have hI5 := hI4.below hd5.below
    have hv5 : Ints (w5.alloc (.cells #[.int .i64 v] 3)) (some ⟨w5.heap.size, 0, none⟩) [v] := Blk.ints (Blk.new w5 3 #[.int .i64 v])
    have hb6 := hb5.alloc hb5.size (.cells #[.int .i64 v] 3)
    have hI6 := hI5.below ((Below.refl w5.heap.size w5).alloc (Nat.le_refl _) (.cells #[.int .i64 v] 3))
    have hc6 := joined_calls A (some ⟨w5.heap.size, 0, none⟩) c 1 zs [v] _ (hA.below hb6) hv5 hnj
    rw [← HM.out] at hc6
    clear hv5 hI4 hI5 hb5
    go_wp2_with fail
    refine hc6.mono ?_
    clear hc6
    rintro e w7 ⟨A7, c7, rfl, ho7, hb7'⟩
    have hb7 := hb6.trans (hb7'.mono hb6.size)
    have hI7 := hI6.below hb7'
    have hJ7 := ho7.ints
    clear hb7' hb6 hI6 ho7
    go_wp2_with fail
    refine (sortInts_callsW _ _ M w7 hJ7 hnM).mono ?_
    rintro e w8 ⟨A8, c8, he8, ho8, hb8'⟩
    rw [HS.out] at he8 ho8
    subst he8
    have hb8 := hb7.trans (hb8'.mono hb7.size)
    have hI8 := hI7.below hb8'
    have hJ8 := ho8.ints
    clear hb8' hb7 hI7 hJ7 ho8
    go_wp2_with fail
    refine (sameInts_callsW _ _ _ _ L L w8 hI8 hJ8 hnL).mono ?_
    rintro e w9 ⟨he9, hd9⟩
    rw [decide_eq_true rfl] at he9
    subst he9
    go_wp2
    go_ret
    exact ⟨rfl, hb8.trans hd9.below⟩
end Go.Proofs.Ytnondbhmoflpjaa
