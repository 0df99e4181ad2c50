/- Contracts for a binary search by keys: the library's, the thin package's, the reference's. -/
import Derived.Test.YthioaialkilbdaaByKey
namespace Go.Proofs.Ythioaialkilbdaa
open Go.RowKit

/-- A binary search's answer: some place i, and whether the key stands there. -/
def BsKeys (zs : List (Int × Int)) (v : Int) (w : World) (e : Ending) (w' : World) : Prop :=
  ∃ i : Nat, Found zs.length (fun j => gk zs j < v) i ∧ e = .returned (.tuple #[.int .i64 i, .bool (decide (i < zs.length) && (gk zs i == v))]) ∧ Below w.heap.size w w'
theorem found_keys {zs : List (Int × Int)} {v : Int} {i : Nat} (ha : ascB (keys zs) = true) (h : Found zs.length (fun j => gk zs j < v) i) : lessN (keys zs) v = i ∧ hasB (keys zs) v = (decide (i < zs.length) && (gk zs i == v)) := by
  have h' : Found (keys zs).length (fun j => gi (keys zs) j < v) i := by
    obtain ⟨h1, h2, h3⟩ := h
    refine ⟨by rw [length_keys]; exact h1, fun j hj => ?_, fun hi => ?_⟩
    · show gi (keys zs) j < v
      rw [gi_keys (by omega)]; exact h2 j hj
    · rw [length_keys] at hi
      show ¬ gi (keys zs) i < v
      rw [gi_keys hi]; exact h3 hi
  refine ⟨found_lessN ha h', ?_⟩
  rw [found_hasB ha h', length_keys]
  by_cases hi : i < zs.length
  · rw [gi_keys hi]
  · simp [hi]

theorem itemsCmp_calls (k t v : Int) (w : World) : Calls Try.prog 67 #[.agg #[.int .i64 k, .int .i64 t], .int .i64 v] w fun e w' => e = .returned (.int .i64 (cmpI k v)) ∧ Below w.heap.size w w' := by
  go_enter Try.func67, Try.ntmps67
  go_wp2_with (go_at_call 68; refine (compare_calls _ _ _).mono ?_; rintro e w' ⟨rfl, rfl⟩)
  go_ret
  exact ⟨rfl, (Below.refl _ _).alloc (Nat.le_refl _) _⟩

set_option maxHeartbeats 800000 in
theorem binarySearchFuncItems_calls (A : Option Addr) (c : Nat) (zs : List (Int × Int)) (v : Int) (w : World) (hA : Items w A zs) (hn : zs.length * 16 ≤ 140737488351232) :
    Calls Try.prog 66 #[.slice A zs.length c, .int .i64 v, .func (.func 67) #[] #[]] w (BsKeys zs v w) := by
  go_enter Try.func66, Try.ntmps66
  go_wp2
  go_loopw [9, 10] (fun a b wr => ∃ i j : Nat, i ≤ j ∧ j ≤ zs.length ∧ a = .int .i64 i ∧ b = .int .i64 j ∧ (∀ k, k + 1 = i → gk zs k < v) ∧ (j < zs.length → v ≤ gk zs j) ∧ Below w.heap.size w wr) (fun a b _ => ((intOf b) - (intOf a)).toNat)
  case atStart => exact ⟨0, zs.length, Nat.zero_le _, Nat.le_refl _, rfl, rfl, fun k hk => absurd hk (by omega), fun h => absurd h (by omega), Below.refl _ _⟩
  case round =>
    obtain ⟨i, j, hij, hj, rfl, rfl, h1, h2, hd⟩ := hrel
    have H1 := Lib.hid h1
    have H2 := Lib.hid h2
    clear h1 h2
    by_cases hlt : i < j
    · obtain ⟨b, off, rfl, hbl, hc⟩ := hA.below hd (by omega)
      obtain ⟨hck, hck'⟩ := hc ((i + j) / 2) (by omega)
      have hx0 : (0 : Int) ≤ ((i : Int) + (j : Int)) / 2 := by omega
      have hx1 : ((i : Int) + (j : Int)) / 2 < (zs.length : Int) := by omega
      have hx2 := half_toNat i j
      clear hc
      by_cases he : gk zs ((i + j) / 2) < v
      · have HE := Lib.hid he
        have hq : cmpI (gk zs ((i + j) / 2)) v < 0 := cmpI_lt.2 he
        clear he
        go_wp2_with (go_at_call 67; refine (itemsCmp_calls _ _ _ _).mono ?_; rintro e w' ⟨rfl, hd'⟩)
        go_roundw
        case rel => exact ⟨(i + j) / 2 + 1, j, by omega, hj, by go_num, rfl, fun k hk => by
          obtain rfl : k = (i + j) / 2 := by omega
          exact HE.out, H2.out, hd.trans (hd'.mono hd.size)⟩
        case measure => simp [intOf]; omega
      · have HE := Lib.hid (Int.not_lt.1 he)
        have hq : ¬ cmpI (gk zs ((i + j) / 2)) v < 0 := fun h => he (cmpI_lt.1 h)
        clear he
        go_wp2_with (go_at_call 67; refine (itemsCmp_calls _ _ _ _).mono ?_; rintro e w' ⟨rfl, hd'⟩)
        go_roundw
        case rel => exact ⟨i, (i + j) / 2, by omega, by omega, rfl, by go_num, H1.out, fun _ => HE.out, hd.trans (hd'.mono hd.size)⟩
        case measure => simp [intOf]; omega
    · obtain rfl : i = j := by omega
      have HF : Hid (Found zs.length (fun j => gk zs j < v) i) := ⟨hj, H1.out, fun h => Int.not_lt.2 (H2.out h)⟩
      by_cases hi : i < zs.length
      · obtain ⟨b, off, rfl, hbl, hc⟩ := hA.below hd (by omega)
        obtain ⟨hck, hck'⟩ := hc i hi
        clear hc
        by_cases he : gk zs i = v
        · have HQ := Lib.hid (show (gk zs i == v) = true by simp [he])
          have hq : (cmpI (gk zs i) v == 0) = true := by rw [beq_iff_eq]; exact cmpI_zero.2 he
          clear he
          go_wp2_with (go_at_call 67; refine (itemsCmp_calls _ _ _ _).mono ?_; rintro e w' ⟨rfl, hd'⟩)
          go_ret2
          exact ⟨i, HF.out, ret_ib rfl (by rw [HQ.out]; simp [hi]), hd.trans (hd'.mono hd.size)⟩
        · have HQ := Lib.hid (show (gk zs i == v) = false by simp [he])
          have hq : (cmpI (gk zs i) v == 0) = false := by rw [beq_eq_false_iff_ne]; exact fun h => he (cmpI_zero.1 h)
          clear he
          go_wp2_with (go_at_call 67; refine (itemsCmp_calls _ _ _ _).mono ?_; rintro e w' ⟨rfl, hd'⟩)
          go_ret2
          exact ⟨i, HF.out, ret_ib rfl (by rw [HQ.out]; simp), hd.trans (hd'.mono hd.size)⟩
      · go_wp2_with fail
        go_ret2
        exact ⟨i, HF.out, ret_ib rfl (by simp [hi]), hd⟩



theorem binarySearchItems_calls (A : Option Addr) (c : Nat) (zs : List (Int × Int)) (v : Int) (w : World) (hA : Items w A zs) (hn : zs.length * 16 ≤ 140737488351232) (ha : ascB (keys zs) = true) :
    Calls Try.prog 41 #[.slice A zs.length c, .int .i64 v] w fun e w' => e = .returned (.tuple #[.int .i64 (lessN (keys zs) v), .bool (hasB (keys zs) v)]) ∧ Below w.heap.size w w' := by
  have HA := Lib.hid ha
  clear ha
  go_enter Try.func41, Try.ntmps41
  go_wp2_with fail
  refine (binarySearchFuncItems_calls _ _ zs v _ hA hn).mono ?_
  rintro e w1 ⟨i, hf, rfl, hd⟩
  have HF := Lib.hid (found_keys HA.out hf)
  clear hf
  go_wp2
  go_ret2
  exact ⟨ret_ib (by rw [HF.out.1]) HF.out.2.symm, hd⟩

set_option maxHeartbeats 400000 in
theorem specBinarySearchItems_calls (A : Option Addr) (c : Nat) (zs : List (Int × Int)) (v : Int) (w : World) (hA : Items w A zs) (hn : zs.length * 16 ≤ 140737488351232) :
    Calls Try.prog 42 #[.slice A zs.length c, .int .i64 v] w fun e w' => e = .returned (.tuple #[.int .i64 (lessN (keys zs) v), .bool (hasB (keys zs) v)]) ∧ Below w.heap.size w w' := by
  go_enter Try.func42, Try.ntmps42
  go_wp2
  go_loopw [6, 7, 12] (fun n f i wr => ∃ (k m : Nat) (b : Bool), k ≤ zs.length ∧ m ≤ k ∧ n = .int .i64 m ∧ f = .bool b ∧ i = .int .i64 k ∧ m = lessN ((keys zs).take k) v ∧ b = hasB ((keys zs).take k) v ∧ Below w.heap.size w wr) (fun _ _ i _ => zs.length - (intOf i).toNat)
  case atStart => exact ⟨0, 0, false, Nat.zero_le _, Nat.zero_le _, rfl, rfl, rfl, rfl, rfl, Below.refl _ _⟩
  case round =>
    obtain ⟨k, m, b, hk, hmk, rfl, rfl, rfl, hm, hb, hd⟩ := hrel
    by_cases hlt : k < zs.length
    · obtain ⟨bk, off, rfl, hbl, hc⟩ := hA.below hd (by omega)
      obtain ⟨hck, hck'⟩ := hc k hlt
      have HM := Lib.hid (show lessN ((keys zs).take (k + 1)) v = m + if gk zs k < v then 1 else 0 by rw [hm]; rw [← gi_keys hlt]; exact lessN_step (by rw [length_keys]; exact hlt))
      have HB := Lib.hid (show hasB ((keys zs).take (k + 1)) v = (b || (gk zs k == v)) by rw [hb]; rw [← gi_keys hlt]; exact hasB_step (by rw [length_keys]; exact hlt))
      clear hc hA hm hb
      by_cases hl : gk zs k < v
      · have hq : (gk zs k == v) = false := by simp; omega
        have HM' := Lib.hid (show m + 1 = lessN ((keys zs).take (k + 1)) v by rw [HM.out, if_pos hl])
        have HB' := Lib.hid (show b = hasB ((keys zs).take (k + 1)) v by rw [HB.out, hq]; simp)
        clear HM HB
        cases b
        all_goals
          go_wp2
          go_roundw
          case rel => exact ⟨k + 1, m + 1, _, by omega, by omega, by go_num, rfl, by go_num, HM'.out, HB'.out, (hd.alloc hd.size _)⟩
          case measure => simp [intOf]; omega
      · have HM' := Lib.hid (show m = lessN ((keys zs).take (k + 1)) v by rw [HM.out, if_neg hl]; rfl)
        by_cases he : gk zs k = v
        · have hq : (gk zs k == v) = true := by simp [he]
          have HB' := Lib.hid (show true = hasB ((keys zs).take (k + 1)) v by rw [HB.out, hq]; simp)
          clear HM HB he
          cases b
          all_goals
            go_wp2
            go_roundw
            case rel => exact ⟨k + 1, m, true, by omega, by omega, rfl, rfl, by go_num, HM'.out, HB'.out, (hd.alloc hd.size _)⟩
            case measure => simp [intOf]; omega
        · have hq : (gk zs k == v) = false := by simp [he]
          have HB' := Lib.hid (show b = hasB ((keys zs).take (k + 1)) v by rw [HB.out, hq]; simp)
          clear HM HB he
          cases b
          all_goals
            go_wp2
            go_roundw
            case rel => exact ⟨k + 1, m, _, by omega, by omega, rfl, rfl, by go_num, HM'.out, HB'.out, (hd.alloc hd.size _)⟩
            case measure => simp [intOf]; omega
    · have HM := Lib.hid (show m = lessN (keys zs) v by rw [hm, List.take_of_length_le (by rw [length_keys]; omega)])
      have HB := Lib.hid (show b = hasB (keys zs) v by rw [hb, List.take_of_length_le (by rw [length_keys]; omega)])
      clear hm hb
      go_wp2
      go_ret2
      exact ⟨ret_ib (by rw [HM.out]) HB.out, hd⟩
end Go.Proofs.Ythioaialkilbdaa
