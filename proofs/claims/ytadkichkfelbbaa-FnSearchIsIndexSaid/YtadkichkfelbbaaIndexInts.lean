/- Contracts of slices.Index and slices.Contains at int, and of IndexInt and ContainsInt. -/
import Derived.Test.YtadkichkfelbbaaInfo
namespace Go.Proofs.Ytadkichkfelbbaa
open Go.RowKit

/-- The first place of a number. -/
def FstI (zs : List Int) (v : Int) (i : Nat) : Prop := i < zs.length ∧ gi zs i = v ∧ ∀ j, j < i → gi zs j ≠ v
/-- The number is nowhere. -/
def NoI (zs : List Int) (v : Int) : Prop := ∀ j, j < zs.length → gi zs j ≠ v
theorem hasB_true {zs : List Int} {v : Int} (h : hasB zs v = true) : ∃ i, FstI zs v i := by
  have h2 : ∃ i, i < zs.length ∧ gi zs i = v := by
    obtain ⟨x, hx, he⟩ := List.any_eq_true.1 h
    obtain ⟨j, hj, rfl⟩ := List.mem_iff_getElem.1 hx
    exact ⟨j, hj, by rw [gi_eq hj]; simpa using he⟩
  obtain ⟨i, hi, e⟩ := h2
  induction i using Nat.strongRecOn with
  | _ i ih =>
    by_cases hx : ∃ j, j < i ∧ gi zs j = v
    · obtain ⟨j, hj, ej⟩ := hx
      exact ih j hj (by omega) ej
    · exact ⟨i, hi, e, fun j hj ej => hx ⟨j, hj, ej⟩⟩
theorem hasB_false {zs : List Int} {v : Int} (h : hasB zs v = false) : NoI zs v := fun j hj e => by
  have : hasB zs v = true := List.any_eq_true.2 ⟨gi zs j, gi_mem hj, by simpa using e⟩
  rw [this] at h; cases h
theorem FstI.less {zs : List Int} {v : Int} {i : Nat} (h : FstI zs v i) (ha : ascB zs = true) : lessN zs v = i := by
  have hm := (ascB_iff zs).1 ha
  refine countP_split (by have := h.1; omega) (fun j hj => ?_) (fun j hj hl => ?_)
  · have h1 := hm j i hj h.1
    have h2 := h.2.2 j hj
    rw [h.2.1] at h1
    simp; omega
  · rcases Nat.lt_or_ge i j with h1 | h1
    · have := hm i j h1 hl; rw [h.2.1] at this; simp; omega
    · obtain rfl : j = i := by omega
      rw [h.2.1]; simp

set_option maxHeartbeats 400000 in
theorem slicesIndex_some (A : Option Addr) (c : Nat) (zs : List Int) (v : Int) (p : Nat) (w : World) (hA : Ints w A zs) (hn : zs.length * 8 ≤ 140737488351232) (hp : FstI zs v p) :
    Calls Try.prog 43 #[.slice A zs.length c, .int .i64 v] w fun e w' => e = .returned (.int .i64 p) ∧ Draws w w' := by
  obtain ⟨hp1, hp2, hp3⟩ := hp
  have H2 := Lib.hid hp2
  have H3 := Lib.hid hp3
  clear hp2 hp3
  go_enter Try.func43, Try.ntmps43
  go_wp2
  go_loopw [8] (fun i wr => ∃ k : Nat, k ≤ p ∧ i = .int .i64 k ∧ Draws w wr) (fun i _ => zs.length - (intOf i).toNat)
  case atStart => exact ⟨0, Nat.zero_le _, rfl, Draws.refl _⟩
  case round =>
    obtain ⟨k, hk, rfl, hd⟩ := hrel
    obtain ⟨bk, off, rfl, hbl, hc⟩ := hA.below hd.below (by omega)
    have hck := hc k (by omega)
    have hlt : k < zs.length := by omega
    clear hc hA
    rcases Nat.lt_or_ge k p with h1 | h1
    · have hne := H3.out k h1
      have hq : (v == gi zs k) = false := by simp; exact fun e => hne e.symm
      clear hne
      go_wp2
      go_roundw
      case rel => exact ⟨k + 1, by omega, by go_num, hd⟩
      case measure => simp [intOf]; omega
    · obtain rfl : k = p := by omega
      have hq : (v == gi zs k) = true := by rw [H2.out]; simp
      go_wp2
      go_ret
      exact ⟨rfl, hd⟩

set_option maxHeartbeats 400000 in
theorem slicesIndex_none (A : Option Addr) (c : Nat) (zs : List Int) (v : Int) (w : World) (hA : Ints w A zs) (hn : zs.length * 8 ≤ 140737488351232) (hp : NoI zs v) :
    Calls Try.prog 43 #[.slice A zs.length c, .int .i64 v] w fun e w' => e = .returned (.int .i64 (-1)) ∧ Draws w w' := by
  have H3 := Lib.hid hp
  clear hp
  go_enter Try.func43, Try.ntmps43
  go_wp2
  go_loopw [8] (fun i wr => ∃ k : Nat, k ≤ zs.length ∧ i = .int .i64 k ∧ Draws w wr) (fun i _ => zs.length - (intOf i).toNat)
  case atStart => exact ⟨0, Nat.zero_le _, rfl, Draws.refl _⟩
  case round =>
    obtain ⟨k, hk, rfl, hd⟩ := hrel
    by_cases hlt : k < zs.length
    · obtain ⟨bk, off, rfl, hbl, hc⟩ := hA.below hd.below (by omega)
      have hck := hc k hlt
      have hne := H3.out k hlt
      have hq : (v == gi zs k) = false := by simp; exact fun e => hne e.symm
      clear hne hc hA
      go_wp2
      go_roundw
      case rel => exact ⟨k + 1, by omega, by go_num, hd⟩
      case measure => simp [intOf]; omega
    · go_wp2
      go_ret
      exact ⟨rfl, hd⟩

theorem indexInt_some (A : Option Addr) (c : Nat) (zs : List Int) (v : Int) (p : Nat) (w : World) (hA : Ints w A zs) (hn : zs.length * 8 ≤ 140737488351232) (hp : FstI zs v p) :
    Calls Try.prog 26 #[.slice A zs.length c, .int .i64 v] w fun e w' => e = .returned (.int .i64 p) ∧ Draws w w' := by
  go_enter Try.func26, Try.ntmps26
  go_wp2_with fail
  refine (slicesIndex_some _ _ zs v p w hA hn hp).mono ?_
  rintro e w1 ⟨rfl, hd⟩
  clear hp
  go_wp2
  go_ret
  exact ⟨rfl, hd⟩
theorem containsInt_some (A : Option Addr) (c : Nat) (zs : List Int) (v : Int) (p : Nat) (w : World) (hA : Ints w A zs) (hn : zs.length * 8 ≤ 140737488351232) (hp : FstI zs v p) :
    Calls Try.prog 24 #[.slice A zs.length c, .int .i64 v] w fun e w' => e = .returned (.bool true) ∧ Draws w w' := by
  have hc : Calls Try.prog 42 #[.slice A zs.length c, .int .i64 v] w fun e w' => e = .returned (.bool true) ∧ Draws w w' := by
    go_enter Try.func42, Try.ntmps42
    go_wp2_with fail
    refine (slicesIndex_some _ _ zs v p w hA hn hp).mono ?_
    rintro e w1 ⟨rfl, hd⟩
    have hq : (0 : Int) ≤ p := by omega
    clear hp
    go_wp2
    go_ret
    exact ⟨rfl, hd⟩
  go_enter Try.func24, Try.ntmps24
  go_wp2_with fail
  refine hc.mono ?_
  rintro e w1 ⟨rfl, hd⟩
  clear hp hc
  go_wp2
  go_ret
  exact ⟨rfl, hd⟩
theorem containsInt_none (A : Option Addr) (c : Nat) (zs : List Int) (v : Int) (w : World) (hA : Ints w A zs) (hn : zs.length * 8 ≤ 140737488351232) (hp : NoI zs v) :
    Calls Try.prog 24 #[.slice A zs.length c, .int .i64 v] w fun e w' => e = .returned (.bool false) ∧ Draws w w' := by
  have hc : Calls Try.prog 42 #[.slice A zs.length c, .int .i64 v] w fun e w' => e = .returned (.bool false) ∧ Draws w w' := by
    go_enter Try.func42, Try.ntmps42
    go_wp2_with fail
    refine (slicesIndex_none _ _ zs v w hA hn hp).mono ?_
    rintro e w1 ⟨rfl, hd⟩
    clear hp
    go_wp2
    go_ret
    exact ⟨rfl, hd⟩
  go_enter Try.func24, Try.ntmps24
  go_wp2_with fail
  refine hc.mono ?_
  rintro e w1 ⟨rfl, hd⟩
  clear hp hc
  go_wp2
  go_ret
  exact ⟨rfl, hd⟩
end Go.Proofs.Ytadkichkfelbbaa
