/- Contracts of eqItem, eqItemS and szItemS. -/
import Derived.Test.YtnjnphoidjachaaInfo
import Derived.Test.YtnjnphoidjachaaItems
import Derived.StillTailTactics
namespace Go.Proofs.Ytnjnphoidjachaa
open Go.RowKit

theorem eqItem_t (a b : Int) (w : World) :
    Calls Try.prog 41 #[.agg #[.int .i64 a, .int .i64 b], .agg #[.int .i64 a, .int .i64 b]] w fun e w' => e = .returned (.bool true) ∧ Below w.heap.size w w' := by
  have h1 : (a != a) = false := by simp
  have h2 : (b != b) = false := by simp
  go_enter Try.func41, Try.ntmps41
  go_wp2
  go_ret
  exact ⟨rfl, ((Below.refl _ _).alloc (Nat.le_refl _) _).alloc (by simp) _⟩
theorem eqItem_f (a b c d : Int) (w : World) (h : ¬ (a = c ∧ b = d)) :
    Calls Try.prog 41 #[.agg #[.int .i64 a, .int .i64 b], .agg #[.int .i64 c, .int .i64 d]] w fun e w' => e = .returned (.bool false) ∧ Below w.heap.size w w' := by
  by_cases hac : a = c
  · have h1 : (a != c) = false := by simp [hac]
    have h2 : (b != d) = true := by rw [bne_iff_ne]; exact fun e => h ⟨hac, e⟩
    clear h hac
    go_enter Try.func41, Try.ntmps41
    go_wp2
    go_ret
    exact ⟨rfl, ((Below.refl _ _).alloc (Nat.le_refl _) _).alloc (by simp) _⟩
  · have h1 : (a != c) = true := by rw [bne_iff_ne]; exact hac
    clear h hac
    go_enter Try.func41, Try.ntmps41
    go_wp2
    go_ret
    exact ⟨rfl, ((Below.refl _ _).alloc (Nat.le_refl _) _).alloc (by simp) _⟩

theorem eqItem_e (a b c d : Int) (w : World) (h : a = c ∧ b = d) :
    Calls Try.prog 41 #[.agg #[.int .i64 a, .int .i64 b], .agg #[.int .i64 c, .int .i64 d]] w fun e w' => e = .returned (.bool true) ∧ Below w.heap.size w w' := by
  obtain ⟨rfl, rfl⟩ := h
  exact eqItem_t a b w

set_option maxHeartbeats 800000 in
theorem eqItemS_calls (A B : Option Addr) (c d : Nat) (xs ys : List (Int × Int)) (w : World) (hA : Items w A xs) (hB : Items w B ys) (hn : xs.length * 16 ≤ 140737488351232) :
    Calls Try.prog 23 #[.slice A xs.length c, .slice B ys.length d] w fun e w' => e = .returned (.bool (decide (xs = ys))) ∧ Below w.heap.size w w' := by
  by_cases hl : xs.length = ys.length
  · have hne : ((xs.length : Int) != (ys.length : Int)) = false := by simp [hl]
    have hy : ys.length * 16 ≤ 140737488351232 := by omega
    have HL := Lib.hid hl
    clear hl
    go_enter Try.func23, Try.ntmps23
    go_wp2
    clear hne
    go_loopw [5] (fun i wr => ∃ k : Nat, k ≤ xs.length ∧ i = .int .i64 k ∧ (∀ j, j < k → gk xs j = gk ys j ∧ gt xs j = gt ys j) ∧ Below w.heap.size w wr) (fun i _ => xs.length - (intOf i).toNat)
    case atStart => exact ⟨0, Nat.zero_le _, rfl, fun j hj => absurd hj (by omega), Below.refl _ _⟩
    case round =>
      obtain ⟨k, hk, rfl, heq, hb⟩ := hrel
      have HE := Lib.hid heq
      clear heq
      by_cases hlt : k < xs.length
      · obtain ⟨b, off, rfl, hbl, hc⟩ := hA.below hb (by omega)
        have hlt' : k < ys.length := by have := HL.out; omega
        obtain ⟨b', off', rfl, hbl', hc'⟩ := hB.below hb (by omega)
        obtain ⟨hck1, hck2⟩ := hc k hlt
        obtain ⟨hck3, hck4⟩ := hc' k hlt'
        clear hc hc' hA hB
        by_cases he : gk xs k = gk ys k ∧ gt xs k = gt ys k
        · have HX := Lib.hid he
          clear he
          go_wp2
          go_still_tail 8, (by kernel_rfl)
          change wpList _ _ _ _ _ wr.drew
          go_wp2_with fail
          refine (eqItem_e _ _ _ _ _ HX.out).mono ?_
          rintro e w1 ⟨rfl, hb1⟩
          clear hck1 hck2 hck3 hck4
          go_wp2
          go_roundw
          case rel => exact ⟨k + 1, by omega, by go_num, fun j hj => by
            rcases Nat.lt_or_ge j k with h | h
            · exact HE.out j h
            · obtain rfl : j = k := by omega
              exact HX.out, hb.drew.trans (hb1.mono hb.size)⟩
          case measure => simp [intOf]; omega
        · have HX : Hid (decide (xs = ys) = false) := by
            refine decide_eq_false ?_
            intro h
            exact he (by rw [h]; exact ⟨rfl, rfl⟩)
          have HQ := Lib.hid he
          clear he
          go_wp2
          go_still_tail 8, (by kernel_rfl)
          change wpList _ _ _ _ _ wr.drew
          go_wp2_with fail
          refine (eqItem_f _ _ _ _ _ HQ.out).mono ?_
          rintro e w1 ⟨rfl, hb1⟩
          clear hck1 hck2 hck3 hck4
          go_wp2
          go_ret
          exact ⟨ret_bool HX.out.symm, hb.drew.trans (hb1.mono hb.size)⟩
      · have hfin : Hid (decide (xs = ys) = true) := decide_eq_true (eq_of_pairs HL.out fun j hj => HE.out j (by omega))
        go_wp2
        go_ret
        exact ⟨ret_bool hfin.out.symm, hb⟩
  · have hne : ((xs.length : Int) != (ys.length : Int)) = true := by simp; omega
    have HX : Hid (decide (xs = ys) = false) := by
      refine decide_eq_false ?_
      intro h
      exact hl (by rw [h])
    clear hl
    go_enter Try.func23, Try.ntmps23
    go_wp2
    go_ret
    exact ⟨ret_bool HX.out.symm, Below.refl _ _⟩

/-- Some int n is returned; if it is not negative the list is short. -/
def SizeLeft (n : Nat) (w : World) (e : Ending) (w' : World) : Prop := ∃ m : Int, (0 ≤ m → n ≤ 1048576) ∧ e = .returned (.int .i64 m) ∧ Draws w w'
theorem szItemS_calls (A : Option Addr) (c n : Nat) (w : World) (hn : n * 16 ≤ 140737488351232) :
    Calls Try.prog 19 #[.slice A n c, .int .i64 1048576] w (SizeLeft n w) := by
  by_cases h : 1048576 < n
  · go_enter Try.func19, Try.ntmps19
    go_wp2
    go_ret
    exact ⟨-1, by omega, rfl, Draws.refl _⟩
  · go_enter Try.func19, Try.ntmps19
    go_wp2
    go_ret
    exact ⟨_, fun _ => by omega, rfl, Draws.refl _⟩
end Go.Proofs.Ytnjnphoidjachaa
