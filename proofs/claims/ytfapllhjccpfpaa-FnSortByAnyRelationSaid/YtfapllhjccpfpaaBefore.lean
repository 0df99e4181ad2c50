/- Contracts of before and sign: the relation, and the comparison by it. -/
import Derived.Test.YtfapllhjccpfpaaOrder
import Derived.Test.YtfapllhjccpfpaaInfo
import Derived.Sort.Grow
namespace Go.Proofs.Ytfapllhjccpfpaa
open Go.RowKit

theorem mul_bound {len a sz : Int} (ha : 0 < a) (_hl : 0 ≤ len) (h : ¬ len / a < sz) : a * sz ≤ len := by
  have h1 : sz ≤ len / a := by omega
  have h2 : a * sz ≤ a * (len / a) := Int.mul_le_mul_of_nonneg_left h1 (by omega)
  have h3 : a * (len / a) ≤ len := Int.mul_ediv_self_le (by omega)
  omega
theorem mul_beyond {len a sz : Int} (ha : 0 < a) (h : len / a < sz) : len < a * sz := by
  have h1 : len / a + 1 ≤ sz := by omega
  have h2 : a * (len / a + 1) ≤ a * sz := Int.mul_le_mul_of_nonneg_left h1 (by omega)
  have h3 : len < a * (len / a) + a := Int.lt_mul_ediv_self_add ha
  rw [Int.mul_add, Int.mul_one] at h2
  omega

set_option maxHeartbeats 3200000 in
theorem before_calls (sz : Int) (A : Option Addr) (c : Nat) (bs : List Bool) (a b : Int) (w : World) (hB : Bools w A bs) (hn : bs.length ≤ 140737488351232) (hsz : sz < 9223372036854775808) :
    Calls Try.prog 25 #[.agg #[.int .i64 sz, .slice A bs.length c], .int .i64 a, .int .i64 b] w fun e w' => e = .returned (.bool (rel sz bs a b)) ∧ ∃ q, w' = (w.alloc (.cells #[.int .i64 sz, .slice A bs.length c] 28)).drewN q := by
  have mixed : Try.prog.follows .mixedOrders = true := by kernel_rfl
  by_cases c1 : a < 0
  · have HR := Lib.hid (rel_out (sz := sz) (bs := bs) (a := a) (b := b) (by omega))
    have b1 : decide (a < 0) = true := decide_eq_true c1
    go_enter Try.func25, Try.ntmps25
    go_wp2_with fail
    go_big_quiet (fail)
    go_wp2
    go_ret
    exact ⟨ret_bool HR.out.symm, _, rfl⟩
  have b1 : decide (a < 0) = false := decide_eq_false c1
  by_cases c2 : b < 0
  · have HR := Lib.hid (rel_out (sz := sz) (bs := bs) (a := a) (b := b) (by omega))
    have b2 : decide (b < 0) = true := decide_eq_true c2
    clear c1
    go_enter Try.func25, Try.ntmps25
    go_wp2_with fail
    go_big_quiet (fail)
    go_wp2
    go_ret
    exact ⟨ret_bool HR.out.symm, _, rfl⟩
  have b2 : decide (b < 0) = false := decide_eq_false c2
  by_cases c3 : sz ≤ a
  · have HR := Lib.hid (rel_out (sz := sz) (bs := bs) (a := a) (b := b) (by omega))
    have b3 : decide (sz ≤ a) = true := decide_eq_true c3
    clear c1 c2
    go_enter Try.func25, Try.ntmps25
    go_wp2_with fail
    go_big_quiet (fail)
    go_wp2
    go_ret
    exact ⟨ret_bool HR.out.symm, _, rfl⟩
  have b3 : decide (sz ≤ a) = false := decide_eq_false c3
  by_cases c4 : sz ≤ b
  · have HR := Lib.hid (rel_out (sz := sz) (bs := bs) (a := a) (b := b) (by omega))
    have b4 : decide (sz ≤ b) = true := decide_eq_true c4
    clear c1 c2 c3
    go_enter Try.func25, Try.ntmps25
    go_wp2_with fail
    go_big_quiet (fail)
    go_wp2
    go_ret
    exact ⟨ret_bool HR.out.symm, _, rfl⟩
  have b4 : decide (sz ≤ b) = false := decide_eq_false c4
  have hin : 0 ≤ a ∧ 0 ≤ b ∧ a < sz ∧ b < sz := by omega
  obtain ⟨p, hp⟩ : ∃ p, a * sz = p := ⟨_, rfl⟩
  by_cases c5 : a = 0
  · subst c5
    obtain rfl : p = 0 := by rw [← hp]; simp
    clear hp
    by_cases c6 : (bs.length : Int) ≤ b
    · have HR := Lib.hid (rel_far (sz := sz) (bs := bs) (a := 0) (b := b) (by omega))
      have b6 : decide ((bs.length : Int) ≤ b) = true := decide_eq_true c6
      have wb : IntKind.i64.wrap b = b := by rw [IntKind.wrap_i64]; omega
      clear c1 c2 c3 c4
      go_enter Try.func25, Try.ntmps25
      go_wp2_with fail
      go_big_quiet (fail)
      go_wp2
      go_ret
      exact ⟨ret_bool HR.out.symm, _, rfl⟩
    · obtain ⟨i, rfl⟩ : ∃ i : Nat, b = i := ⟨b.toNat, by omega⟩
      have HR := Lib.hid (show rel sz bs 0 (i : Int) = gb bs i by rw [rel_in hin]; congr 1; omega)
      have b6 : decide ((bs.length : Int) ≤ (i : Int)) = false := decide_eq_false c6
      have hB' := hB.below ((Below.refl w.heap.size w).alloc (Nat.le_refl _) (.cells #[.int .i64 sz, .slice A bs.length c] 28))
      obtain ⟨blk, off, rfl, hbl, hc⟩ := hB' (by omega)
      have hck := hc i (by omega)
      have hil : (i : Int) < (bs.length : Int) := by omega
      have wb : IntKind.i64.wrap (i : Int) = (i : Int) := by rw [IntKind.wrap_i64]; omega
      clear c1 c2 c3 c4 hc hB' hB hbl
      go_enter Try.func25, Try.ntmps25
      go_wp2_with fail
      go_big_quiet (fail)
      go_wp2
      go_ret
      exact ⟨ret_bool HR.out.symm, _, rfl⟩
  · have c5' : 0 < a := by omega
    have b5 : decide (0 < a) = true := decide_eq_true c5'
    have a0 : (a == 0) = false := beq_eq_false_iff_ne.2 c5
    have hq : (bs.length : Int).tdiv a = (bs.length : Int) / a := Int.tdiv_eq_ediv_of_nonneg (by omega)
    obtain ⟨d, hd⟩ : ∃ d, (bs.length : Int) / a = d := ⟨_, rfl⟩
    have hd1 : d ≤ (bs.length : Int) := by rw [← hd]; exact Int.ediv_le_self _ (by omega)
    have hd0 : 0 ≤ d := by rw [← hd]; exact Int.ediv_nonneg (by omega) (by omega)
    have wd : IntKind.i64.wrap d = d := by rw [IntKind.wrap_i64]; omega
    rw [hd] at hq
    by_cases c7 : d < sz
    · have HR := Lib.hid (rel_far (sz := sz) (bs := bs) (a := a) (b := b) (by have := mul_beyond (len := bs.length) c5' (by rw [hd]; exact c7); omega))
      have b7 : decide (d < sz) = true := decide_eq_true c7
      clear c1 c2 c3 c4 hp
      go_enter Try.func25, Try.ntmps25
      go_wp2_with fail
      go_big_quiet (fail)
      go_wp2
      go_ret
      exact ⟨ret_bool HR.out.symm, _, rfl⟩
    · have hpl : p ≤ (bs.length : Int) := by rw [← hp]; exact mul_bound c5' (by omega) (by rw [hd]; exact c7)
      have hp0 : 0 ≤ p := by rw [← hp]; exact Int.mul_nonneg (by omega) (by omega)
      have b7 : decide (d < sz) = false := decide_eq_false c7
      have hbl : b < (bs.length : Int) := by omega
      have wp : IntKind.i64.wrap p = p := by rw [IntKind.wrap_i64]; omega
      by_cases c6 : (bs.length : Int) ≤ p + b
      · have HR := Lib.hid (rel_far (sz := sz) (bs := bs) (a := a) (b := b) (by rw [hp]; exact c6))
        have b6 : decide ((bs.length : Int) ≤ p + b) = true := decide_eq_true c6
        have wb : IntKind.i64.wrap (p + b) = p + b := by rw [IntKind.wrap_i64]; omega
        clear c1 c2 c3 c4
        go_enter Try.func25, Try.ntmps25
        go_wp2_with fail
        go_big_quiet (fail)
        go_wp2
        go_ret
        exact ⟨ret_bool HR.out.symm, _, rfl⟩
      · obtain ⟨i, hi⟩ : ∃ i : Nat, p + b = (i : Int) := ⟨(p + b).toNat, by omega⟩
        have HR := Lib.hid (show rel sz bs a b = gb bs i by rw [rel_in hin]; congr 1; omega)
        rw [hi] at c6
        have b6 : decide ((bs.length : Int) ≤ (i : Int)) = false := decide_eq_false c6
        have hB' := hB.below ((Below.refl w.heap.size w).alloc (Nat.le_refl _) (.cells #[.int .i64 sz, .slice A bs.length c] 28))
        obtain ⟨blk, off, rfl, hbl', hc⟩ := hB' (by omega)
        have hck := hc i (by omega)
        have hil : (i : Int) < (bs.length : Int) := by omega
        have wb : IntKind.i64.wrap (i : Int) = (i : Int) := by rw [IntKind.wrap_i64]; omega
        clear c1 c2 c3 c4 hc hB' hB hbl hbl'
        go_enter Try.func25, Try.ntmps25
        go_wp2_with fail
        go_big_quiet (fail)
        go_wp2
        go_ret
        exact ⟨ret_bool HR.out.symm, _, rfl⟩
end Go.Proofs.Ytfapllhjccpfpaa
