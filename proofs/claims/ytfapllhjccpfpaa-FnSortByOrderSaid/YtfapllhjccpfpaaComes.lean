/- Contracts of the laws' and the reference's comes: the relation. -/
import Derived.Test.YtfapllhjccpfpaaSign
namespace Go.Proofs.Ytfapllhjccpfpaa
open Go.RowKit

set_option maxHeartbeats 3200000 in
theorem comes_calls (sz : Int) (A : Option Addr) (c : Nat) (bs : List Bool) (a b : Int) (w : World) (hB : Bools w A bs) (hn : bs.length ≤ 140737488351232) (hsz : sz < 9223372036854775808) :
    Calls Try.prog 20 #[.agg #[.int .i64 sz, .slice A bs.length c], .int .i64 a, .int .i64 b] w fun e w' => e = .returned (.bool (rel sz bs a b)) ∧ Gr w w' := by
  have hG : Gr w (w.alloc (.cells #[.int .i64 sz, .slice A bs.length c] 25)) := (Gr.refl w).alloc _
  have hB' := hB.below hG.below
  obtain ⟨k0, k1⟩ := (Blk.new w 25 #[.int .i64 sz, .slice A bs.length c]).pair
  by_cases c1 : a < 0
  · have HR := Lib.hid (rel_out (sz := sz) (bs := bs) (a := a) (b := b) (by omega))
    clear k0 k1
    go_enter Try.func20, Try.ntmps20
    go_wp2
    go_ret
    exact ⟨ret_bool HR.out.symm, hG⟩
  by_cases c2 : b < 0
  · have HR := Lib.hid (rel_out (sz := sz) (bs := bs) (a := a) (b := b) (by omega))
    clear k0 k1
    go_enter Try.func20, Try.ntmps20
    go_wp2
    go_ret
    exact ⟨ret_bool HR.out.symm, hG⟩
  by_cases c3 : sz ≤ a
  · have HR := Lib.hid (rel_out (sz := sz) (bs := bs) (a := a) (b := b) (by omega))
    clear k0 k1
    go_enter Try.func20, Try.ntmps20
    go_wp2
    go_ret
    exact ⟨ret_bool HR.out.symm, hG⟩
  by_cases c4 : sz ≤ b
  · have HR := Lib.hid (rel_out (sz := sz) (bs := bs) (a := a) (b := b) (by omega))
    clear k0 k1
    go_enter Try.func20, Try.ntmps20
    go_wp2
    go_ret
    exact ⟨ret_bool HR.out.symm, hG⟩
  have hin : 0 ≤ a ∧ 0 ≤ b ∧ a < sz ∧ b < sz := by omega
  obtain ⟨n, rfl⟩ : ∃ n : Nat, a = n := ⟨a.toNat, by omega⟩
  have HIN := Lib.hid hin
  have hls : -9223372036854775808 < (bs.length : Int) - sz := by omega
  have hlw : IntKind.i64.wrap ((bs.length : Int) - sz) = (bs.length : Int) - sz := by rw [IntKind.wrap_i64]; omega
  obtain ⟨D, hD⟩ : ∃ D, (bs.length : Int) - sz = D := ⟨_, rfl⟩
  rw [hD] at hlw
  have HD := Lib.hid hD
  have hszp : 0 < sz := by omega
  have hB2 : 0 ≤ b := by omega
  go_enter Try.func20, Try.ntmps20
  go_wp2
  go_loopg [7, 8] n (fun kx s7 s8 wr => ∃ (k : Nat) (at_ : Int), s7 = .int .i64 at_ ∧ s8 = .int .i64 k ∧ k ≤ n ∧ n - k ≤ kx ∧ 0 ≤ at_ ∧ at_ < 9223372036854775808 ∧ Aside (at_ = (k : Int) * sz + b) ∧ w.alloc (.cells #[.int .i64 sz, .slice A bs.length c] 25) = wr)
  case atStart => exact ⟨0, b, rfl, rfl, Nat.zero_le _, Nat.le_refl _, hB2, by omega, (by simp : b = ((0 : Nat) : Int) * sz + b), rfl⟩
  case round =>
    obtain ⟨k, at_, rfl, rfl, hk, hkx, h0, h1, J, rfl⟩ := hrel
    by_cases hlt : k < n
    · have hltz : (k : Int) < (n : Int) := by omega
      by_cases hge : D ≤ at_
      · have HR : Hid (rel sz bs (n : Int) b = false) := by
          refine rel_far ?_
          have h2 : ((k : Int) + 1) * sz ≤ (n : Int) * sz := Int.mul_le_mul_of_nonneg_right (by omega) (by omega)
          rw [Int.add_mul, Int.one_mul] at h2
          have h3 := J.out
          have h4 := HD.out
          omega
        go_wp2
        go_ret
        exact ⟨ret_bool HR.out.symm, hG⟩
      · have hadd : at_ + sz < (bs.length : Int) := by have := HD.out; omega
        have hwa : IntKind.i64.wrap (at_ + sz) = at_ + sz := by rw [IntKind.wrap_i64]; omega
        go_wp2
        go_roundg (n - (k + 1))
        case measure => omega
        case rel => exact ⟨k + 1, at_ + sz, rfl, by simp, by omega, Nat.le_refl _, by omega, by omega, (by have := J.out; rw [this]; simp only [Int.natCast_add, Int.add_mul]; omega : at_ + sz = ((k + 1 : Nat) : Int) * sz + b), rfl⟩
    · obtain rfl : k = n := by omega
      have hltz : ¬ (k : Int) < (k : Int) := by omega
      obtain ⟨i, rfl⟩ : ∃ i : Nat, at_ = i := ⟨at_.toNat, by omega⟩
      have HR := Lib.hid (show rel sz bs (k : Int) b = gb bs i by rw [rel_in HIN.out, ← J.out]; rfl)
      by_cases hil : i < bs.length
      · have hilz : (i : Int) < (bs.length : Int) := by omega
        obtain ⟨blk, off, rfl, hbl, hc⟩ := hB' (by omega)
        have hck := hc i hil
        clear hc hB'
        go_wp2
        go_ret
        exact ⟨ret_bool HR.out.symm, hG⟩
      · have hilz : ¬ (i : Int) < (bs.length : Int) := by omega
        have HF := Lib.hid (show rel sz bs (k : Int) b = false by rw [HR.out]; exact gb_out (by omega))
        go_wp2
        go_ret
        exact ⟨ret_bool HF.out.symm, hG⟩

set_option maxHeartbeats 3200000 in
theorem specComes_calls (sz : Int) (A : Option Addr) (c : Nat) (bs : List Bool) (a b : Int) (w : World) (hB : Bools w A bs) (hn : bs.length ≤ 140737488351232) (hsz : sz < 9223372036854775808) :
    Calls Try.prog 21 #[.agg #[.int .i64 sz, .slice A bs.length c], .int .i64 a, .int .i64 b] w fun e w' => e = .returned (.bool (rel sz bs a b)) ∧ Gr w w' := by
  have hG : Gr w (w.alloc (.cells #[.int .i64 sz, .slice A bs.length c] 28)) := (Gr.refl w).alloc _
  have hB' := hB.below hG.below
  obtain ⟨k0, k1⟩ := (Blk.new w 28 #[.int .i64 sz, .slice A bs.length c]).pair
  by_cases c1 : a < 0
  · have HR := Lib.hid (rel_out (sz := sz) (bs := bs) (a := a) (b := b) (by omega))
    clear k0 k1
    go_enter Try.func21, Try.ntmps21
    go_wp2
    go_ret
    exact ⟨ret_bool HR.out.symm, hG⟩
  by_cases c2 : b < 0
  · have HR := Lib.hid (rel_out (sz := sz) (bs := bs) (a := a) (b := b) (by omega))
    clear k0 k1
    go_enter Try.func21, Try.ntmps21
    go_wp2
    go_ret
    exact ⟨ret_bool HR.out.symm, hG⟩
  by_cases c3 : sz ≤ a
  · have HR := Lib.hid (rel_out (sz := sz) (bs := bs) (a := a) (b := b) (by omega))
    clear k0 k1
    go_enter Try.func21, Try.ntmps21
    go_wp2
    go_ret
    exact ⟨ret_bool HR.out.symm, hG⟩
  by_cases c4 : sz ≤ b
  · have HR := Lib.hid (rel_out (sz := sz) (bs := bs) (a := a) (b := b) (by omega))
    clear k0 k1
    go_enter Try.func21, Try.ntmps21
    go_wp2
    go_ret
    exact ⟨ret_bool HR.out.symm, hG⟩
  have hin : 0 ≤ a ∧ 0 ≤ b ∧ a < sz ∧ b < sz := by omega
  obtain ⟨n, rfl⟩ : ∃ n : Nat, a = n := ⟨a.toNat, by omega⟩
  have HIN := Lib.hid hin
  have hls : -9223372036854775808 < (bs.length : Int) - sz := by omega
  have hlw : IntKind.i64.wrap ((bs.length : Int) - sz) = (bs.length : Int) - sz := by rw [IntKind.wrap_i64]; omega
  obtain ⟨D, hD⟩ : ∃ D, (bs.length : Int) - sz = D := ⟨_, rfl⟩
  rw [hD] at hlw
  have HD := Lib.hid hD
  have hszp : 0 < sz := by omega
  have hB2 : 0 ≤ b := by omega
  go_enter Try.func21, Try.ntmps21
  go_wp2
  go_loopg [7, 8] n (fun kx s7 s8 wr => ∃ (k : Nat) (at_ : Int), s7 = .int .i64 at_ ∧ s8 = .int .i64 k ∧ k ≤ n ∧ n - k ≤ kx ∧ 0 ≤ at_ ∧ at_ < 9223372036854775808 ∧ Aside (at_ = (k : Int) * sz + b) ∧ w.alloc (.cells #[.int .i64 sz, .slice A bs.length c] 28) = wr)
  case atStart => exact ⟨0, b, rfl, rfl, Nat.zero_le _, Nat.le_refl _, hB2, by omega, (by simp : b = ((0 : Nat) : Int) * sz + b), rfl⟩
  case round =>
    obtain ⟨k, at_, rfl, rfl, hk, hkx, h0, h1, J, rfl⟩ := hrel
    by_cases hlt : k < n
    · have hltz : (k : Int) < (n : Int) := by omega
      by_cases hge : D ≤ at_
      · have HR : Hid (rel sz bs (n : Int) b = false) := by
          refine rel_far ?_
          have h2 : ((k : Int) + 1) * sz ≤ (n : Int) * sz := Int.mul_le_mul_of_nonneg_right (by omega) (by omega)
          rw [Int.add_mul, Int.one_mul] at h2
          have h3 := J.out
          have h4 := HD.out
          omega
        go_wp2
        go_ret
        exact ⟨ret_bool HR.out.symm, hG⟩
      · have hadd : at_ + sz < (bs.length : Int) := by have := HD.out; omega
        have hwa : IntKind.i64.wrap (at_ + sz) = at_ + sz := by rw [IntKind.wrap_i64]; omega
        go_wp2
        go_roundg (n - (k + 1))
        case measure => omega
        case rel => exact ⟨k + 1, at_ + sz, rfl, by simp, by omega, Nat.le_refl _, by omega, by omega, (by have := J.out; rw [this]; simp only [Int.natCast_add, Int.add_mul]; omega : at_ + sz = ((k + 1 : Nat) : Int) * sz + b), rfl⟩
    · obtain rfl : k = n := by omega
      have hltz : ¬ (k : Int) < (k : Int) := by omega
      obtain ⟨i, rfl⟩ : ∃ i : Nat, at_ = i := ⟨at_.toNat, by omega⟩
      have HR := Lib.hid (show rel sz bs (k : Int) b = gb bs i by rw [rel_in HIN.out, ← J.out]; rfl)
      by_cases hil : i < bs.length
      · have hilz : (i : Int) < (bs.length : Int) := by omega
        obtain ⟨blk, off, rfl, hbl, hc⟩ := hB' (by omega)
        have hck := hc i hil
        clear hc hB'
        go_wp2
        go_ret
        exact ⟨ret_bool HR.out.symm, hG⟩
      · have hilz : ¬ (i : Int) < (bs.length : Int) := by omega
        have HF := Lib.hid (show rel sz bs (k : Int) b = false by rw [HR.out]; exact gb_out (by omega))
        go_wp2
        go_ret
        exact ⟨ret_bool HF.out.symm, hG⟩
end Go.Proofs.Ytfapllhjccpfpaa
