/- Contract of markText: a string for a number. -/
import Derived.Test.YtadkichkfelbbaaInfo
import Derived.Test.YtadkichkfelbbaaStrPlain
import Derived.Laws.IdiomStrings
namespace Go.Proofs.Ytadkichkfelbbaa
open Go.RowKit

/-- A digit as a string; the digits of a number ahead of s; the mark of a number. -/
def dig (r : Nat) : ByteArray := ⟨[UInt8.ofNat (48 + r % 10)].toArray⟩
def digits (r : Nat) (s : ByteArray) : ByteArray := if r = 0 then s else digits (r / 10) (dig r ++ s)
termination_by r
decreasing_by omega
theorem digits_zero (s : ByteArray) : digits 0 s = s := by rw [digits]; simp
theorem digits_pos {r : Nat} (h : 0 < r) (s : ByteArray) : digits r s = digits (r / 10) (dig r ++ s) := by rw [digits, if_neg (by omega)]
def markT (k : Nat) : ByteArray := ⟨#[109]⟩ ++ digits k ⟨#[]⟩
theorem size_dig (r : Nat) (s : ByteArray) : (dig r ++ s).size = s.size + 1 := by
  rw [ByteArray.size_append]
  have : (dig r).size = 1 := rfl
  omega

theorem run_dig (r : Nat) (w : World) : (convert 47 9 (.slice (some ⟨w.heap.size, 0, none⟩) 1 1)).run Try.prog (w.alloc (.cells #[.int .u8 (48 + (r : Int) % 10)] 5)) = .ok (.string (dig r)) (w.alloc (.cells #[.int .u8 (48 + (r : Int) % 10)] 5)) := by
  refine run_convert_bytes_back (P := Try.prog) _ 47 9 5 ⟨w.heap.size, 0, none⟩ 1 [UInt8.ofNat (48 + r % 10)] Try.underlying47 Try.underlying5 Try.underlying9 (fun j hj => ?_)
  have hj0 : j = 0 := by simpa using hj
  subst hj0
  have h1 : (UInt8.ofNat (48 + r % 10)).toNat = 48 + r % 10 := by
    rw [UInt8.toNat_ofNat']
    omega
  have h2 := (Blk.new w 5 #[.int .u8 (48 + (r : Int) % 10)]).cell 0
  simp only [Addr.add, if_true]
  rw [h2]
  simp only [List.getElem_cons_zero, h1]
  simp

set_option maxHeartbeats 800000 in
theorem markText_calls (k : Nat) (w : World) (hk : 1 ≤ k) (hk2 : k ≤ 1048577) :
    Calls Try.prog 30 #[.int .i64 k] w fun e w' => e = .returned (.string (markT k)) ∧ Below w.heap.size w w' := by
  have hk0 : ¬ (k : Int) ≤ 0 := by omega
  go_enter Try.func30, Try.ntmps30
  go_wp2
  go_loopw [0, 3] (fun i o wr => ∃ (r : Nat) (s : ByteArray), r + s.size ≤ k ∧ i = .int .i64 r ∧ o = .string s ∧ digits r s = digits k ⟨#[]⟩ ∧ Below w.heap.size w wr) (fun i _ _ => (intOf i).toNat)
  case atStart => exact ⟨k, ⟨#[]⟩, Nat.le_refl k, rfl, rfl, rfl, Below.refl _ _⟩
  case round =>
    obtain ⟨r, s, hr, rfl, rfl, hdg, hb⟩ := hrel
    by_cases hlt : 0 < r
    · have HD := Lib.hid (show digits (r / 10) (dig r ++ s) = digits k ⟨#[]⟩ by rw [← digits_pos hlt]; exact hdg)
      have hsz := size_dig r s
      have hd1 : (dig r).size = 1 := rfl
      have hs1 : s.size ≤ 1048577 := by omega
      have hcv := run_dig r wr
      have hb2 := hb.alloc hb.size (.cells #[.int .u8 (48 + (r : Int) % 10)] 5)
      clear hdg
      go_wp2
      go_roundw
      case rel => exact ⟨r / 10, dig r ++ s, by omega, by go_num, rfl, HD.out, hb2⟩
      case measure => simp [intOf]; omega
    · obtain rfl : r = 0 := by omega
      have hs1 : s.size ≤ 1048577 := by omega
      have HD := Lib.hid (show s = digits k ⟨#[]⟩ by rw [← hdg, digits_zero])
      clear hdg
      go_wp2
      go_ret
      exact ⟨ret_str (by unfold markT; rw [HD.out]), hb⟩
end Go.Proofs.Ytadkichkfelbbaa
