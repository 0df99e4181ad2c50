/- Contracts of slices.Max at string and of MaxStrings, which recovers its panic. -/
import Derived.Test.YtadkichkfelbbaaInfo
import Derived.Test.YtadkichkfelbbaaMaxStrPlain
import Derived.Defers
import Derived.Recover
namespace Go.Proofs.Ytadkichkfelbbaa
open Go.RowKit

theorem run_max_str (x y : ByteArray) (w : World) : (Builtin.max_ #[9, 9] 9 #[.string x, .string y]).run Try.prog w = .ok (.string (if (!Op.bytesLess x.toList y.toList) = true then x else y)) w := rfl
theorem run_max_str_t (x y : ByteArray) (h : Op.bytesLess x.toList y.toList = true) (w : World) : (Builtin.max_ #[9, 9] 9 #[.string x, .string y]).run Try.prog w = .ok (.string y) w := by
  rw [run_max_str, h]; rfl
theorem run_max_str_f (x y : ByteArray) (h : Op.bytesLess x.toList y.toList = false) (w : World) : (Builtin.max_ #[9, 9] 9 #[.string x, .string y]).run Try.prog w = .ok (.string x) w := by
  rw [run_max_str, h]; rfl

set_option maxHeartbeats 400000 in
theorem slicesMaxStr_calls (A : Option Addr) (c : Nat) (zs : List ByteArray) (w : World) (hA : Strs w A zs) (hn : zs.length * 16 ≤ 140737488351232) (h0 : 0 < zs.length) :
    Calls Try.prog 36 #[.slice A zs.length c] w fun e w' => e = .returned (.string (maxS zs)) ∧ Draws w w' := by
  obtain ⟨b, off, rfl, hbl, hc⟩ := hA h0
  have hc0 := hc 0 h0
  simp only [Nat.add_zero] at hc0
  go_enter Try.func36, Try.ntmps36
  go_wp2
  go_loopw [3, 4] (fun m i wr => ∃ (k : Nat) (x : ByteArray), k ≤ zs.length ∧ m = .string x ∧ i = .int .i64 k ∧ MaxToS zs k x ∧ Draws w wr) (fun _ i _ => zs.length - (intOf i).toNat)
  case atStart => exact ⟨1, _, by omega, rfl, rfl, MaxToS.start zs, Draws.refl _⟩
  case round =>
    obtain ⟨k, x, hk, rfl, rfl, hm, hd⟩ := hrel
    by_cases hlt : k < zs.length
    · have hck := (hd.below (B := w.heap.size)).cell (p := ⟨b, off + k, none⟩) hbl
      rw [hc k hlt] at hck
      clear hc hc0
      by_cases hx : sl x (gs zs k) = true
      · have HM := Lib.hid (hm.more hx)
        have hq := run_max_str_t x (gs zs k) hx
        clear hx
        go_wp2
        go_roundw
        case rel => exact ⟨k + 1, _, by omega, rfl, by go_num, HM.out, hd⟩
        case measure => simp [intOf]; omega
      · have HM := Lib.hid (hm.keep (Bool.eq_false_iff.2 hx))
        have hq := run_max_str_f x (gs zs k) (Bool.eq_false_iff.2 hx)
        clear hx
        go_wp2
        go_roundw
        case rel => exact ⟨k + 1, _, by omega, rfl, by go_num, HM.out, hd⟩
        case measure => simp [intOf]; omega
    · have HM := Lib.hid (hm.done (by omega))
      clear hc
      go_wp2
      go_ret
      exact ⟨ret_str HM.out, hd⟩

theorem catchMaxStrings_panicking (p q : Addr) (x : ByteArray) (y : Bool) (u : TypeId) (pv : Value) (older : List PanicEntry) (w : World) (hc : w.cell? p = some (.string x)) (hz : w.frozen? p = false) (hc' : (w.setCell p (.string ⟨#[]⟩)).cell? q = some (.bool y)) (hz' : w.frozen? q = false) :
    CallsD Try.prog 35 #[.pointer (some p), .pointer (some q)] (.panicking ({ v := .iface u pv, recovered := false } :: older)) w fun e u' w' =>
      e = .returned (.tuple #[]) ∧ u' = .panicking ({ v := .iface u pv, recovered := true } :: older) ∧ w' = (w.setCell p (.string ⟨#[]⟩)).setCell q (.bool false) := by
  refine callsD_of_wpS Try.func35 rfl fun c₀ cs hu => ?_
  apply wpS_seq
  apply wpS_region
  simp [wpOpsS, go_sem, recoverD, hu, Try.ntmps35, Exit.thenS]
  refine wpS_cond (t := true) (by simp [Act.eval, Array.replicate]) ?_
  simp only [if_true]
  apply wpS_region
  simp [wpOpsS, go_sem, hc, hz, hc', hz', bodyPostS, results, Try.results35]

theorem catchMaxStrings_idle (p q : Addr) (w : World) :
    CallsD Try.prog 35 #[.pointer (some p), .pointer (some q)] .returning w fun e u' w' => e = .returned (.tuple #[]) ∧ u' = .returning ∧ w' = w := by
  refine callsD_of_wpS Try.func35 rfl fun c₀ cs hu => ?_
  apply wpS_seq
  apply wpS_region
  simp [wpOpsS, go_sem, recoverD, hu, Try.ntmps35, Exit.thenS]
  refine wpS_cond (t := false) (by simp [Act.eval, Array.replicate]) ?_
  simp only [Bool.false_eq_true, if_false]
  refine wpS_of_wp (wp_skip ?_)
  cases c₀
  simp_all [bodyPostS, results, Try.results35]

theorem slicesMaxStr_none (A : Option Addr) (c : Nat) (w : World) : Calls Try.prog 36 #[.slice A 0 c] w (PanicsWith 9 w) := by
  go_enter Try.func36, Try.ntmps36
  go_wp2
  exact ⟨rfl, _, rfl, rfl⟩

set_option maxHeartbeats 400000 in
theorem maxStrings_some (A : Option Addr) (c : Nat) (zs : List ByteArray) (w : World) (hA : Strs w A zs) (hn : zs.length * 16 ≤ 140737488351232) (h0 : 0 < zs.length) :
    Calls Try.prog 18 #[.slice A zs.length c] w fun e w' => e = .returned (.tuple #[.string (maxS zs), .bool true]) ∧ Below w.heap.size w w' := by
  have hmf : ∀ (fn : Fn) (first cap : Array Value) (w : World), (Instr.makeFunc fn first cap).run Try.prog w = .ok (.func fn first cap) w := fun _ _ _ _ => rfl
  go_enter_defers Try.func18, Try.ntmps18
  go_wp2_with fail
  refine (slicesMaxStr_calls _ _ _ _ (hA.below (((Below.refl _ _).alloc (Nat.le_refl _) _).alloc (by simp) _)) hn h0).mono ?_
  rintro e w1 ⟨rfl, n, rfl⟩
  go_wp2_with fail
  refine leaves_cons (f := 35) (args := #[.pointer (some ⟨w.heap.size, 0, none⟩), .pointer (some ⟨w.heap.size + 1, 0, none⟩)]) (by simp) (by simp [go_sem]) ?_
  refine (catchMaxStrings_idle ⟨w.heap.size, 0, none⟩ ⟨w.heap.size + 1, 0, none⟩ _).mono ?_
  rintro e u' w'' ⟨rfl, rfl, rfl⟩
  simp [Leaves, settle, results, Try.results18, go_sem]
  exact (below_drewN (((Below.refl _ _).alloc (Nat.le_refl _) _).alloc (by simp) _) n).setCell (p := ⟨w.heap.size, 0, none⟩) (by simp) _ |>.setCell (p := ⟨w.heap.size + 1, 0, none⟩) (by simp) _

set_option maxHeartbeats 400000 in
theorem maxStrings_none (A : Option Addr) (c : Nat) (w : World) :
    Calls Try.prog 18 #[.slice A 0 c] w fun e w' => e = .returned (.tuple #[.string ⟨#[]⟩, .bool false]) ∧ Below w.heap.size w w' := by
  have hmf : ∀ (fn : Fn) (first cap : Array Value) (w : World), (Instr.makeFunc fn first cap).run Try.prog w = .ok (.func fn first cap) w := fun _ _ _ _ => rfl
  go_enter_defers Try.func18, Try.ntmps18
  go_wp2_with fail
  refine (slicesMaxStr_none _ _ _).mono ?_
  rintro e w1 ⟨pv, rfl, rfl⟩
  go_wp2_with fail
  refine leaves_cons (f := 35) (args := #[.pointer (some ⟨w.heap.size, 0, none⟩), .pointer (some ⟨w.heap.size + 1, 0, none⟩)]) (by simp) (by simp [go_sem]) ?_
  refine (catchMaxStrings_panicking ⟨w.heap.size, 0, none⟩ ⟨w.heap.size + 1, 0, none⟩ ⟨#[]⟩ false 9 pv [] _ ?_ ?_ ?_ ?_).mono ?_
  · simp [go_sem]
  · simp [go_sem]
  · simp [go_sem]
  · simp [go_sem]
  rintro e u' w'' ⟨rfl, rfl, rfl⟩
  simp [Leaves, settle, results, Try.results18, go_sem]
  exact ((Below.refl _ _).alloc (Nat.le_refl _) _).alloc (by simp) _
end Go.Proofs.Ytadkichkfelbbaa
