/- Contract of the laws' inOrder at a list in order. -/
import Derived.Test.YtfapllhjccpfpaaComes
import Derived.Test.YtfapllhjccpfpaaStabPlain
namespace Go.Proofs.Ytfapllhjccpfpaa
open Go.RowKit

theorem srt_gi {lt : Int → Int → Bool} {ys : List Int} (h : Srt lt ys) {i j : Nat} (hij : i < j) (hj : j < ys.length) : lt (gi ys j) (gi ys i) = false := by
  rw [gi_eq hj, gi_eq (by omega)]
  exact List.pairwise_iff_getElem.1 h i j (by omega) hj hij

set_option maxHeartbeats 3200000 in
set_option maxRecDepth 1000000 in
theorem inOrder_true (A B : Option Addr) (c d : Nat) (ys : List Int) (sz : Int) (bs : List Bool) (w : World) (hA : Ints w A ys) (hn : ys.length * 8 ≤ 140737488351232) (hB : Bools w B bs) (hbn : bs.length ≤ 140737488351232) (hsz : sz < 9223372036854775808) (hs : Srt (rel sz bs) ys) :
    Calls Try.prog 14 #[.agg #[.int .i64 sz, .slice B bs.length d], .slice A ys.length c] w fun e w' => e = .returned (.bool true) ∧ Gr w w' := by
  have mixed : Try.prog.follows .mixedOrders = true := by kernel_rfl
  have ec : ∀ args w, (callFunc 20 args).run Try.prog w = .ok (.enter 20 args) w := enters_of Try.func20 (by kernel_rfl) rfl
  obtain ⟨w0, hw0⟩ : ∃ w0, w0 = w.alloc (.cells #[.int .i64 sz, .slice B bs.length d] 25) := ⟨_, rfl⟩
  have hG0 : Gr w w0 := by rw [hw0]; exact (Gr.refl w).alloc _
  have hK0 : Blk w0 w.heap.size 25 #[.int .i64 sz, .slice B bs.length d] := by rw [hw0]; exact Blk.new _ _ _
  have hA0 := hA.below hG0.below
  have hB0 := hB.below hG0.below
  generalize hg : w.heap.size = g0 at hK0
  have HC := Lib.hid (fun (W : World) (h : Gr w0 W) (x y : Int) => comes_calls sz B d bs x y W (hB0.below h.below) hbn hsz)
  have HBX := Lib.hid (fun (W : World) (h : Gr w0 W) => (hK0.below h.below hK0.lt).pair)
  have HA := Lib.hid (fun (W : World) (h : Gr w0 W) => hA0.below h.below)
  have HS := Lib.hid hs
  suffices hs : Calls Try.prog 14 #[.agg #[.int .i64 sz, .slice B bs.length d], .slice A ys.length c] w fun e w' => e = .returned (.bool true) ∧ Gr w0 w' from
    hs.mono fun e w' ⟨h2, h3⟩ => ⟨h2, hG0.trans h3⟩
  clear hG0 hK0 hA0 hB0 hA hB hs
  have hGr : Gr w0 w0 := Gr.refl w0
  go_enter Try.func14, Try.ntmps14
  go_wp2_with fail
  rw [← hw0]
  clear hw0 hg
  go_loopg [9] ys.length (fun kx s9 wr => ∃ j : Nat, s9 = .int .i64 j ∧ j ≤ ys.length ∧ ys.length - j ≤ kx ∧ Gr w0 wr)
  case atStart => exact ⟨0, rfl, Nat.zero_le _, Nat.le_refl _, hGr⟩
  case round =>
    clear hGr
    obtain ⟨j, rfl, hj, hkx, hG1⟩ := hrel
    by_cases hlt : j < ys.length
    · have hltz : (j : Int) < (ys.length : Int) := by omega
      have hkx1 := Lib.hid hkx
      clear hkx
      generalize wr = wA at hG1 ⊢
      go_wp2
      go_loopg [6] j (fun kx s6 wr => ∃ i : Nat, s6 = .int .i64 i ∧ i ≤ j ∧ j - i ≤ kx ∧ Gr w0 wr)
      case atStart => exact ⟨0, rfl, Nat.zero_le _, Nat.le_refl _, hG1⟩
      case round =>
        clear hG1
        obtain ⟨i, rfl, hi, hkx, hG2⟩ := hrel
        by_cases hlt2 : i < j
        · have hltz2 : (i : Int) < (j : Int) := by omega
          have hltz3 : (i : Int) < (ys.length : Int) := by omega
          have grw : ∀ q os, Gr w0 (Sort.grow (wr.drewN q) os) := fun q os => hG2.trans ⟨q, os, rfl⟩
          obtain ⟨blk, off, rfl, hbl, hcs⟩ := HA.out _ hG2 (by omega)
          have lj : ∀ q os, (Sort.grow (wr.drewN q) os).cell? ⟨blk, off + j, none⟩ = some (.int .i64 (gi ys j)) := fun q os => by
            obtain ⟨blk', off', hbo, _, hcs'⟩ := HA.out _ (grw q os) (by omega)
            cases hbo
            exact hcs' j hlt
          have li : ∀ q os, (Sort.grow (wr.drewN q) os).cell? ⟨blk, off + i, none⟩ = some (.int .i64 (gi ys i)) := fun q os => by
            obtain ⟨blk', off', hbo, _, hcs'⟩ := HA.out _ (grw q os) (by omega)
            cases hbo
            exact hcs' i (by omega)
          have b0 := fun q os => (HBX.out _ (grw q os)).1
          have b1 := fun q os => (HBX.out _ (grw q os)).2
          have hc : ∀ q os, Calls Try.prog 20 #[.agg #[.int .i64 sz, .slice B bs.length d], .int .i64 (gi ys j), .int .i64 (gi ys i)] (Sort.grow (wr.drewN q) os) fun e w' => e = .returned (.bool false) ∧ ∃ q' os', w' = Sort.grow ((Sort.grow (wr.drewN q) os).drewN q') os' := fun q os => by
            have := HC.out _ (grw q os) (gi ys j) (gi ys i)
            rw [srt_gi HS.out hlt2 hlt] at this
            exact this
          clear hcs hbl
          go_wp2_with fail
          go_quiet_grown (first | (go_at_fn 20; refine Calls.grown_of (hc _ _)))
          have hG3 := grw nq osq
          clear lj li b0 b1 hc grw hG2
          generalize Sort.grow (wr.drewN nq) osq = w3 at hG3 ⊢
          go_wp2
          go_roundg (j - (i + 1))
          case measure => omega
          case rel => exact ⟨i + 1, by simp, by omega, Nat.le_refl _, hG3⟩
        · have hltz2 : ¬ (i : Int) < (j : Int) := by omega
          clear hkx
          go_wp2
          go_roundg (ys.length - (j + 1))
          case measure => have := hkx1.out; omega
          case rel => exact ⟨j + 1, by simp, by omega, Nat.le_refl _, hG2⟩
    · have hltz : ¬ (j : Int) < (ys.length : Int) := by omega
      go_wp2
      go_ret
      exact ⟨rfl, hG1⟩
end Go.Proofs.Ytfapllhjccpfpaa
