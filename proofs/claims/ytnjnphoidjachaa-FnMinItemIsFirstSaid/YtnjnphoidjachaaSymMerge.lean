/- Contract of slices.symMergeCmpFunc: two neighbouring parts merged, so far as the relation is an order and both are sorted by it. -/
import Derived.Test.YtnjnphoidjachaaSwapRange
import Derived.Deep.CutRange
namespace Go.Proofs.Ytnjnphoidjachaa
open Go.RowKit

section
variable {α : Type}
/-- One element on its way to the right, through the first elements of v. -/
def MoveR (p v s : List α) (x : α) (a t k : Nat) (L : List α) : Prop := ∃ v1 v2, v.take t = v1 ++ v2 ∧ a + v1.length = k ∧ L = p ++ (v1 ++ (x :: (v2 ++ (v.drop t ++ s))))
theorem MoveR.start {p v s : List α} {x : α} {a t : Nat} : MoveR p v s x a t a (p ++ (x :: (v ++ s))) := ⟨[], v.take t, rfl, rfl, by rw [← List.append_assoc (v.take t), List.take_append_drop]; rfl⟩
theorem MoveR.step [Inhabited α] {p v s : List α} {x : α} {a t k : Nat} {L : List α} (h : MoveR p v s x a t k L) (ha : a = p.length) (ht : t ≤ v.length) (hk : k < a + t) : MoveR p v s x a t (k + 1) (swapL L k (k + 1)) := by
  obtain ⟨v1, v2, h1, h2, rfl⟩ := h
  have hl := congrArg List.length h1
  simp at hl
  match v2 with
  | [] => simp at hl; omega
  | y :: v2 =>
    refine ⟨v1 ++ [y], v2, by rw [h1]; simp, by simp; omega, ?_⟩
    have e : p ++ (v1 ++ (x :: (y :: v2 ++ (v.drop t ++ s)))) = (p ++ v1) ++ x :: y :: (v2 ++ (v.drop t ++ s)) := by simp
    rw [e, swapL_up (p ++ v1) x y _ (by simp; omega) (by simp; omega)]
    simp
theorem MoveR.done {p v s : List α} {x : α} {a t k : Nat} {L : List α} (h : MoveR p v s x a t k L) (ht : t ≤ v.length) (hk : ¬ k < a + t) : L = p ++ ((v.take t ++ ([x] ++ v.drop t)) ++ s) := by
  obtain ⟨v1, v2, h1, h2, rfl⟩ := h
  have hl := congrArg List.length h1
  simp at hl
  obtain rfl : v2 = [] := List.eq_nil_of_length_eq_zero (by omega)
  rw [h1]
  simp
/-- One element on its way to the left, through the last elements of u. -/
def MoveL (p u s : List α) (x : α) (a t k : Nat) (L : List α) : Prop := ∃ u1 u2, u.drop t = u1 ++ u2 ∧ a + t + u1.length = k ∧ L = p ++ (u.take t ++ (u1 ++ (x :: (u2 ++ s))))
theorem MoveL.start {p u s : List α} {x : α} {a t k : Nat} (ht : t ≤ u.length) (hk : k = a + u.length) : MoveL p u s x a t k (p ++ (u ++ (x :: s))) := ⟨u.drop t, [], by simp, by simp; omega, by rw [← List.append_assoc (u.take t), List.take_append_drop]; rfl⟩
theorem MoveL.step [Inhabited α] {p u s : List α} {x : α} {a t k : Nat} {L : List α} (h : MoveL p u s x a t (k + 1) L) (ha : a = p.length) (ht : t ≤ u.length) (hk : a + t < k + 1) : MoveL p u s x a t k (swapL L (k + 1) k) := by
  obtain ⟨u1, u2, h1, h2, rfl⟩ := h
  obtain ⟨u1', y, rfl⟩ : ∃ u' y, u1 = u' ++ [y] := ⟨u1.dropLast, u1.getLast (by intro h; simp [h] at h2; omega), (List.dropLast_concat_getLast _).symm⟩
  simp at h2
  refine ⟨u1', y :: u2, by rw [h1]; simp, by omega, ?_⟩
  have e : p ++ (u.take t ++ ((u1' ++ [y]) ++ (x :: (u2 ++ s)))) = (p ++ (u.take t ++ u1')) ++ y :: x :: (u2 ++ s) := by simp
  rw [e, swapL_down (p ++ (u.take t ++ u1')) y x _ (by simp; omega) (by simp; omega)]
  simp
theorem MoveL.done {p u s : List α} {x : α} {a t k : Nat} {L : List α} (h : MoveL p u s x a t k L) (hk : ¬ a + t < k) : L = p ++ ((u.take t ++ ([x] ++ u.drop t)) ++ s) := by
  obtain ⟨u1, u2, h1, h2, rfl⟩ := h
  obtain rfl : u1 = [] := List.eq_nil_of_length_eq_zero (by omega)
  rw [h1]
  simp
end

set_option maxHeartbeats 8000000 in
set_option maxRecDepth 1000000 in
theorem symMerge_left {g : Nat} {cb : Array Value} {cf : Int × Int → Int × Int → Int} {blk off n : Nat} {w0 : World} (E0 : SEnv g cb cf blk off n w0) (cap a m b : Nat) (p v s : List (Int × Int)) (x : Int × Int) (w : World)
    (hl0 : (p ++ (x :: (v ++ s))).length = n) (ha : a = p.length) (hm : m = a + 1) (hb : b = m + v.length) (S : St w0 blk off (p ++ (x :: (v ++ s))) w) :
    Calls Try.prog 71 #[.slice (some ⟨blk, off, none⟩) n cap, .int .i64 a, .int .i64 m, .int .i64 b, .func (.func g) #[] cb] w fun e w' => e = .returned (.tuple #[]) ∧ ∃ z, Merged (ltOf cf) [x] v z ∧ St w0 blk off (p ++ (z ++ s)) w' := by
  have mixed : Try.prog.follows .mixedOrders = true := by kernel_rfl
  have eg := E0.enters
  have hsm := E0.small
  have E := Lib.hid E0
  have hbn : b ≤ n := by simp at hl0; omega
  have hmb : m ≤ b := by omega
  obtain ⟨L, hL⟩ : ∃ L, L = p ++ (x :: (v ++ s)) := ⟨_, rfl⟩
  rw [← hL] at hl0 S
  have HA := Lib.hid (show a = p.length ∧ b = m + v.length ∧ L = p ++ (x :: (v ++ s)) ∧ m = a + 1 from ⟨ha, hb, hL, hm⟩)
  have S0 : Aside (St w0 blk off L w) := S
  have hl := hl0
  have hma : a < m := by omega
  have hmz : (m : Int) - (a : Int) = 1 := by omega
  clear S ha hb hL E0 hm hl0
  go_enter Try.func71, Try.ntmps71
  go_wp2
  go_loopg [10, 11] (b - m) (fun kx s10 s11 wr => ∃ i j : Nat, s10 = .int .i64 i ∧ s11 = .int .i64 j ∧ m ≤ i ∧ i ≤ j ∧ j ≤ b ∧ j - i ≤ kx ∧ Aside ((i = m ∨ ltOf cf (ge L (i - 1)) (ge L a) = true) ∧ (j = b ∨ ltOf cf (ge L j) (ge L a) = false)) ∧ Aside (St w0 blk off L wr))
  case atStart => exact ⟨m, b, rfl, rfl, Nat.le_refl _, hmb, Nat.le_refl _, Nat.le_refl _, ⟨.inl rfl, .inl rfl⟩, S0⟩
  case round =>
    clear S0 hmz
    obtain ⟨i, j, rfl, rfl, hmi, hij, hjb, hkx, J1, S1⟩ := hrel
    by_cases hlt : i < j
    · have hltz : (i : Int) < (j : Int) := by omega
      obtain ⟨h, hh⟩ : ∃ h, h = (i + j) / 2 := ⟨_, rfl⟩
      have hhz : ((i : Int) + (j : Int)) / 2 = (h : Int) := by omega
      have hih : i ≤ h := by omega
      have hhj : h < j := by omega
      clear hh
      have ea3 : ((h : Int)).toNat = h := by omega
      have pa3 : (0 : Int) ≤ (h : Int) := by omega
      have ba3 : (h : Int) < (n : Int) := by omega
      have ra3 : IntKind.i64.wrap ((h : Int)) = (h : Int) := by rw [IntKind.wrap_i64]; omega
      have ec3 : ((a : Int)).toNat = a := by omega
      have pc3 : (0 : Int) ≤ (a : Int) := by omega
      have bc3 : (a : Int) < (n : Int) := by omega
      have rc3 : IntKind.i64.wrap ((a : Int)) = (a : Int) := by rw [IntKind.wrap_i64]; omega
      obtain ⟨x3, hx3⟩ : ∃ x', ge L (h) = x' := ⟨_, rfl⟩
      obtain ⟨y3, hy3⟩ : ∃ y', ge L (a) = y' := ⟨_, rfl⟩
      have lx3 := S1.out.cellsG E.out hl (h) (by omega)
      have ly3 := S1.out.cellsG E.out hl (a) (by omega)
      rw [hx3] at lx3
      rw [hy3] at ly3
      have lx03 := fun q os => (lx3 q os).1
      have lx13 := fun q os => (lx3 q os).2
      have ly03 := fun q os => (ly3 q os).1
      have ly13 := fun q os => (ly3 q os).2
      clear lx3 ly3
      have hc3 := fun q os => S1.out.cmp E.out hl x3 y3 q os
      have HX3 := Lib.hid (show ge L (h) = x3 ∧ ge L (a) = y3 from ⟨hx3, hy3⟩)
      clear hx3 hy3
      by_cases hlv : cf x3 y3 < 0
      · go_wp2_with fail
        go_quiet_grown (first | (go_at_fn g; refine Calls.grown_of (hc3 _ _)))
        have S3 : Aside (St w0 blk off L (Sort.grow (wr.drewN nq) osq)) := S1.out.grown nq osq
        clear lx03 lx13 ly03 ly13 hc3
        clear ea3 pa3 ba3 ra3 ec3 pc3 bc3 rc3 S1
        generalize Sort.grow (wr.drewN nq) osq = w3 at S3 ⊢
        go_wp2
        go_roundg (j - (h + 1))
        case measure => omega
        case rel => exact ⟨h + 1, j, by simp, rfl, by omega, by omega, hjb, Nat.le_refl _, ⟨.inr (by rw [Nat.add_sub_cancel, HX3.out.1, HX3.out.2]; exact decide_eq_true hlv), J1.out.2⟩, S3⟩
      · go_wp2_with fail
        go_quiet_grown (first | (go_at_fn g; refine Calls.grown_of (hc3 _ _)))
        have S3 : Aside (St w0 blk off L (Sort.grow (wr.drewN nq) osq)) := S1.out.grown nq osq
        clear lx03 lx13 ly03 ly13 hc3
        clear ea3 pa3 ba3 ra3 ec3 pc3 bc3 rc3 S1
        generalize Sort.grow (wr.drewN nq) osq = w3 at S3 ⊢
        go_wp2
        go_roundg (h - i)
        case measure => omega
        case rel => exact ⟨i, h, rfl, rfl, by omega, by omega, by omega, Nat.le_refl _, ⟨J1.out.1, .inr (by rw [HX3.out.1, HX3.out.2]; exact decide_eq_false (by omega))⟩, S3⟩
    · have hltz : ¬ (i : Int) < (j : Int) := by omega
      obtain rfl : i = j := by omega
      obtain ⟨t, rfl⟩ : ∃ t, i = m + t := ⟨i - m, by omega⟩
      have htv : Aside (t ≤ v.length) := show t ≤ v.length by have := HA.out; omega
      have K0 : Aside (MoveR p v s x a t a L) := by
        show MoveR p v s x a t a L
        rw [HA.out.2.2.1]
        exact MoveR.start
      have M0 : Aside (Merged (ltOf cf) [x] v (v.take t ++ ([x] ++ v.drop t))) := by
        show Merged _ _ _ _
        obtain ⟨q1, q2, q3, q4⟩ := HA.out
        have gx : ge L a = x := by rw [q3]; exact ge_mid p x _ q1
        have gv : ∀ q, q < v.length → ge L (m + q) = ge v q := fun q hq => by
          rw [q3, show p ++ x :: (v ++ s) = (p ++ [x]) ++ (v ++ s) by simp, ge_app_right _ _ (by simp; omega), ge_app_left _ _ (by simp; omega)]
          congr 1
          simp
          omega
        refine merge_left x v htv.out ?_ ?_
        · by_cases h0 : t = 0
          · exact .inl h0
          · have := J1.out.1.resolve_left (by omega)
            rw [gx, show m + t - 1 = m + (t - 1) by omega, gv _ (by have := htv.out; omega)] at this
            exact .inr this
        · by_cases h0 : t = v.length
          · exact .inl h0
          · have := J1.out.2.resolve_left (by omega)
            rw [gx, gv _ (by have := htv.out; omega)] at this
            exact .inr this
      generalize wr = wA at S1 ⊢
      clear J1 hltz hkx
      go_wp2
      go_loopg [13] t (fun kx s13 wr => ∃ (k : Nat) (Lk : List (Int × Int)), s13 = .int .i64 k ∧ a ≤ k ∧ k ≤ a + t ∧ a + t - k ≤ kx ∧ Lk.length = n ∧ Aside (MoveR p v s x a t k Lk) ∧ Aside (St w0 blk off Lk wr))
      case atStart => exact ⟨a, L, rfl, Nat.le_refl _, by omega, by omega, hl, K0, S1⟩
      case round =>
        clear S1 K0
        obtain ⟨k, Lk, rfl, hak, hkt, hkx, hlk, K1, S1⟩ := hrel
        by_cases hlt : k < a + t
        · have hq := HA.out.2.2.2
          have hltz : (k : Int) < (m : Int) + (t : Int) - 1 := by omega
          have hkn : k + 1 < n := by omega
          clear hq
          have ea4 : ((k : Int)).toNat = k := by omega
          have pa4 : (0 : Int) ≤ (k : Int) := by omega
          have ba4 : (k : Int) < (n : Int) := by omega
          have ra4 : IntKind.i64.wrap ((k : Int)) = (k : Int) := by rw [IntKind.wrap_i64]; omega
          have ec4 : ((k : Int) + 1).toNat = k + 1 := by omega
          have pc4 : (0 : Int) ≤ (k : Int) + 1 := by omega
          have bc4 : (k : Int) + 1 < (n : Int) := by omega
          have rc4 : IntKind.i64.wrap ((k : Int) + 1) = (k : Int) + 1 := by rw [IntKind.wrap_i64]; omega
          obtain ⟨x4, hx4⟩ : ∃ x', ge Lk (k) = x' := ⟨_, rfl⟩
          obtain ⟨y4, hy4⟩ : ∃ y', ge Lk (k + 1) = y' := ⟨_, rfl⟩
          obtain ⟨la04, la14, fa04, fa14⟩ := S1.out.cells E.out hlk (k) (by omega)
          obtain ⟨lb04, lb14, fb04, fb14⟩ := S1.out.cells E.out hlk (k + 1) (by omega)
          rw [hx4] at la04 la14
          rw [hy4] at lb04 lb14
          obtain ⟨k04, k14, k24⟩ := swap_meets wr (blk := blk) (x := x4) (y := y4) (p := off + (k) * 2) (q := off + (k + 1) * 2) (by omega) la14 lb04 lb14
          have S4 : Aside (St w0 blk off (swapL Lk (k) (k + 1)) (((((wr.setCell ⟨blk, off + (k) * 2, none⟩ (.int .i64 y4.1)).setCell ⟨blk, off + (k) * 2 + 1, none⟩ (.int .i64 y4.2)).setCell ⟨blk, off + (k + 1) * 2, none⟩ (.int .i64 x4.1)).setCell ⟨blk, off + (k + 1) * 2 + 1, none⟩ (.int .i64 x4.2)).drew)) := S1.out.swap E.out hlk (show k < n by omega) (show k + 1 < n by omega) hx4 hy4
          clear S1 hx4 hy4
          go_wp2_with fail
          go_big_region_o
          clear la04 la14 fa04 fa14 lb04 lb14 fb04 fb14 k04 k14 k24
          clear ea4 pa4 ba4 ra4 ec4 pc4 bc4 rc4
          generalize ((((wr.setCell ⟨blk, off + (k) * 2, none⟩ (.int .i64 y4.1)).setCell ⟨blk, off + (k) * 2 + 1, none⟩ (.int .i64 y4.2)).setCell ⟨blk, off + (k + 1) * 2, none⟩ (.int .i64 x4.1)).setCell ⟨blk, off + (k + 1) * 2 + 1, none⟩ (.int .i64 x4.2)).drew = w4 at S4 ⊢
          go_wp2
          go_roundg (a + t - (k + 1))
          case measure => omega
          case rel => exact ⟨k + 1, swapL Lk k (k + 1), by simp, by omega, by omega, Nat.le_refl _, by rw [length_swapL]; exact hlk, K1.out.step HA.out.1 htv.out hlt, S4⟩
        · have hq := HA.out.2.2.2
          have hltz : ¬ (k : Int) < (m : Int) + (t : Int) - 1 := by omega
          clear hq
          go_wp2
          (try simp only [Exit.inBlock, Exit.then]); refine bodyPost_ret (results_none rfl _ _ _) rfl ?_
          refine ⟨rfl, _, M0.out, ?_⟩
          rw [← K1.out.done htv.out hlt]
          exact S1.out

set_option maxHeartbeats 8000000 in
set_option maxRecDepth 1000000 in
theorem symMerge_right {g : Nat} {cb : Array Value} {cf : Int × Int → Int × Int → Int} {blk off n : Nat} {w0 : World} (E0 : SEnv g cb cf blk off n w0) (cap a m b : Nat) (p u s : List (Int × Int)) (x : Int × Int) (w : World)
    (hl0 : (p ++ (u ++ (x :: s))).length = n) (ha : a = p.length) (hm : m = a + u.length) (hb : b = m + 1) (hu : 0 < u.length) (hne : m ≠ a + 1) (S : St w0 blk off (p ++ (u ++ (x :: s))) w) :
    Calls Try.prog 71 #[.slice (some ⟨blk, off, none⟩) n cap, .int .i64 a, .int .i64 m, .int .i64 b, .func (.func g) #[] cb] w fun e w' => e = .returned (.tuple #[]) ∧ ∃ z, Merged (ltOf cf) u [x] z ∧ St w0 blk off (p ++ (z ++ s)) w' := by
  have mixed : Try.prog.follows .mixedOrders = true := by kernel_rfl
  have eg := E0.enters
  have hsm := E0.small
  have E := Lib.hid E0
  have hbn : m < n := by simp at hl0; omega
  obtain ⟨L, hL⟩ : ∃ L, L = p ++ (u ++ (x :: s)) := ⟨_, rfl⟩
  rw [← hL] at hl0 S
  have HA := Lib.hid (show a = p.length ∧ m = a + u.length ∧ L = p ++ (u ++ (x :: s)) ∧ b = m + 1 from ⟨ha, hm, hL, hb⟩)
  have S0 : Aside (St w0 blk off L w) := S
  have hl := hl0
  have hma : a < m := by omega
  have hmz : ((m : Int) - (a : Int) == 1) = false := beq_eq_false_iff_ne.2 (by omega)
  have hbz : (b : Int) - (m : Int) = 1 := by omega
  clear S ha hb hL E0 hm hl0 hu hne
  go_enter Try.func71, Try.ntmps71
  go_wp2
  go_loopg [14, 15] (m - a) (fun kx s14 s15 wr => ∃ i j : Nat, s14 = .int .i64 i ∧ s15 = .int .i64 j ∧ a ≤ i ∧ i ≤ j ∧ j ≤ m ∧ j - i ≤ kx ∧ Aside ((i = a ∨ ltOf cf (ge L m) (ge L (i - 1)) = false) ∧ (j = m ∨ ltOf cf (ge L m) (ge L j) = true)) ∧ Aside (St w0 blk off L wr))
  case atStart => exact ⟨a, m, rfl, rfl, Nat.le_refl _, Nat.le_of_lt hma, Nat.le_refl _, Nat.le_refl _, ⟨.inl rfl, .inl rfl⟩, S0⟩
  case round =>
    clear S0 hmz hbz
    obtain ⟨i, j, rfl, rfl, hai, hij, hjm, hkx, J1, S1⟩ := hrel
    by_cases hlt : i < j
    · have hltz : (i : Int) < (j : Int) := by omega
      obtain ⟨h, hh⟩ : ∃ h, h = (i + j) / 2 := ⟨_, rfl⟩
      have hhz : ((i : Int) + (j : Int)) / 2 = (h : Int) := by omega
      have hih : i ≤ h := by omega
      have hhj : h < j := by omega
      clear hh
      have ea3 : ((m : Int)).toNat = m := by omega
      have pa3 : (0 : Int) ≤ (m : Int) := by omega
      have ba3 : (m : Int) < (n : Int) := by omega
      have ra3 : IntKind.i64.wrap ((m : Int)) = (m : Int) := by rw [IntKind.wrap_i64]; omega
      have ec3 : ((h : Int)).toNat = h := by omega
      have pc3 : (0 : Int) ≤ (h : Int) := by omega
      have bc3 : (h : Int) < (n : Int) := by omega
      have rc3 : IntKind.i64.wrap ((h : Int)) = (h : Int) := by rw [IntKind.wrap_i64]; omega
      obtain ⟨x3, hx3⟩ : ∃ x', ge L (m) = x' := ⟨_, rfl⟩
      obtain ⟨y3, hy3⟩ : ∃ y', ge L (h) = y' := ⟨_, rfl⟩
      have lx3 := S1.out.cellsG E.out hl (m) (by omega)
      have ly3 := S1.out.cellsG E.out hl (h) (by omega)
      rw [hx3] at lx3
      rw [hy3] at ly3
      have lx03 := fun q os => (lx3 q os).1
      have lx13 := fun q os => (lx3 q os).2
      have ly03 := fun q os => (ly3 q os).1
      have ly13 := fun q os => (ly3 q os).2
      clear lx3 ly3
      have hc3 := fun q os => S1.out.cmp E.out hl x3 y3 q os
      have HX3 := Lib.hid (show ge L (m) = x3 ∧ ge L (h) = y3 from ⟨hx3, hy3⟩)
      clear hx3 hy3
      by_cases hlv : cf x3 y3 < 0
      · go_wp2_with fail
        go_quiet_grown (first | (go_at_fn g; refine Calls.grown_of (hc3 _ _)))
        have S3 : Aside (St w0 blk off L (Sort.grow (wr.drewN nq) osq)) := S1.out.grown nq osq
        clear lx03 lx13 ly03 ly13 hc3
        clear ea3 pa3 ba3 ra3 ec3 pc3 bc3 rc3 S1
        generalize Sort.grow (wr.drewN nq) osq = w3 at S3 ⊢
        go_wp2
        go_roundg (h - i)
        case measure => omega
        case rel => exact ⟨i, h, rfl, rfl, by omega, by omega, by omega, Nat.le_refl _, ⟨J1.out.1, .inr (by rw [HX3.out.1, HX3.out.2]; exact decide_eq_true (by omega))⟩, S3⟩
      · go_wp2_with fail
        go_quiet_grown (first | (go_at_fn g; refine Calls.grown_of (hc3 _ _)))
        have S3 : Aside (St w0 blk off L (Sort.grow (wr.drewN nq) osq)) := S1.out.grown nq osq
        clear lx03 lx13 ly03 ly13 hc3
        clear ea3 pa3 ba3 ra3 ec3 pc3 bc3 rc3 S1
        generalize Sort.grow (wr.drewN nq) osq = w3 at S3 ⊢
        go_wp2
        rotate_left 1
        · rename_i hq; rw [decide_eq_false (show ¬ cf x3 y3 < 0 by omega)] at hq; cases hq
        go_roundg (j - (h + 1))
        case measure => omega
        case rel => exact ⟨h + 1, j, by simp, rfl, by omega, by omega, by omega, Nat.le_refl _, ⟨.inr (by rw [Nat.add_sub_cancel, HX3.out.1, HX3.out.2]; exact decide_eq_false (by omega)), J1.out.2⟩, S3⟩
    · have hltz : ¬ (i : Int) < (j : Int) := by omega
      obtain rfl : i = j := by omega
      obtain ⟨t, rfl⟩ : ∃ t, i = a + t := ⟨i - a, by omega⟩
      have htv : Aside (t ≤ u.length) := show t ≤ u.length by have := HA.out; omega
      have K0 : Aside (MoveL p u s x a t m L) := by
        show MoveL p u s x a t m L
        rw [HA.out.2.2.1]
        exact MoveL.start htv.out HA.out.2.1
      have M0 : Aside (Merged (ltOf cf) u [x] (u.take t ++ ([x] ++ u.drop t))) := by
        show Merged _ _ _ _
        obtain ⟨q1, q2, q3, q4⟩ := HA.out
        have gx : ge L m = x := by
          rw [q3, show p ++ (u ++ x :: s) = (p ++ u) ++ x :: s by simp]
          exact ge_mid _ x _ (by simp; omega)
        have gv : ∀ q, q < u.length → ge L (a + q) = ge u q := fun q hq => by
          rw [q3, ge_app_right _ _ (by omega), ge_app_left _ _ (by omega)]
          congr 1
          omega
        refine merge_right x u htv.out ?_ ?_
        · by_cases h0 : t = 0
          · exact .inl h0
          · have := J1.out.1.resolve_left (by omega)
            rw [gx, show a + t - 1 = a + (t - 1) by omega, gv _ (by have := htv.out; omega)] at this
            exact .inr this
        · by_cases h0 : t = u.length
          · exact .inl h0
          · have := J1.out.2.resolve_left (by omega)
            rw [gx, gv _ (by have := htv.out; omega)] at this
            exact .inr this
      generalize wr = wA at S1 ⊢
      clear J1 hltz hkx
      go_wp2
      go_loopg [17] (m - (a + t)) (fun kx s17 wr => ∃ (k : Nat) (Lk : List (Int × Int)), s17 = .int .i64 k ∧ a + t ≤ k ∧ k ≤ m ∧ k - (a + t) ≤ kx ∧ Lk.length = n ∧ Aside (MoveL p u s x a t k Lk) ∧ Aside (St w0 blk off Lk wr))
      case atStart => exact ⟨m, L, rfl, by omega, Nat.le_refl _, Nat.le_refl _, hl, K0, S1⟩
      case round =>
        clear S1 K0
        obtain ⟨k, Lk, rfl, hak, hkt, hkx, hlk, K1, S1⟩ := hrel
        by_cases hlt : a + t < k
        · obtain ⟨kp, rfl⟩ : ∃ kp, k = kp + 1 := ⟨k - 1, by omega⟩
          have hltz : (a : Int) + (t : Int) < (kp : Int) + 1 := by omega
          have ea4 : ((kp : Int) + 1).toNat = kp + 1 := by omega
          have pa4 : (0 : Int) ≤ (kp : Int) + 1 := by omega
          have ba4 : (kp : Int) + 1 < (n : Int) := by omega
          have ra4 : IntKind.i64.wrap ((kp : Int) + 1) = (kp : Int) + 1 := by rw [IntKind.wrap_i64]; omega
          have ec4 : ((kp : Int)).toNat = kp := by omega
          have pc4 : (0 : Int) ≤ (kp : Int) := by omega
          have bc4 : (kp : Int) < (n : Int) := by omega
          have rc4 : IntKind.i64.wrap ((kp : Int)) = (kp : Int) := by rw [IntKind.wrap_i64]; omega
          obtain ⟨x4, hx4⟩ : ∃ x', ge Lk (kp + 1) = x' := ⟨_, rfl⟩
          obtain ⟨y4, hy4⟩ : ∃ y', ge Lk (kp) = y' := ⟨_, rfl⟩
          obtain ⟨la04, la14, fa04, fa14⟩ := S1.out.cells E.out hlk (kp + 1) (by omega)
          obtain ⟨lb04, lb14, fb04, fb14⟩ := S1.out.cells E.out hlk (kp) (by omega)
          rw [hx4] at la04 la14
          rw [hy4] at lb04 lb14
          obtain ⟨k04, k14, k24⟩ := swap_meets wr (blk := blk) (x := x4) (y := y4) (p := off + (kp + 1) * 2) (q := off + (kp) * 2) (by omega) la14 lb04 lb14
          have S4 : Aside (St w0 blk off (swapL Lk (kp + 1) (kp)) (((((wr.setCell ⟨blk, off + (kp + 1) * 2, none⟩ (.int .i64 y4.1)).setCell ⟨blk, off + (kp + 1) * 2 + 1, none⟩ (.int .i64 y4.2)).setCell ⟨blk, off + (kp) * 2, none⟩ (.int .i64 x4.1)).setCell ⟨blk, off + (kp) * 2 + 1, none⟩ (.int .i64 x4.2)).drew)) := S1.out.swap E.out hlk (show kp + 1 < n by omega) (show kp < n by omega) hx4 hy4
          clear S1 hx4 hy4
          go_wp2_with fail
          go_big_region_o
          clear la04 la14 fa04 fa14 lb04 lb14 fb04 fb14 k04 k14 k24
          clear ea4 pa4 ba4 ra4 ec4 pc4 bc4 rc4
          generalize ((((wr.setCell ⟨blk, off + (kp + 1) * 2, none⟩ (.int .i64 y4.1)).setCell ⟨blk, off + (kp + 1) * 2 + 1, none⟩ (.int .i64 y4.2)).setCell ⟨blk, off + (kp) * 2, none⟩ (.int .i64 x4.1)).setCell ⟨blk, off + (kp) * 2 + 1, none⟩ (.int .i64 x4.2)).drew = w4 at S4 ⊢
          go_wp2
          go_roundg (kp - (a + t))
          case measure => omega
          case rel => exact ⟨kp, swapL Lk (kp + 1) kp, by first | rfl | go_num | (congr 1; omega), by omega, by omega, Nat.le_refl _, by rw [length_swapL]; exact hlk, K1.out.step HA.out.1 htv.out hlt, S4⟩
        · have hltz : ¬ (a : Int) + (t : Int) < (k : Int) := by omega
          go_wp2
          (try simp only [Exit.inBlock, Exit.then]); refine bodyPost_ret (results_none rfl _ _ _) rfl ?_
          refine ⟨rfl, _, M0.out, ?_⟩
          rw [← K1.out.done hlt]
          exact S1.out
end Go.Proofs.Ytnjnphoidjachaa
