/- Contracts of slices.swapRangeCmpFunc and slices.rotateCmpFunc: two ranges of one length exchanged; two neighbouring ranges exchanged. -/
import Derived.Test.YtfapllhjccpfpaaNStW
namespace Go.Proofs.Ytfapllhjccpfpaa
open Go.RowKit

theorem swap_round {α : Type} [Inhabited α] {p x m y s : List α} {i a b q : Nat} {Lk : List α} (hh : x.length = q ∧ y.length = q ∧ a = p.length ∧ b = p.length + x.length + m.length) (hi : i < q)
    (h : ∃ x1 x2 y1 y2, x = x1 ++ x2 ∧ y = y1 ++ y2 ∧ x1.length = i ∧ y1.length = i ∧ Lk = p ++ (y1 ++ (x2 ++ (m ++ (x1 ++ (y2 ++ s)))))) :
    ∃ x1 x2 y1 y2, x = x1 ++ x2 ∧ y = y1 ++ y2 ∧ x1.length = i + 1 ∧ y1.length = i + 1 ∧ swapL Lk (a + i) (b + i) = p ++ (y1 ++ (x2 ++ (m ++ (x1 ++ (y2 ++ s))))) := by
  obtain ⟨x1, x2, y1, y2, rfl, rfl, h1, h2, rfl⟩ := h
  obtain ⟨hx, hy, rfl, rfl⟩ := hh
  match x2, y2 with
  | [], _ => simp at hx; omega
  | _ :: _, [] => simp at hy; omega
  | u :: x2, v :: y2 =>
    refine ⟨x1 ++ [u], x2, y1 ++ [v], y2, by simp, by simp, by simp [h1], by simp [h2], ?_⟩
    have e : p ++ (y1 ++ (u :: x2 ++ (m ++ (x1 ++ (v :: y2 ++ s))))) = (p ++ y1) ++ u :: ((x2 ++ m ++ x1) ++ v :: (y2 ++ s)) := by simp
    rw [e, swapL_split (p ++ y1) u (x2 ++ m ++ x1) v (y2 ++ s) (by simp; omega) (by simp; omega)]
    simp

set_option maxHeartbeats 4000000 in
theorem swapRange_calls {g : Nat} {cb : Array Value} {cf : Int → Int → Int} {blk off n : Nat} {w0 : World} (E0 : SEnv g cb cf blk off n w0) (cap a b q : Nat) (p x m y s : List (Int)) (w : World)
    (hl : (p ++ (x ++ (m ++ (y ++ s)))).length = n) (hx : x.length = q) (hy : y.length = q) (ha : a = p.length) (hb : b = p.length + x.length + m.length) (S : St w0 blk off (p ++ (x ++ (m ++ (y ++ s)))) w) :
    Calls Try.prog 45 #[.slice (some ⟨blk, off, none⟩) n cap, .int .i64 a, .int .i64 b, .int .i64 q, .func (.func g) #[] cb] w fun e w' => e = .returned (.tuple #[]) ∧ St w0 blk off (p ++ (y ++ (m ++ (x ++ s)))) w' := by
  have mixed : Try.prog.follows .mixedOrders = true := by kernel_rfl
  have hsm := E0.small
  have E := Lib.hid E0
  have hbn : b + q ≤ n := by simp at hl; omega
  have hab : a + q ≤ b := by omega
  have HX := Lib.hid (show x.length = q ∧ y.length = q ∧ a = p.length ∧ b = p.length + x.length + m.length from ⟨hx, hy, ha, hb⟩)
  have J0 : Aside (∃ x1 x2 y1 y2, x = x1 ++ x2 ∧ y = y1 ++ y2 ∧ x1.length = 0 ∧ y1.length = 0 ∧ p ++ (x ++ (m ++ (y ++ s))) = p ++ (y1 ++ (x2 ++ (m ++ (x1 ++ (y2 ++ s)))))) := ⟨[], x, [], y, rfl, rfl, rfl, rfl, rfl⟩
  have S0 : Aside (St w0 blk off (p ++ (x ++ (m ++ (y ++ s)))) w) := S
  generalize hL0 : p ++ (x ++ (m ++ (y ++ s))) = L0 at hl J0 S0
  clear S hx hy ha hb hL0 E0
  go_enter Try.func45, Try.ntmps45
  go_wp2
  go_loopg [10] q (fun kx s10 wr => ∃ (i : Nat) (Lk : List (Int)), s10 = .int .i64 i ∧ i ≤ q ∧ q - i ≤ kx ∧ Lk.length = n ∧ Aside (∃ x1 x2 y1 y2, x = x1 ++ x2 ∧ y = y1 ++ y2 ∧ x1.length = i ∧ y1.length = i ∧ Lk = p ++ (y1 ++ (x2 ++ (m ++ (x1 ++ (y2 ++ s)))))) ∧ Aside (St w0 blk off Lk wr))
  case atStart => exact ⟨0, L0, rfl, Nat.zero_le _, Nat.le_refl _, hl, J0, S0⟩
  case round =>
    clear S0 J0 hl
    obtain ⟨i, Lk, rfl, hi, hkx, hlk, J1, S1⟩ := hrel
    by_cases hlt : i < q
    · have hltz : (i : Int) < (q : Int) := by omega
      have ea2 : ((a : Int) + (i : Int)).toNat = a + i := by omega
      have pa2 : (0 : Int) ≤ (a : Int) + (i : Int) := by omega
      have ba2 : (a : Int) + (i : Int) < (n : Int) := by omega
      have ra2 : IntKind.i64.wrap ((a : Int) + (i : Int)) = (a : Int) + (i : Int) := by rw [IntKind.wrap_i64]; omega
      have ec2 : ((b : Int) + (i : Int)).toNat = b + i := by omega
      have pc2 : (0 : Int) ≤ (b : Int) + (i : Int) := by omega
      have bc2 : (b : Int) + (i : Int) < (n : Int) := by omega
      have rc2 : IntKind.i64.wrap ((b : Int) + (i : Int)) = (b : Int) + (i : Int) := by rw [IntKind.wrap_i64]; omega
      obtain ⟨x2, hx2⟩ : ∃ x', ge Lk (a + i) = x' := ⟨_, rfl⟩
      obtain ⟨y2, hy2⟩ : ∃ y', ge Lk (b + i) = y' := ⟨_, rfl⟩
      obtain ⟨la02, fa02⟩ := S1.out.cells E.out hlk (a + i) (by omega)
      obtain ⟨lb02, fb02⟩ := S1.out.cells E.out hlk (b + i) (by omega)
      rw [hx2] at la02
      rw [hy2] at lb02
      have k02 := swap_meets wr (blk := blk) (x := x2) (y := y2) (p := off + (a + i)) (q := off + (b + i)) (by omega) la02 lb02
      have S2 : Aside (St w0 blk off (swapL Lk (a + i) (b + i)) (((wr.setCell ⟨blk, off + (a + i), none⟩ (.int .i64 y2)).setCell ⟨blk, off + (b + i), none⟩ (.int .i64 x2)).drew)) := S1.out.swap E.out hlk (show a + i < n by omega) (show b + i < n by omega) hx2 hy2
      clear S1 hx2 hy2
      go_wp2_with fail
      go_big_region_o
      clear la02 fa02 lb02 fb02 k02
      clear ea2 pa2 ba2 ra2 ec2 pc2 bc2 rc2
      generalize ((wr.setCell ⟨blk, off + (a + i), none⟩ (.int .i64 y2)).setCell ⟨blk, off + (b + i), none⟩ (.int .i64 x2)).drew = w2 at S2 ⊢
      go_wp2
      go_roundg (q - (i + 1))
      case measure => omega
      case rel => exact ⟨i + 1, swapL Lk (a + i) (b + i), by simp, by omega, Nat.le_refl _, by rw [length_swapL]; exact hlk, swap_round HX.out hlt J1.out, S2⟩
    · have hltz : ¬ (i : Int) < (q : Int) := by omega
      go_wp2
      go_end0
      obtain rfl : i = q := by omega
      obtain ⟨x1, x2, y1, y2, h1, h2, h3, h4, h5⟩ := J1.out
      have hh := HX.out
      obtain rfl : x2 = [] := List.eq_nil_of_length_eq_zero (by have := congrArg List.length h1; simp at this; omega)
      obtain rfl : y2 = [] := List.eq_nil_of_length_eq_zero (by have := congrArg List.length h2; simp at this; omega)
      have S' := S1.out
      rw [h5] at S'
      refine ⟨rfl, ?_⟩
      rw [h1, h2]
      simpa using S'

/-- What is left to rotate: u of i elements and v of j around the place m. -/
def Rot {α : Type} (m : Nat) (T : List α) (i j : Nat) (L : List α) : Prop := ∃ p u v s, L = p ++ (u ++ (v ++ s)) ∧ u.length = i ∧ v.length = j ∧ p.length + i = m ∧ T = p ++ (v ++ (u ++ s))

set_option maxHeartbeats 4000000 in
theorem rotate_calls {g : Nat} {cb : Array Value} {cf : Int → Int → Int} {blk off n : Nat} {w0 : World} (E0 : SEnv g cb cf blk off n w0) (cap a m b : Nat) (p u v s : List (Int)) (w : World)
    (hl : (p ++ (u ++ (v ++ s))).length = n) (ha : a = p.length) (hm : m = a + u.length) (hb : b = m + v.length) (hu : 0 < u.length) (hv : 0 < v.length) (S : St w0 blk off (p ++ (u ++ (v ++ s))) w) :
    Calls Try.prog 39 #[.slice (some ⟨blk, off, none⟩) n cap, .int .i64 a, .int .i64 m, .int .i64 b, .func (.func g) #[] cb] w fun e w' => e = .returned (.tuple #[]) ∧ St w0 blk off (p ++ (v ++ (u ++ s))) w' := by
  have mixed : Try.prog.follows .mixedOrders = true := by kernel_rfl
  have hsm := E0.small
  have E := Lib.hid E0
  have R0 : Aside (Rot m (p ++ (v ++ (u ++ s))) (m - a) (b - m) (p ++ (u ++ (v ++ s)))) := ⟨p, u, v, s, rfl, by omega, by omega, by omega, rfl⟩
  have S0 : Aside (St w0 blk off (p ++ (u ++ (v ++ s))) w) := S
  have hbn : b ≤ n := by simp at hl; omega
  have ham : a < m := by omega
  have hmb : m < b := by omega
  generalize p ++ (u ++ (v ++ s)) = L0 at hl R0 S0
  generalize p ++ (v ++ (u ++ s)) = T at R0 ⊢
  clear S ha hm hb hu hv E0
  obtain ⟨i0, hi0⟩ : ∃ i0, i0 = m - a := ⟨_, rfl⟩
  obtain ⟨j0, hj0⟩ : ∃ j0, j0 = b - m := ⟨_, rfl⟩
  rw [← hi0, ← hj0] at R0
  have hi1 : a + i0 = m := by omega
  have hj1 : m + j0 = b := by omega
  clear hi0 hj0
  have z1 : (m : Int) - (a : Int) = (i0 : Int) := by omega
  have z2 : (b : Int) - (m : Int) = (j0 : Int) := by omega
  have r1 : IntKind.i64.wrap (i0 : Int) = (i0 : Int) := by rw [IntKind.wrap_i64]; omega
  have r2 : IntKind.i64.wrap (j0 : Int) = (j0 : Int) := by rw [IntKind.wrap_i64]; omega
  go_enter Try.func39, Try.ntmps39
  go_wp2
  go_loopg [10, 11] (i0 + j0) (fun kx s10 s11 wr => ∃ (i j : Nat) (Lk : List (Int)), s10 = .int .i64 i ∧ s11 = .int .i64 j ∧ 0 < i ∧ 0 < j ∧ i + j ≤ kx ∧ i ≤ m ∧ i + j ≤ n ∧ m + j ≤ n ∧ Lk.length = n ∧ Aside (Rot m T i j Lk) ∧ Aside (St w0 blk off Lk wr))
  case atStart => exact ⟨i0, j0, L0, rfl, rfl, by omega, by omega, Nat.le_refl _, by omega, by omega, by omega, hl, R0, S0⟩
  case round =>
    clear S0 R0 hl z1 z2 r1 r2
    obtain ⟨i, j, Lk, rfl, rfl, hi, hj, hkx, him, hij, hmj, hlk, R1, S1⟩ := hrel
    by_cases hne : i = j
    · subst hne
      obtain ⟨p', u', v', s', hLk, hu', hv', hp', hT⟩ := R1.out
      have hc := swapRange_calls E.out cap (m - i) m i p' u' [] v' s' wr (by simpa [hLk] using hlk) hu' hv' (by omega) (by simp; omega) (by simpa [hLk] using S1.out)
      have hc' : Calls Try.prog 45 #[.slice (some ⟨blk, off, none⟩) n cap, .int .i64 ((m : Int) - (i : Int)), .int .i64 m, .int .i64 i, .func (.func g) #[] cb] wr fun e w' => e = .returned (.tuple #[]) ∧ St w0 blk off T w' := by
        rw [show (m : Int) - (i : Int) = ((m - i : Nat) : Int) by omega]
        refine hc.mono fun e w' ⟨he, hs⟩ => ⟨he, ?_⟩
        rw [hT]
        simpa using hs
      have rz : IntKind.i64.wrap ((m : Int) - (i : Int)) = (m : Int) - (i : Int) := by rw [IntKind.wrap_i64]; omega
      clear hc hLk hT S1 R1
      go_wp2_with fail
      refine hc'.mono ?_
      rintro e w1 ⟨rfl, hS⟩
      go_wp2
      go_end0
      exact ⟨rfl, hS⟩
    · have hnz : ¬ (i : Int) = (j : Int) := by omega
      by_cases hgt : j < i
      · have hgz : (j : Int) < (i : Int) := by omega
        obtain ⟨p', u', v', s', hLk, hu', hv', hp', hT⟩ := R1.out
        have hc := swapRange_calls E.out cap (m - i) m j p' (u'.take j) (u'.drop j) v' s' wr (by rw [← List.append_assoc (u'.take j), List.take_append_drop, ← hLk]; exact hlk) (by simp; omega) hv' (by omega) (by simp; omega) (by rw [← List.append_assoc (u'.take j), List.take_append_drop, ← hLk]; exact S1.out)
        obtain ⟨L', hL'⟩ : ∃ L', L' = p' ++ (v' ++ (u'.drop j ++ (u'.take j ++ s'))) := ⟨_, rfl⟩
        have RR : Aside (Rot m T (i - j) j L') := ⟨p' ++ v', u'.drop j, u'.take j, s', by rw [hL']; simp, by simp; omega, by simp; omega, by simp; omega, by rw [hT, ← List.append_assoc (u'.take j), List.take_append_drop, List.append_assoc]⟩
        have hlL : L'.length = n := by rw [hL', ← hlk, hLk]; simp; omega
        have hc' : Calls Try.prog 45 #[.slice (some ⟨blk, off, none⟩) n cap, .int .i64 ((m : Int) - (i : Int)), .int .i64 m, .int .i64 j, .func (.func g) #[] cb] wr fun e w' => e = .returned (.tuple #[]) ∧ St w0 blk off L' w' := by
          rw [show (m : Int) - (i : Int) = ((m - i : Nat) : Int) by omega, hL']
          exact hc
        have rz : IntKind.i64.wrap ((m : Int) - (i : Int)) = (m : Int) - (i : Int) := by rw [IntKind.wrap_i64]; omega
        have rz2 : IntKind.i64.wrap ((i : Int) - (j : Int)) = (i : Int) - (j : Int) := by rw [IntKind.wrap_i64]; omega
        clear hc hLk hT S1 R1 hL'
        go_wp2_with fail
        refine hc'.mono ?_
        rintro e w1 ⟨rfl, hS⟩
        go_wp2
        go_roundg (i - j + j)
        case measure => omega
        case rel => exact ⟨i - j, j, L', by congr 1; omega, rfl, by omega, by omega, Nat.le_refl _, by omega, by omega, by omega, hlL, RR, hS⟩
      · have hgz : ¬ (j : Int) < (i : Int) := by omega
        obtain ⟨p', u', v', s', hLk, hu', hv', hp', hT⟩ := R1.out
        have hc := swapRange_calls E.out cap (m - i) (m + j - i) i p' u' (v'.take (j - i)) (v'.drop (j - i)) s' wr (by rw [← List.append_assoc (v'.take (j - i)), List.take_append_drop, ← hLk]; exact hlk) (by omega) (by simp; omega) (by omega) (by simp; omega) (by rw [← List.append_assoc (v'.take (j - i)), List.take_append_drop, ← hLk]; exact S1.out)
        obtain ⟨L', hL'⟩ : ∃ L', L' = p' ++ (v'.drop (j - i) ++ (v'.take (j - i) ++ (u' ++ s'))) := ⟨_, rfl⟩
        have RR : Aside (Rot m T i (j - i) L') := ⟨p', v'.drop (j - i), v'.take (j - i), u' ++ s', hL', by simp; omega, by simp; omega, by omega, by rw [hT, ← List.append_assoc (v'.take (j - i)), List.take_append_drop]⟩
        have hlL : L'.length = n := by rw [hL', ← hlk, hLk]; simp; omega
        have hc' : Calls Try.prog 45 #[.slice (some ⟨blk, off, none⟩) n cap, .int .i64 ((m : Int) - (i : Int)), .int .i64 ((m : Int) + (j : Int) - (i : Int)), .int .i64 i, .func (.func g) #[] cb] wr fun e w' => e = .returned (.tuple #[]) ∧ St w0 blk off L' w' := by
          rw [show (m : Int) - (i : Int) = ((m - i : Nat) : Int) by omega, show (m : Int) + (j : Int) - (i : Int) = ((m + j - i : Nat) : Int) by omega, hL']
          exact hc
        have rz : IntKind.i64.wrap ((m : Int) - (i : Int)) = (m : Int) - (i : Int) := by rw [IntKind.wrap_i64]; omega
        have rz1 : IntKind.i64.wrap ((m : Int) + (j : Int) - (i : Int)) = (m : Int) + (j : Int) - (i : Int) := by rw [IntKind.wrap_i64]; omega
        have rz3 : IntKind.i64.wrap ((m : Int) + (j : Int)) = (m : Int) + (j : Int) := by rw [IntKind.wrap_i64]; omega
        have rz2 : IntKind.i64.wrap ((j : Int) - (i : Int)) = (j : Int) - (i : Int) := by rw [IntKind.wrap_i64]; omega
        clear hc hLk hT S1 R1 hL'
        go_wp2_with fail
        refine hc'.mono ?_
        rintro e w1 ⟨rfl, hS⟩
        go_wp2
        go_roundg (i + (j - i))
        case measure => omega
        case rel => exact ⟨i, j - i, L', rfl, by congr 1; omega, by omega, by omega, Nat.le_refl _, by omega, by omega, by omega, hlL, RR, hS⟩
end Go.Proofs.Ytfapllhjccpfpaa
