/- The walk of FnMinItemIsFirst. -/
import Derived.Test.YtnjnphoidjachaaStableItems
import Derived.Test.YtnjnphoidjachaaToItems
import Derived.Test.YtnjnphoidjachaaStabLaws
import Derived.Test.YtnjnphoidjachaaMinItems
import Derived.Test.YtnjnphoidjachaaMaxItems
import Derived.BigQuiet
namespace Go.Proofs.Ytnjnphoidjachaa
open Go.RowKit

set_option maxHeartbeats 3200000 in
theorem lawMinItemIsFirst_none (A : Option Addr) (c : Nat) (w : World) (hA : Items w A []) :
    Calls Try.prog 11 #[.slice A 0 c] w fun e w' => e = .returned (.bool true) ∧ Below w.heap.size w w' := by
  go_enter Try.func11, Try.ntmps11
  go_wp2_with fail
  refine (toItems_calls _ _ [] w hA (by simp)).mono ?_
  rintro e w1 ⟨A1, c1, rfl, ho1, hb1⟩
  go_wp2_with fail
  refine (minItems_none A1 c1 w1).mono ?_
  rintro e w2 ⟨rfl, hb2'⟩
  have hb2 := hb1.trans (hb2'.mono hb1.size)
  have hb2a : Below w.heap.size w (w2.alloc (.cells #[.int .i64 0, .int .i64 0] 41)) := hb2.alloc hb2.size _
  go_wp2_with fail
  refine (maxItems_none A1 c1 _).mono ?_
  rintro e w3 ⟨rfl, hb3'⟩
  have hb3 := hb2a.trans (hb3'.mono hb2a.size)
  have hb3a : Below w.heap.size w (w3.alloc (.cells #[.int .i64 0, .int .i64 0] 41)) := hb3.alloc hb3.size _
  go_wp2
  go_ret
  exact ⟨rfl, hb3a⟩

set_option maxHeartbeats 3200000 in
theorem lawMinItemIsFirst_some (A : Option Addr) (c : Nat) (zs : List (Int × Int)) (w : World) (hA : Items w A zs) (hn : zs.length * 16 ≤ 140737488351232) (h0 : 0 < zs.length) :
    Calls Try.prog 11 #[.slice A zs.length c] w fun e w' => e = .returned (.bool true) ∧ Below w.heap.size w w' := by
  have mixed : Try.prog.follows .mixedOrders = true := by kernel_rfl
  have hz0 : ((zs.length : Int) == 0) = false := beq_eq_false_iff_ne.2 (by omega)
  obtain ⟨L, hL⟩ : ∃ L, L = isort ltK zs := ⟨_, rfl⟩
  have lL : L.length = zs.length := by rw [hL, (isort_perm zs).length_eq]
  have nL : L.length * 16 ≤ 140737488351232 := by omega
  have hq : ((L.length : Int) != (zs.length : Int)) = false := by rw [lL]; simp
  obtain ⟨nl, hnl⟩ : ∃ nl, L.length = nl + 1 := ⟨L.length - 1, by omega⟩
  have hnz : (L.length : Int) - 1 = (nl : Int) := by omega
  have hnw : IntKind.i64.wrap (nl : Int) = (nl : Int) := by rw [IntKind.wrap_i64]; omega
  have HL := Lib.hid hL
  have HN := Lib.hid (show L.length = nl + 1 ∧ zs.length = nl + 1 from ⟨hnl, by omega⟩)
  clear hL lL hnl
  go_enter Try.func11, Try.ntmps11
  go_wp2_with fail
  refine (toItems_calls _ _ zs w hA hn).mono ?_
  rintro e w1 ⟨A1, c1, rfl, ho1, hb1⟩
  go_wp2_with fail
  refine (minItems_some A1 c1 zs w1 ho1.items hn h0).mono ?_
  rintro e w2 ⟨i, hi, rfl, hb2'⟩
  have HI := Lib.hid hi
  have hb2 := hb1.trans (hb2'.mono hb1.size)
  have hI2 := ho1.items.below hb2'
  obtain ⟨mk, hmk⟩ : ∃ mk, gk zs i = mk := ⟨_, rfl⟩
  obtain ⟨mt, hmt⟩ : ∃ mt, gt zs i = mt := ⟨_, rfl⟩
  rw [hmk, hmt]
  have HM := Lib.hid (show gk zs i = mk ∧ gt zs i = mt from ⟨hmk, hmt⟩)
  have hb2a : Below w.heap.size w (w2.alloc (.cells #[.int .i64 mk, .int .i64 mt] 41)) := hb2.alloc hb2.size _
  have hK2 : Blk (w2.alloc (.cells #[.int .i64 mk, .int .i64 mt] 41)) w2.heap.size 41 #[.int .i64 mk, .int .i64 mt] := Blk.new _ _ _
  have hI2a := hI2.below ((Below.refl w2.heap.size w2).alloc (Nat.le_refl _) (.cells #[.int .i64 mk, .int .i64 mt] 41))
  clear hi hmk hmt ho1 hI2 hb2'
  go_wp2_with fail
  refine (maxItems_some A1 c1 zs _ hI2a hn h0).mono ?_
  rintro e w3 ⟨j, hj, rfl, hb3'⟩
  have HJ := Lib.hid hj
  have hb3 := hb2a.trans (hb3'.mono hb2a.size)
  have hI3 := hI2a.below hb3'
  have hK3 := hK2.below hb3' hK2.lt
  obtain ⟨xk, hxk⟩ : ∃ xk, gk zs j = xk := ⟨_, rfl⟩
  obtain ⟨xt, hxt⟩ : ∃ xt, gt zs j = xt := ⟨_, rfl⟩
  rw [hxk, hxt]
  have HX := Lib.hid (show gk zs j = xk ∧ gt zs j = xt from ⟨hxk, hxt⟩)
  have hb3a : Below w.heap.size w (w3.alloc (.cells #[.int .i64 xk, .int .i64 xt] 41)) := hb3.alloc hb3.size _
  have hX3 : Blk (w3.alloc (.cells #[.int .i64 xk, .int .i64 xt] 41)) w3.heap.size 41 #[.int .i64 xk, .int .i64 xt] := Blk.new _ _ _
  have hI3a := hI3.below ((Below.refl w3.heap.size w3).alloc (Nat.le_refl _) (.cells #[.int .i64 xk, .int .i64 xt] 41))
  have hK3a := hK3.alloc (.cells #[.int .i64 xk, .int .i64 xt] 41)
  clear hj hxk hxt hI2a hI3 hb3' hK2 hK3
  go_wp2_with fail
  have hc4 := stableItems_is A1 c1 zs _ hI3a hn
  rw [← HL.out] at hc4
  refine hc4.mono ?_
  clear hc4
  rintro e w4 ⟨A4, c4, rfl, ho4, hb4'⟩
  have hb4 := hb3a.trans (hb4'.mono hb3a.size)
  have hK4 := hK3a.below hb4' hK3a.lt
  have hX4 := hX3.below hb4' hX3.lt
  obtain ⟨m0, m1⟩ := hK4.pair
  obtain ⟨x0, x1⟩ := hX4.pair
  have hI4 := ho4.items
  have HX4 : Aside (Blk w4 w3.heap.size 41 #[.int .i64 xk, .int .i64 xt]) := hX4
  generalize hB2 : w2.heap.size = B2 at m0 m1 ⊢
  generalize hB3 : w3.heap.size = B3 at HX4 ⊢
  clear hI3a hK3a hX3 hb4' ho4 hK4 hX4 hA hB2 hB3 x0 x1
  obtain ⟨b, off, rfl, hbl, hcs⟩ := hI4 (by have := HN.out.1; omega)
  obtain ⟨y0, y1⟩ := hcs 0 (by have := HN.out.1; omega)
  have hmin := first_min HI.out
  rw [← HL.out] at hmin
  rw [gk_of hmin, HM.out.1, Nat.zero_mul, Nat.add_zero] at y0
  rw [gt_of hmin, HM.out.2, Nat.zero_mul, Nat.add_zero] at y1
  clear hmin
  have e1 : (mk == mk) = true := by simp
  have e2 : (mt == mt) = true := by simp
  have hlp : (0 : Int) < (L.length : Int) := by have := HN.out.1; omega
  have HC : Aside (Items w4 (some ⟨b, off, none⟩) L) := hI4
  clear hI4 hcs
  go_wp2_with fail
  go_big_quiet (fail)
  clear y0 y1 m0 m1 e1 e2
  go_wp2
  go_loopw [9] (fun v wr => ∃ k : Nat, v = .int .i64 k ∧ k ≤ nl ∧ Aside (∀ j, k ≤ j → j ≤ nl → gk L j = gk L nl) ∧ Draws w4 wr) (fun v _ => (intOf v).toNat)
  case atStart => exact ⟨nl, rfl, Nat.le_refl _, fun j h1 h2 => by rw [Nat.le_antisymm h2 h1], (Draws.refl _).drewN _⟩
  case round =>
    obtain ⟨k, rfl, hk, K1, hd⟩ := hrel
    have fin : (k = 0 ∨ gk L (k - 1) ≠ gk L nl) → gk L k = xk ∧ gt L k = xt := fun h => by
      have hN := HN.out
      have := first_max (i := j) (k := k) HJ.out (by omega) (by rw [← HL.out, show zs.length - 1 = nl by omega]; exact fun j h1 h2 => K1.out j h1 (by omega)) (by rw [← HL.out, show zs.length - 1 = nl by omega]; exact h)
      rw [← HL.out] at this
      exact ⟨(gk_of this).trans HX.out.1, (gt_of this).trans HX.out.2⟩
    have FIN : Aside _ := fin
    clear fin
    obtain ⟨b', off', hbo, hbl', hcs⟩ := HC.out.below hd.below (by have := HN.out.1; omega)
    cases hbo
    obtain ⟨x0, x1⟩ := (HX4.out.below hd.below HX4.out.lt).pair
    obtain ⟨yk, yt⟩ := hcs k (by have := HN.out.1; omega)
    have hkl : (k : Int) < (L.length : Int) := by have := HN.out.1; omega
    have hnlt : (nl : Int) < (L.length : Int) := by have := HN.out.1; omega
    have e1 : (xk == xk) = true := by simp
    have e2 : (xt == xt) = true := by simp
    rcases Nat.eq_zero_or_pos k with hk0 | hk0
    · subst hk0
      obtain ⟨f1, f2⟩ := FIN.out (.inl rfl)
      rw [f1] at yk
      rw [f2] at yt
      rw [Nat.zero_mul, Nat.add_zero] at yk yt
      clear hcs
      go_wp2_with fail
      go_big_quiet (fail)
      go_wp2_with fail
      go_big_quiet (fail)
      go_wp2
      go_ret
      exact ⟨rfl, hb4.trans ((hd.drewN _).drewN _ |>.below.mono hb4.size)⟩
    · obtain ⟨kp, rfl⟩ : ∃ kp, k = kp + 1 := ⟨k - 1, by omega⟩
      obtain ⟨zk, zt⟩ := hcs kp (by have := HN.out.1; omega)
      obtain ⟨lk, lt⟩ := hcs nl (by have := HN.out.1; omega)
      have hb1 : decide ((0 : Int) < (kp : Int) + 1) = true := decide_eq_true (by omega)
      have hkp : (kp : Int) < (L.length : Int) := by have := HN.out.1; omega
      have hkp1 : (kp : Int) + 1 < (L.length : Int) := by have := HN.out.1; omega
      have hkp0 : (0 : Int) ≤ (kp : Int) + 1 := by omega
      have hkw : IntKind.i64.wrap (kp : Int) = (kp : Int) := by rw [IntKind.wrap_i64]; omega
      have hkt : ((kp : Int) + 1).toNat = kp + 1 := by omega
      by_cases he : gk L kp = gk L nl
      · have he' : (gk L kp == gk L nl) = true := by simp [he]
        have HE := Lib.hid he
        clear he hcs
        go_wp2_with fail
        go_big_quiet (fail)
        go_wp2
        go_roundw
        case rel => exact ⟨kp, by first | rfl | go_num | (congr 1; omega), by omega, fun j h1 h2 => by
          rcases Nat.eq_or_lt_of_le h1 with rfl | h1
          · exact HE.out
          · exact K1.out j h1 h2, hd.drewN _⟩
        case measure => simp [intOf]
      · have he' : (gk L kp == gk L nl) = false := by simp [he]
        obtain ⟨f1, f2⟩ := FIN.out (.inr (by rw [Nat.add_sub_cancel]; exact he))
        rw [f1] at yk
        rw [f2] at yt
        clear he hcs
        go_wp2_with fail
        go_big_quiet (fail)
        go_wp2_with fail
        go_big_quiet (fail)
        go_wp2
        go_ret
        exact ⟨rfl, hb4.trans ((hd.drewN _).drewN _ |>.below.mono hb4.size)⟩
theorem lawMinItemIsFirst (A : Option Addr) (c : Nat) (zs : List (Int × Int)) (w : World) (hA : Items w A zs) (hn : zs.length * 16 ≤ 140737488351232) :
    Calls Try.prog 11 #[.slice A zs.length c] w fun e w' => e = .returned (.bool true) ∧ Below w.heap.size w w' := by
  rcases Nat.eq_zero_or_pos zs.length with h0 | h0
  · obtain rfl : zs = [] := List.eq_nil_of_length_eq_zero h0
    exact lawMinItemIsFirst_none A c w hA
  · exact lawMinItemIsFirst_some A c zs w hA hn h0
end Go.Proofs.Ytnjnphoidjachaa
