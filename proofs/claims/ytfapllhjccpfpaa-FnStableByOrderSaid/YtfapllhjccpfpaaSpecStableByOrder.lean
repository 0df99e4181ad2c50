/- Contract of the reference's StableByOrder: the numbers in order in new memory. -/
import Derived.Test.YtfapllhjccpfpaaComes
import Derived.Test.YtfapllhjccpfpaaStabPlain
namespace Go.Proofs.Ytfapllhjccpfpaa
open Go.RowKit

theorem gi_some {zs : List Int} {i : Nat} (h : i < zs.length) : zs[i]? = some (gi zs i) := by rw [List.getElem?_eq_getElem h, gi_eq h]
def rkN (lt : Int → Int → Bool) (zs : List Int) (k : Nat) : Nat := rk lt zs (gi zs k) k
/-- A block in which the first k numbers stand at their places. -/
def RankedN (lt : Int → Int → Bool) (w : World) (B : Nat) (t : TypeId) (zs : List Int) (k : Nat) : Prop := ∃ cs : Array Value, Blk w B t cs ∧ cs.size = zs.length ∧ ∀ j, j < k → cs[rkN lt zs j]? = some (.int .i64 (gi zs j))
section
variable {lt : Int → Int → Bool} {zs ys : List Int} {w w' : World} {B k : Nat} {t : TypeId}
theorem rkN_lt (hS : StableOf lt zs ys) (W : Weak lt (· ∈ zs)) (hk : k < zs.length) : rkN lt zs k < zs.length := hS.rk_lt W (gi_some hk)
theorem RankedN.below (h : RankedN lt w B t zs k) (hb : Below w.heap.size w w') : RankedN lt w' B t zs k := by
  obtain ⟨cs, h1, h2, h3⟩ := h
  exact ⟨cs, h1.below hb h1.lt, h2, h3⟩
theorem RankedN.cell (h : RankedN lt w B t zs k) {p : Nat} (hp : p < zs.length) : (∃ u, w.cell? ⟨B, p, none⟩ = some u) ∧ w.frozen? ⟨B, p, none⟩ = false := by
  obtain ⟨cs, hb, hs, _⟩ := h
  exact ⟨⟨_, (hb.cell p).trans (Array.getElem?_eq_getElem (by omega))⟩, hb.frozen p⟩
theorem RankedN.step (h : RankedN lt w B t zs k) (hS : StableOf lt zs ys) (W : Weak lt (· ∈ zs)) (hk : k < zs.length) {m : Nat} (hm : m = rkN lt zs k) : RankedN lt (w.setCell ⟨B, m, none⟩ (.int .i64 (gi zs k))) B t zs (k + 1) := by
  obtain ⟨cs, hb, hs, hf⟩ := h
  have hr := rkN_lt hS W hk
  subst hm
  refine ⟨_, hb.set_ _ _, by simpa using hs, fun i hi => ?_⟩
  by_cases e : rkN lt zs i = rkN lt zs k
  · rw [e, Array.getElem?_setIfInBounds_self_of_lt (by omega)]
    have h1 := hS.at_rk W (gi_some (zs := zs) (i := i) (by omega))
    have h2 := hS.at_rk W (gi_some (zs := zs) (i := k) hk)
    have e' : rk lt zs (gi zs i) i = rk lt zs (gi zs k) k := e
    rw [e', h2] at h1
    rw [Option.some.inj h1]
  · rw [Array.getElem?_setIfInBounds_ne (fun h => e h.symm)]
    refine hf i ?_
    rcases Nat.lt_or_ge i k with h1 | h1
    · exact h1
    · exact absurd (by rw [show i = k by omega]) e
theorem RankedN.done (h : RankedN lt w B t zs zs.length) (hS : StableOf lt zs ys) (W : Weak lt (· ∈ zs)) : Blk w B t (intCells ys) := by
  obtain ⟨cs, hb, hs, hf⟩ := h
  have hl := hS.perm.length_eq
  have : cs = intCells ys := intCells_of (by omega) (fun p hp => by
    refine hS.ranked W (f := fun p => cs[p]?) (g := fun v => some (.int .i64 v)) (fun j v hj => ?_) (gi_some hp)
    have hjl : j < zs.length := (List.getElem?_eq_some_iff.1 hj).1
    have hv : v = gi zs j := by rw [gi_some hjl] at hj; exact (Option.some.inj hj).symm
    have := hf j hjl
    rw [hv]
    exact this)
  rwa [this] at hb
end

/-- Nothing of two older worlds has turned. -/
def Two (a b w : World) : Prop := Below a.heap.size a w ∧ Below b.heap.size b w
theorem Two.gr {a b w w' : World} (h : Two a b w) (hg : Gr w w') : Two a b w' := ⟨h.1.trans (hg.below.mono h.1.size), h.2.trans (hg.below.mono h.2.size)⟩

set_option maxHeartbeats 3200000 in
set_option maxRecDepth 1000000 in
theorem specStableByOrder_calls (A B : Option Addr) (c d : Nat) (zs ys : List Int) (sz : Int) (bs : List Bool) (w : World) (hA : Ints w A zs) (hn : zs.length * 8 ≤ 140737488351232) (hB : Bools w B bs) (hbn : bs.length ≤ 140737488351232) (hsz : sz < 9223372036854775808) (hS : StableOf (rel sz bs) zs ys) (hW : Weak (rel sz bs) (· ∈ zs)) :
    Calls Try.prog 12 #[.slice A zs.length c, .agg #[.int .i64 sz, .slice B bs.length d]] w fun e w' => e = .returned (.slice (some ⟨w.heap.size + 1, 0, none⟩) zs.length zs.length) ∧ Blk w' (w.heap.size + 1) 3 (intCells ys) ∧ Below w.heap.size w w' := by
  have hmk := run_make_row' (P := Try.prog) 22 3 (.int .i64 0) 8 Try.underlying22 infoInt rfl .i64 .i64 zs.length (by omega) (by omega)
  obtain ⟨w1, hw1⟩ : ∃ w1, w1 = w.alloc (.cells #[.int .i64 sz, .slice B bs.length d] 28) := ⟨_, rfl⟩
  have hG0 : Gr w w1 := by rw [hw1]; exact (Gr.refl w).alloc _
  have hs1 : w1.heap.size = w.heap.size + 1 := by rw [hw1]; simp
  have hK0 : Blk w1 w.heap.size 28 #[.int .i64 sz, .slice B bs.length d] := by rw [hw1]; exact Blk.new _ _ _
  have hA0 := hA.below hG0.below
  have hB0 := hB.below hG0.below
  have hR0 : RankedN (rel sz bs) (w1.alloc (.cells (madeCells #[.int .i64 0] zs.length) 3)) (w.heap.size + 1) 3 zs 0 := ⟨_, by rw [← hs1]; exact Blk.new w1 3 _, size_madeCells _ _, fun i hi => absurd hi (by omega)⟩
  have hb0 : Below w1.heap.size w1 (w1.alloc (.cells (madeCells #[.int .i64 0] zs.length) 3)) := (Below.refl _ _).alloc (Nat.le_refl _) _
  have HC := Lib.hid (fun (W : World) (h : Below w1.heap.size w1 W) (x y : Int) => specComes_calls sz B d bs x y W (hB0.below h) hbn hsz)
  have HBX := Lib.hid (fun (W : World) (h : Below w1.heap.size w1 W) => (hK0.below h hK0.lt).pair)
  have HA := Lib.hid (fun (W : World) (h : Below w1.heap.size w1 W) => hA0.below h)
  have HS := Lib.hid (show StableOf (rel sz bs) zs ys ∧ Weak (rel sz bs) (· ∈ zs) from ⟨hS, hW⟩)
  have HG := Lib.hid hG0
  have HS1 := Lib.hid hs1
  generalize hg : w.heap.size = g0 at hR0 HBX HS1 ⊢
  clear hS hW hG0 hK0 hA0 hB0 hA hB hs1
  go_enter Try.func12, Try.ntmps12
  go_wp2
  rw [← hw1]
  clear hw1 hmk
  go_loopg [16] zs.length (fun kx s16 wr => ∃ k : Nat, s16 = .int .i64 k ∧ k ≤ zs.length ∧ zs.length - k ≤ kx ∧ Aside (RankedN (rel sz bs) wr (g0 + 1) 3 zs k) ∧ Below w1.heap.size w1 wr)
  case atStart => exact ⟨0, rfl, Nat.zero_le _, Nat.le_refl _, hR0, hb0⟩
  case round =>
    clear hR0 hb0
    obtain ⟨k, rfl, hk, hkx, R1, hb1⟩ := hrel
    by_cases hlt : k < zs.length
    · have hltz : (k : Int) < (zs.length : Int) := by omega
      obtain ⟨blk, off, rfl, hbl, hcs⟩ := HA.out _ hb1 (by omega)
      have hck : wr.cell? ⟨blk, off + k, none⟩ = some (.int .i64 (gi zs k)) := hcs k hlt
      obtain ⟨v, hv⟩ : ∃ v, gi zs k = v := ⟨_, rfl⟩
      rw [hv] at hck
      have HV := Lib.hid hv
      have hkx1 := Lib.hid hkx
      clear hcs hv hbl hkx
      generalize wr = wA at R1 hb1 hck ⊢
      have HC2 := Lib.hid (fun (W : World) (h : Two w1 wA W) (x y : Int) => (HC.out W h.1 x y).mono fun e w' (q : e = .returned (.bool (rel sz bs x y)) ∧ Gr W w') => (⟨q.1, h.gr q.2⟩ : e = .returned (.bool (rel sz bs x y)) ∧ Two w1 wA w'))
      have hT : Two w1 wA wA := ⟨hb1, Below.refl _ _⟩
      have HB1 := Lib.hid hb1
      clear hb1
      go_wp2
      clear hck
      go_loopg [8, 23] zs.length (fun kx s8 s23 wr => ∃ a m : Nat, s8 = .int .i64 m ∧ s23 = .int .i64 a ∧ a ≤ zs.length ∧ m ≤ a ∧ zs.length - a ≤ kx ∧ Aside (m = cntG (rel sz bs) zs v k a) ∧ Two w1 wA wr)
      case atStart => exact ⟨0, 0, rfl, rfl, Nat.zero_le _, Nat.le_refl _, Nat.le_refl _, (cntG_zero _ _ _ _).symm, hT⟩
      case round =>
        clear hT
        obtain ⟨a, m, rfl, rfl, ha, hma, hkx, M1, hT1⟩ := hrel
        by_cases hal : a < zs.length
        · have halz : (a : Int) < (zs.length : Int) := by omega
          obtain ⟨k0, k1⟩ := HBX.out _ hT1.1
          obtain ⟨blk', off', hbo, hbl, hcs⟩ := HA.out _ hT1.1 (by omega)
          cases hbo
          have hca : wr.cell? ⟨blk, off + a, none⟩ = some (.int .i64 (gi zs a)) := hcs a hal
          have hst := cntG_step (rel sz bs) v k (gi_some hal)
          rw [← M1.out] at hst
          obtain ⟨u, hu⟩ : ∃ u, gi zs a = u := ⟨_, rfl⟩
          rw [hu] at hca hst
          have HST : Aside _ := hst
          clear hcs hu hbl hst
          cases h1 : rel sz bs u v with
          | true =>
            have HM := Lib.hid (show m + 1 = cntG (rel sz bs) zs v k (a + 1) by rw [HST.out, if_pos (.inl h1)])
            go_wp2_with (go_at_call 21; refine (HC2.out _ (by assumption) _ _).mono ?_; rintro e wn ⟨rfl, hGn⟩; obtain ⟨kn0, kn1⟩ := HBX.out _ hGn.1)
            go_roundg (zs.length - (a + 1))
            case measure => omega
            case rel => exact ⟨a + 1, m + 1, by simp, by simp, by omega, by omega, Nat.le_refl _, HM.out, by assumption⟩
          | false =>
            cases h2 : rel sz bs v u with
            | true =>
              have HM := Lib.hid (show m = cntG (rel sz bs) zs v k (a + 1) by rw [HST.out, if_neg (by rw [h1, h2]; simp)]; rfl)
              go_wp2_with (go_at_call 21; refine (HC2.out _ (by assumption) _ _).mono ?_; rintro e wn ⟨rfl, hGn⟩; obtain ⟨kn0, kn1⟩ := HBX.out _ hGn.1)
              go_roundg (zs.length - (a + 1))
              case measure => omega
              case rel => exact ⟨a + 1, m, rfl, by simp, by omega, by omega, Nat.le_refl _, HM.out, by assumption⟩
            | false =>
              by_cases h3 : a < k
              · have h3z : (a : Int) < (k : Int) := by omega
                have HM := Lib.hid (show m + 1 = cntG (rel sz bs) zs v k (a + 1) by rw [HST.out, if_pos (.inr ⟨h2, h3⟩)])
                go_wp2_with (go_at_call 21; refine (HC2.out _ (by assumption) _ _).mono ?_; rintro e wn ⟨rfl, hGn⟩; obtain ⟨kn0, kn1⟩ := HBX.out _ hGn.1)
                go_roundg (zs.length - (a + 1))
                case measure => omega
                case rel => exact ⟨a + 1, m + 1, by simp, by simp, by omega, by omega, Nat.le_refl _, HM.out, by assumption⟩
              · have h3z : ¬ (a : Int) < (k : Int) := by omega
                have HM := Lib.hid (show m = cntG (rel sz bs) zs v k (a + 1) by rw [HST.out, if_neg (by rw [h1]; simp [h3])]; rfl)
                go_wp2_with (go_at_call 21; refine (HC2.out _ (by assumption) _ _).mono ?_; rintro e wn ⟨rfl, hGn⟩; obtain ⟨kn0, kn1⟩ := HBX.out _ hGn.1)
                go_roundg (zs.length - (a + 1))
                case measure => omega
                case rel => exact ⟨a + 1, m, rfl, by simp, by omega, by omega, Nat.le_refl _, HM.out, by assumption⟩
        · have halz : ¬ (a : Int) < (zs.length : Int) := by omega
          obtain rfl : a = zs.length := by omega
          have hmr : m = rkN (rel sz bs) zs k := by
            rw [M1.out, ← HV.out]
            exact cntG_done (rel sz bs) zs _ (by omega)
          have hrb : m < zs.length := by rw [hmr]; exact rkN_lt HS.out.1 HS.out.2 hlt
          have hrbz : (m : Int) < (zs.length : Int) := by omega
          have R2 := R1.out.below hT1.2
          obtain ⟨⟨u, hu⟩, hf⟩ := R2.cell hrb
          have hst := R2.step HS.out.1 HS.out.2 hlt hmr
          rw [HV.out] at hst
          have HST : Aside _ := hst
          have hbF : Below w1.heap.size w1 (wr.setCell ⟨g0 + 1, m, none⟩ (.int .i64 v)) := hT1.1.setCell (by show w1.heap.size ≤ g0 + 1; exact Nat.le_of_eq HS1.out) _
          clear hmr M1 R2 hst hkx
          go_wp2
          go_roundg (zs.length - (k + 1))
          case measure => have := hkx1.out; omega
          case rel => exact ⟨k + 1, by simp, by omega, Nat.le_refl _, HST, hbF⟩
    · obtain rfl : k = zs.length := by omega
      have hltz : ¬ (zs.length : Int) < (zs.length : Int) := by omega
      have hdn := R1.out.done HS.out.1 HS.out.2
      have HDN : Aside _ := hdn
      clear hdn
      go_wp2
      go_ret
      exact ⟨rfl, HDN.out, by rw [← hg]; exact HG.out.below.trans (hb1.mono HG.out.below.size)⟩
end Go.Proofs.Ytfapllhjccpfpaa
