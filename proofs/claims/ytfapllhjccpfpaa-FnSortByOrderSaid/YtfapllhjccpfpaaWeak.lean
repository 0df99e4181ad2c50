/- Contracts of the laws' weak and inOrder. -/
import Derived.Test.YtfapllhjccpfpaaComes
import Derived.Test.YtfapllhjccpfpaaStabPlain
import Derived.Deep.CutRange
namespace Go.Proofs.Ytfapllhjccpfpaa
open Go.RowKit

/-- What weak asks of three numbers. -/
def P3 (lt : Int → Int → Bool) (a b c : Int) : Prop := (lt a b = true → lt b c = true → lt a c = true) ∧ (lt a b = false → lt b a = false → lt b c = false → lt c b = false → lt a c = false ∧ lt c a = false)
theorem P3.a {lt : Int → Int → Bool} {a b c : Int} (hx : lt a b = true) (hv : lt a c = true) : P3 lt a b c := ⟨fun _ _ => hv, fun h => by rw [hx] at h; cases h⟩
theorem P3.b {lt : Int → Int → Bool} {a b c : Int} (hx : lt a b = true) (hz : lt b c = false) : P3 lt a b c := ⟨(fun _ h => by rw [hz] at h; cases h), fun h => by rw [hx] at h; cases h⟩
theorem P3.c {lt : Int → Int → Bool} {a b c : Int} (hx : lt a b = false) (hy : lt b a = true) : P3 lt a b c := ⟨(fun h => by rw [hx] at h; cases h), fun _ h => by rw [hy] at h; cases h⟩
theorem P3.d {lt : Int → Int → Bool} {a b c : Int} (hx : lt a b = false) (hz : lt b c = true) : P3 lt a b c := ⟨(fun h => by rw [hx] at h; cases h), fun _ _ h => by rw [hz] at h; cases h⟩
theorem P3.e {lt : Int → Int → Bool} {a b c : Int} (hx : lt a b = false) (hu : lt c b = true) : P3 lt a b c := ⟨(fun h => by rw [hx] at h; cases h), fun _ _ _ h => by rw [hu] at h; cases h⟩
theorem P3.f {lt : Int → Int → Bool} {a b c : Int} (hx : lt a b = false) (hv : lt a c = false) (ht : lt c a = false) : P3 lt a b c := ⟨(fun h => by rw [hx] at h; cases h), fun _ _ _ _ => ⟨hv, ht⟩⟩
def P2 (lt : Int → Int → Bool) (zs : List Int) (a b : Int) : Prop := ¬ (lt a b = true ∧ lt b a = true) ∧ ∀ k, k < zs.length → P3 lt a b (gi zs k)
def P1 (lt : Int → Int → Bool) (zs : List Int) (a : Int) : Prop := lt a a = false ∧ ∀ k, k < zs.length → P2 lt zs a (gi zs k)
theorem weak_of {lt : Int → Int → Bool} {zs : List Int} (h : ∀ i, i < zs.length → P1 lt zs (gi zs i)) : Weak lt (· ∈ zs) := by
  have h1 : ∀ a ∈ zs, P1 lt zs a := fun a ha => by
    obtain ⟨i, hi, rfl⟩ := List.mem_iff_getElem.1 ha
    rw [← gi_eq hi]
    exact h i hi
  have h2 : ∀ a ∈ zs, ∀ b ∈ zs, P2 lt zs a b := fun a ha b hb => by
    obtain ⟨i, hi, rfl⟩ := List.mem_iff_getElem.1 hb
    rw [← gi_eq hi]
    exact (h1 a ha).2 i hi
  have h3 : ∀ a ∈ zs, ∀ b ∈ zs, ∀ c ∈ zs, P3 lt a b c := fun a ha b hb c hc => by
    obtain ⟨i, hi, rfl⟩ := List.mem_iff_getElem.1 hc
    rw [← gi_eq hi]
    exact (h2 a ha b hb).2 i hi
  refine ⟨fun a b ha hb hab => ?_, fun a b c ha hb hc hba hcb => ?_⟩
  · cases e : lt b a with
    | false => rfl
    | true => exact absurd ⟨hab, e⟩ (h2 a ha b hb).1
  · cases e : lt c a with
    | false => rfl
    | true =>
      cases e1 : lt a b with
      | true =>
        have := (h3 c hc a ha b hb).1 e e1
        rw [hcb] at this; cases this
      | false =>
        cases e2 : lt b c with
        | true =>
          have := (h3 b hb c hc a ha).1 e2 e
          rw [hba] at this; cases this
        | false =>
          have := ((h3 a ha b hb c hc).2 e1 hba e2 hcb).2
          rw [e] at this; cases this

/-- weak's answer: if it is true the relation is an order of the list's numbers. -/
def RetW (lt : Int → Int → Bool) (zs : List Int) (w : World) (e : Ending) (w' : World) : Prop := ∃ r : Bool, (r = true → Weak lt (· ∈ zs)) ∧ e = .returned (.bool r) ∧ Gr w w'
theorem RetW.no {lt : Int → Int → Bool} {zs : List Int} {w w' : World} {e : Ending} (h : Gr w w') (he : e = .returned (.bool false)) : RetW lt zs w e w' := ⟨false, (fun hh => by cases hh), he, h⟩

set_option maxHeartbeats 8000000 in
set_option maxRecDepth 1000000 in
theorem weak_calls (A B : Option Addr) (c d : Nat) (zs : List Int) (sz : Int) (bs : List Bool) (w : World) (hA : Ints w A zs) (hn : zs.length * 8 ≤ 140737488351232) (hB : Bools w B bs) (hbn : bs.length ≤ 140737488351232) (hsz : sz < 9223372036854775808) :
    Calls Try.prog 10 #[.agg #[.int .i64 sz, .slice B bs.length d], .slice A zs.length c] w (RetW (rel sz bs) zs w) := by
  obtain ⟨w0, hw0⟩ : ∃ w0, w0 = w.alloc (.cells #[.int .i64 sz, .slice B bs.length d] 25) := ⟨_, rfl⟩
  have hG0 : Gr w w0 := by rw [hw0]; exact (Gr.refl w).alloc _
  have hK0 : Blk w0 w.heap.size 25 #[.int .i64 sz, .slice B bs.length d] := by rw [hw0]; exact Blk.new _ _ _
  have hA0 := hA.below hG0.below
  have hB0 := hB.below hG0.below
  generalize hg : w.heap.size = g0 at hK0
  have HC := Lib.hid (fun (W : World) (h : Gr w0 W) (x y : Int) => (comes_calls sz B d bs x y W (hB0.below h.below) hbn hsz).mono fun e w' (q : e = .returned (.bool (rel sz bs x y)) ∧ Gr W w') => (⟨q.1, h.trans q.2⟩ : e = .returned (.bool (rel sz bs x y)) ∧ Gr w0 w'))
  have HBX := Lib.hid (fun (W : World) (h : Gr w0 W) => (hK0.below h.below hK0.lt).pair)
  have HA := Lib.hid (fun (W : World) (h : Gr w0 W) => hA0.below h.below)
  have HG := Lib.hid hG0
  suffices hs : Calls Try.prog 10 #[.agg #[.int .i64 sz, .slice B bs.length d], .slice A zs.length c] w (RetW (rel sz bs) zs w0) from
    hs.mono fun e w' ⟨r, h1, h2, h3⟩ => ⟨r, h1, h2, hG0.trans h3⟩
  clear hG0 hK0 hA0 hB0 hA hB
  have hGr : Gr w0 w0 := Gr.refl w0
  go_enter Try.func10, Try.ntmps10
  go_wp2_with fail
  rw [← hw0]
  clear hw0 hg
  go_loopg [13] zs.length (fun kx s13 wr => ∃ i : Nat, s13 = .int .i64 i ∧ i ≤ zs.length ∧ zs.length - i ≤ kx ∧ Aside (∀ q, q < i → P1 (rel sz bs) zs (gi zs q)) ∧ Gr w0 wr)
  case atStart => exact ⟨0, rfl, Nat.zero_le _, Nat.le_refl _, fun q hq => absurd hq (by omega), hGr⟩
  case round =>
    clear hGr
    obtain ⟨i, rfl, hi, hkx, J1, hG1⟩ := hrel
    by_cases hlt : i < zs.length
    · have hltz : (i : Int) < (zs.length : Int) := by omega
      obtain ⟨k0, k1⟩ := HBX.out _ hG1
      obtain ⟨blk, off, rfl, hbl, hcs⟩ := HA.out _ hG1 (by omega)
      have hck : wr.cell? ⟨blk, off + i, none⟩ = some (.int .i64 (gi zs i)) := hcs i hlt
      obtain ⟨a, ha⟩ : ∃ a, gi zs i = a := ⟨_, rfl⟩
      rw [ha] at hck
      have HAA := Lib.hid ha
      clear hcs ha hbl
      cases haa : rel sz bs a a with
      | true =>
        go_wp2_with (go_at_call 20; refine (HC.out _ (by assumption) _ _).mono ?_; rintro e wn ⟨rfl, hGn⟩; obtain ⟨kn0, kn1⟩ := HBX.out _ hGn)
        go_ret
        exact RetW.no (by assumption) rfl
      | false =>
        have HP1 := Lib.hid haa
        have hkx1 := Lib.hid hkx
        clear hkx
        go_wp2_with (go_at_call 20; refine (HC.out _ (by assumption) _ _).mono ?_; rintro e wn ⟨rfl, hGn⟩; obtain ⟨kn0, kn1⟩ := HBX.out _ hGn)
        rename Gr w0 _ => hG2
        clear k0 k1 hck haa hG1 kn0 kn1
        go_loopg [23] zs.length (fun kx s23 wr => ∃ j : Nat, s23 = .int .i64 j ∧ j ≤ zs.length ∧ zs.length - j ≤ kx ∧ Aside (∀ q, q < j → P2 (rel sz bs) zs a (gi zs q)) ∧ Gr w0 wr)
        case atStart => exact ⟨0, rfl, Nat.zero_le _, Nat.le_refl _, fun q hq => absurd hq (by omega), hG2⟩
        case round =>
          clear hG2
          obtain ⟨j, rfl, hj, hkx, J2, hG3⟩ := hrel
          by_cases hlt2 : j < zs.length
          · have hltz2 : (j : Int) < (zs.length : Int) := by omega
            obtain ⟨k0, k1⟩ := HBX.out _ hG3
            obtain ⟨blk', off', hbo, hbl, hcs⟩ := HA.out _ hG3 (by omega)
            cases hbo
            have hck : wr.cell? ⟨blk, off + j, none⟩ = some (.int .i64 (gi zs j)) := hcs j hlt2
            obtain ⟨b, hb⟩ : ∃ b, gi zs j = b := ⟨_, rfl⟩
            rw [hb] at hck
            have HBB := Lib.hid hb
            have hkx2 := Lib.hid hkx
            clear hcs hb hbl hkx
            go_upto_region 9 with fail
            go_cut [23, 36] from 23 to 99 (fun s23 s36 wc => s23 = .int .i64 j ∧ s36 = .bool (rel sz bs a b && rel sz bs b a) ∧ Gr w0 wc)
            case first =>
              cases hx : rel sz bs a b with
              | true =>
                cases hy : rel sz bs b a with
                | true =>
                  go_wp2_with (go_at_call 20; refine (HC.out _ (by assumption) _ _).mono ?_; rintro e wn ⟨rfl, hGn⟩; obtain ⟨kn0, kn1⟩ := HBX.out _ hGn)
                  go_meet
                  case rel => exact ⟨rfl, by rw [hx, hy]; rfl, by assumption⟩
                | false =>
                  go_wp2_with (go_at_call 20; refine (HC.out _ (by assumption) _ _).mono ?_; rintro e wn ⟨rfl, hGn⟩; obtain ⟨kn0, kn1⟩ := HBX.out _ hGn)
                  go_meet
                  case rel => exact ⟨rfl, by rw [hx, hy]; rfl, by assumption⟩
              | false =>
                go_wp2_with (go_at_call 20; refine (HC.out _ (by assumption) _ _).mono ?_; rintro e wn ⟨rfl, hGn⟩; obtain ⟨kn0, kn1⟩ := HBX.out _ hGn)
                go_meet
                case rel => exact ⟨rfl, by rw [hx]; rfl, by assumption⟩
            case rest =>
              obtain ⟨rfl, rfl, hG4⟩ := hcut
              clear k0 k1 hck hG3
              cases hxy : (rel sz bs a b && rel sz bs b a) with
              | true =>
                go_wp2
                go_ret
                exact RetW.no hG4 rfl
              | false =>
                have HXY := Lib.hid hxy
                clear hxy
                go_wp2
                go_loopg [39] zs.length (fun kx s39 wr => ∃ k : Nat, s39 = .int .i64 k ∧ k ≤ zs.length ∧ zs.length - k ≤ kx ∧ Aside (∀ q, q < k → P3 (rel sz bs) a b (gi zs q)) ∧ Gr w0 wr)
                case atStart => exact ⟨0, rfl, Nat.zero_le _, Nat.le_refl _, fun q hq => absurd hq (by omega), hG4⟩
                case round =>
                  clear hG4
                  obtain ⟨k, rfl, hk, hkx, J3, hG5⟩ := hrel
                  by_cases hlt3 : k < zs.length
                  · have hltz3 : (k : Int) < (zs.length : Int) := by omega
                    obtain ⟨k0, k1⟩ := HBX.out _ hG5
                    obtain ⟨blk', off', hbo, hbl, hcs⟩ := HA.out _ hG5 (by omega)
                    cases hbo
                    have hck : wr.cell? ⟨blk, off + k, none⟩ = some (.int .i64 (gi zs k)) := hcs k hlt3
                    obtain ⟨c, hc⟩ : ∃ c, gi zs k = c := ⟨_, rfl⟩
                    rw [hc] at hck
                    have HCC := Lib.hid hc
                    clear hcs hc hbl
                    cases hx : rel sz bs a b with
                    | true =>
                      cases hz : rel sz bs b c with
                      | true =>
                        cases hv : rel sz bs a c with
                        | true =>
                          have HP := Lib.hid (show P3 (rel sz bs) a b c from P3.a hx hv)
                          go_wp2_with (go_at_call 20; refine (HC.out _ (by assumption) _ _).mono ?_; rintro e wn ⟨rfl, hGn⟩; obtain ⟨kn0, kn1⟩ := HBX.out _ hGn)
                          go_roundg (zs.length - (k + 1))
                          case measure => omega
                          case rel => exact ⟨k + 1, by simp, by omega, Nat.le_refl _, fun q hq => by
                            rcases Nat.lt_or_ge q k with h | h
                            · exact J3.out q h
                            · obtain rfl : q = k := by omega
                              rw [HCC.out]; exact HP.out, by assumption⟩
                        | false =>
                          go_wp2_with (go_at_call 20; refine (HC.out _ (by assumption) _ _).mono ?_; rintro e wn ⟨rfl, hGn⟩; obtain ⟨kn0, kn1⟩ := HBX.out _ hGn)
                          go_ret
                          exact RetW.no (by assumption) rfl
                      | false =>
                        have HP := Lib.hid (show P3 (rel sz bs) a b c from P3.b hx hz)
                        go_wp2_with (go_at_call 20; refine (HC.out _ (by assumption) _ _).mono ?_; rintro e wn ⟨rfl, hGn⟩; obtain ⟨kn0, kn1⟩ := HBX.out _ hGn)
                        go_roundg (zs.length - (k + 1))
                        case measure => omega
                        case rel => exact ⟨k + 1, by simp, by omega, Nat.le_refl _, fun q hq => by
                          rcases Nat.lt_or_ge q k with h | h
                          · exact J3.out q h
                          · obtain rfl : q = k := by omega
                            rw [HCC.out]; exact HP.out, by assumption⟩
                    | false =>
                      cases hy : rel sz bs b a with
                      | true =>
                        have HP := Lib.hid (show P3 (rel sz bs) a b c from P3.c hx hy)
                        go_wp2_with (go_at_call 20; refine (HC.out _ (by assumption) _ _).mono ?_; rintro e wn ⟨rfl, hGn⟩; obtain ⟨kn0, kn1⟩ := HBX.out _ hGn)
                        go_roundg (zs.length - (k + 1))
                        case measure => omega
                        case rel => exact ⟨k + 1, by simp, by omega, Nat.le_refl _, fun q hq => by
                          rcases Nat.lt_or_ge q k with h | h
                          · exact J3.out q h
                          · obtain rfl : q = k := by omega
                            rw [HCC.out]; exact HP.out, by assumption⟩
                      | false =>
                        cases hz : rel sz bs b c with
                        | true =>
                          have HP := Lib.hid (show P3 (rel sz bs) a b c from P3.d hx hz)
                          go_wp2_with (go_at_call 20; refine (HC.out _ (by assumption) _ _).mono ?_; rintro e wn ⟨rfl, hGn⟩; obtain ⟨kn0, kn1⟩ := HBX.out _ hGn)
                          go_roundg (zs.length - (k + 1))
                          case measure => omega
                          case rel => exact ⟨k + 1, by simp, by omega, Nat.le_refl _, fun q hq => by
                            rcases Nat.lt_or_ge q k with h | h
                            · exact J3.out q h
                            · obtain rfl : q = k := by omega
                              rw [HCC.out]; exact HP.out, by assumption⟩
                        | false =>
                          cases hu : rel sz bs c b with
                          | true =>
                            have HP := Lib.hid (show P3 (rel sz bs) a b c from P3.e hx hu)
                            go_wp2_with (go_at_call 20; refine (HC.out _ (by assumption) _ _).mono ?_; rintro e wn ⟨rfl, hGn⟩; obtain ⟨kn0, kn1⟩ := HBX.out _ hGn)
                            go_roundg (zs.length - (k + 1))
                            case measure => omega
                            case rel => exact ⟨k + 1, by simp, by omega, Nat.le_refl _, fun q hq => by
                              rcases Nat.lt_or_ge q k with h | h
                              · exact J3.out q h
                              · obtain rfl : q = k := by omega
                                rw [HCC.out]; exact HP.out, by assumption⟩
                          | false =>
                            cases hv : rel sz bs a c with
                            | true =>
                              go_wp2_with (go_at_call 20; refine (HC.out _ (by assumption) _ _).mono ?_; rintro e wn ⟨rfl, hGn⟩; obtain ⟨kn0, kn1⟩ := HBX.out _ hGn)
                              go_ret
                              exact RetW.no (by assumption) rfl
                            | false =>
                              cases ht : rel sz bs c a with
                              | true =>
                                go_wp2_with (go_at_call 20; refine (HC.out _ (by assumption) _ _).mono ?_; rintro e wn ⟨rfl, hGn⟩; obtain ⟨kn0, kn1⟩ := HBX.out _ hGn)
                                go_ret
                                exact RetW.no (by assumption) rfl
                              | false =>
                                have HP := Lib.hid (show P3 (rel sz bs) a b c from P3.f hx hv ht)
                                go_wp2_with (go_at_call 20; refine (HC.out _ (by assumption) _ _).mono ?_; rintro e wn ⟨rfl, hGn⟩; obtain ⟨kn0, kn1⟩ := HBX.out _ hGn)
                                go_roundg (zs.length - (k + 1))
                                case measure => omega
                                case rel => exact ⟨k + 1, by simp, by omega, Nat.le_refl _, fun q hq => by
                                  rcases Nat.lt_or_ge q k with h | h
                                  · exact J3.out q h
                                  · obtain rfl : q = k := by omega
                                    rw [HCC.out]; exact HP.out, by assumption⟩
                  · have hltz3 : ¬ (k : Int) < (zs.length : Int) := by omega
                    have HP2 := Lib.hid (show P2 (rel sz bs) zs a b from ⟨(fun h => by have := HXY.out; rw [h.1, h.2] at this; cases this), fun q hq => J3.out q (by omega)⟩)
                    clear hkx
                    go_wp2
                    go_roundg (zs.length - (j + 1))
                    case measure => have := hkx2.out; omega
                    case rel => exact ⟨j + 1, by simp, by omega, Nat.le_refl _, fun q hq => by
                      rcases Nat.lt_or_ge q j with h | h
                      · exact J2.out q h
                      · obtain rfl : q = j := by omega
                        rw [HBB.out]; exact HP2.out, hG5⟩
          · have hltz2 : ¬ (j : Int) < (zs.length : Int) := by omega
            have HP := Lib.hid (show P1 (rel sz bs) zs a from ⟨HP1.out, fun q hq => J2.out q (by omega)⟩)
            clear hkx
            go_wp2
            go_roundg (zs.length - (i + 1))
            case measure => have := hkx1.out; omega
            case rel => exact ⟨i + 1, by simp, by omega, Nat.le_refl _, fun q hq => by
              rcases Nat.lt_or_ge q i with h | h
              · exact J1.out q h
              · obtain rfl : q = i := by omega
                rw [HAA.out]; exact HP.out, hG3⟩
    · have hltz : ¬ (i : Int) < (zs.length : Int) := by omega
      go_wp2
      go_ret
      exact ⟨true, fun _ => weak_of (fun q hq => J1.out q (by omega)), rfl, hG1⟩
end Go.Proofs.Ytfapllhjccpfpaa
