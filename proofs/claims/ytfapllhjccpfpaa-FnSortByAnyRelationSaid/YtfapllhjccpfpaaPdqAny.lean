/- Contract of slices.pdqsortCmpFunc and slices.SortFunc at numbers, by any relation: it ends, and the row holds a permutation of what it held. (Printed by gen_pdq.py.) -/
import Derived.Test.YtfapllhjccpfpaaPermAny
import Derived.Test.YtfapllhjccpfpaaNStIns
import Derived.Shelf.SlSortCmp.NoneTotal
import Derived.Deep.CutRange
namespace Go.Proofs.Ytfapllhjccpfpaa
open Go.RowKit

/-- The row holds a permutation of Z. -/
def Pm (w0 : World) (blk off : Nat) (Z : List Int) (W : World) : Prop := ∃ d : Array Int, d.toList.Perm Z ∧ SW encI w0 blk off d W
section
variable {g : Nat} {cb : Array Value} {cf : Int → Int → Int} {blk off n : Nat} {w0 : World} {Z : List Int}
theorem Pm.next {D : Array Int} {d' : Array Int} {W : World} (h : D.toList.Perm Z) (hp : PermA D d') (hs : SW encI w0 blk off d' W) : Pm w0 blk off Z W := ⟨d', List.Perm.trans hp h, hs⟩
theorem Pm.grown {W : World} (h : Pm w0 blk off Z W) (q : Nat) (os : Array Obj) : Pm w0 blk off Z (Sort.grow (W.drewN q) os) := by
  obtain ⟨d, hp, hs⟩ := h
  exact ⟨d, hp, hs.grown q os⟩
theorem Pm.drew {W : World} (h : Pm w0 blk off Z W) : Pm w0 blk off Z W.drew := by
  obtain ⟨d, hp, hs⟩ := h
  exact ⟨d, hp, hs.drew⟩
theorem size_of {D : Array Int} (hZ : Z.length = n) (h : D.toList.Perm Z) : D.size = n := by
  rw [← hZ, ← h.length_eq, Array.length_toList]

theorem ins_any (E : SEnv g cb cf blk off n w0) (hZ : Z.length = n) (cap a b : Nat) (w : World) (hab : a ≤ b) (hb : b ≤ n) (S : Pm w0 blk off Z w) :
    Calls Try.prog 28 #[.slice (some ⟨blk, off, none⟩) n cap, .int .i64 a, .int .i64 b, .func (.func g) #[] cb] w fun e w' => e = .returned (.tuple #[]) ∧ Pm w0 blk off Z w' := by
  obtain ⟨d0, R, hd⟩ := E.row
  obtain ⟨D, hD, hS⟩ := S
  have hs := size_of hZ hD
  have hsm := E.small
  have hcmp := E.cmp
  rw [← hd] at hcmp
  have hc := Any.insertionSortCmpFunc_s (P := Try.prog) (ρ := Try.layLayF_ren) { Try.layLayF with } encI cf g cb blk off cap a b d0 D w0 w E.enters hcmp R (by omega) hS hab (by omega) (by omega)
  rw [hs] at hc
  exact hc.mono fun e w' ⟨he, h⟩ => ⟨he, Pm.next hD (insertionSort_perm _ D a (by omega)) h⟩
theorem heap_any (E : SEnv g cb cf blk off n w0) (hZ : Z.length = n) (cap a b : Nat) (w : World) (hab : a ≤ b) (hb : b ≤ n) (S : Pm w0 blk off Z w) :
    Calls Try.prog 30 #[.slice (some ⟨blk, off, none⟩) n cap, .int .i64 a, .int .i64 b, .func (.func g) #[] cb] w fun e w' => e = .returned (.tuple #[]) ∧ Pm w0 blk off Z w' := by
  obtain ⟨d0, R, hd⟩ := E.row
  obtain ⟨D, hD, hS⟩ := S
  have hs := size_of hZ hD
  have hsm := E.small
  have hcmp := E.cmp
  rw [← hd] at hcmp
  have hc := Any.heapSortCmpFunc (P := Try.prog) (ρ := Try.layLayF_ren) { Try.layLayF with } encI cf g cb blk off cap a b d0 D w0 w E.enters hcmp R (by omega) hS hab (by omega) (by omega)
  rw [hs] at hc
  exact hc.mono fun e w' ⟨he, h⟩ => ⟨he, Pm.next hD (heapSort_perm _ D hab (by omega)) h⟩
theorem break_any (E : SEnv g cb cf blk off n w0) (hZ : Z.length = n) (cap a b : Nat) (w : World) (hab : a ≤ b) (hb : b ≤ n) (S : Pm w0 blk off Z w) :
    Calls Try.prog 31 #[.slice (some ⟨blk, off, none⟩) n cap, .int .i64 a, .int .i64 b, .func (.func g) #[] cb] w fun e w' => e = .returned (.tuple #[]) ∧ Pm w0 blk off Z w' := by
  obtain ⟨d0, R, hd⟩ := E.row
  obtain ⟨D, hD, hS⟩ := S
  have hs := size_of hZ hD
  have hsm := E.small
  have hc := Any.breakPatternsCmpFunc (P := Try.prog) (ρ := Try.layLayF_ren) { Try.layLayF with } encI g cb blk off cap a b d0 D w0 w R (by omega) hS hab (by omega) (by omega)
  rw [hs] at hc
  exact hc.mono fun e w' ⟨he, h⟩ => ⟨he, Pm.next hD (PermA.of_in (by omega) (Sort.breakPatterns_holds D a b hab (by omega))) h⟩
theorem reverse_any (E : SEnv g cb cf blk off n w0) (hZ : Z.length = n) (cap a b : Nat) (w : World) (hab : a ≤ b) (hb : b ≤ n) (S : Pm w0 blk off Z w) :
    Calls Try.prog 33 #[.slice (some ⟨blk, off, none⟩) n cap, .int .i64 a, .int .i64 b, .func (.func g) #[] cb] w fun e w' => e = .returned (.tuple #[]) ∧ Pm w0 blk off Z w' := by
  obtain ⟨d0, R, hd⟩ := E.row
  obtain ⟨D, hD, hS⟩ := S
  have hs := size_of hZ hD
  have hsm := E.small
  have hc := Any.reverseRangeCmpFunc (P := Try.prog) (ρ := Try.layLayF_ren) { Try.layLayF with } encI g cb blk off cap a b d0 D w0 w R (by omega) hS hab (by omega) (by omega)
  rw [hs] at hc
  exact hc.mono fun e w' ⟨he, h⟩ => ⟨he, Pm.next hD (PermA.of_in (by omega) (Sort.reverseRange_holds D a b hab (by omega))) h⟩
theorem pivot_any (E : SEnv g cb cf blk off n w0) (hZ : Z.length = n) (cap a b : Nat) (w : World) (hab : a < b) (hb : b ≤ n) (S : Pm w0 blk off Z w) :
    Calls Try.prog 32 #[.slice (some ⟨blk, off, none⟩) n cap, .int .i64 a, .int .i64 b, .func (.func g) #[] cb] w fun e w' => ∃ (pv : Nat) (hc : Int), e = .returned (.tuple #[.int .i64 pv, .int .i64 hc]) ∧ a ≤ pv ∧ pv < b ∧ Pm w0 blk off Z w' := by
  obtain ⟨d0, R, hd⟩ := E.row
  obtain ⟨D, hD, hS⟩ := S
  have hs := size_of hZ hD
  have hsm := E.small
  have hcmp := E.cmp
  rw [← hd] at hcmp
  have hc := Any.choosePivotCmpFunc (P := Try.prog) (ρ := Try.layLayF_ren) { Try.layLayF with } encI cf g cb blk off cap a b d0 D w0 w E.enters hcmp R (by omega) hS hab (by omega) (by omega)
  rw [hs] at hc
  have hp := Sort.choosePivot_holds (ltOf cf) D a b hab
  exact hc.mono fun e w' ⟨he, h⟩ => ⟨_, _, he, hp.1, hp.2, D, hD, h⟩
theorem partial_any (E : SEnv g cb cf blk off n w0) (hZ : Z.length = n) (cap a b : Nat) (w : World) (hab : a < b) (hb : b ≤ n) (S : Pm w0 blk off Z w) :
    Calls Try.prog 34 #[.slice (some ⟨blk, off, none⟩) n cap, .int .i64 a, .int .i64 b, .func (.func g) #[] cb] w fun e w' => ∃ r : Bool, e = .returned (.bool r) ∧ Pm w0 blk off Z w' := by
  obtain ⟨d0, R, hd⟩ := E.row
  obtain ⟨D, hD, hS⟩ := S
  have hs := size_of hZ hD
  have hsm := E.small
  have hcmp := E.cmp
  rw [← hd] at hcmp
  have hc := Any.partialInsertionSortCmpFunc (P := Try.prog) (ρ := Try.layLayF_ren) { Try.layLayF with } encI cf g cb blk off cap a b d0 D w0 w E.enters hcmp R (by omega) hS (by omega) (by omega) (by omega)
  rw [hs] at hc
  exact hc.mono fun e w' ⟨he, h⟩ => ⟨_, he, Pm.next hD (partialInsertionSort_perm _ D hab (by omega)) h⟩
theorem part_any (E : SEnv g cb cf blk off n w0) (hZ : Z.length = n) (cap a b pv : Nat) (w : World) (h1 : a ≤ pv) (h2 : pv < b) (hb : b ≤ n) (S : Pm w0 blk off Z w) :
    Calls Try.prog 36 #[.slice (some ⟨blk, off, none⟩) n cap, .int .i64 a, .int .i64 b, .int .i64 pv, .func (.func g) #[] cb] w fun e w' => ∃ (mid : Nat) (r : Bool), e = .returned (.tuple #[.int .i64 mid, .bool r]) ∧ a ≤ mid ∧ mid < b ∧ Pm w0 blk off Z w' := by
  obtain ⟨d0, R, hd⟩ := E.row
  obtain ⟨D, hD, hS⟩ := S
  have hs := size_of hZ hD
  have hsm := E.small
  have hcmp := E.cmp
  rw [← hd] at hcmp
  have hc := Any.partitionCmpFunc (P := Try.prog) (ρ := Try.layLayF_ren) { Try.layLayF with } encI cf g cb blk off cap a b pv d0 D w0 w E.enters hcmp R (by omega) hS h1 h2 (by omega) (by omega)
  rw [hs] at hc
  have hp := partition_any (ltOf cf) D h1 h2 (by omega)
  exact hc.mono fun e w' ⟨he, h⟩ => ⟨_, _, he, hp.1, hp.2.1, Pm.next hD hp.2.2 h⟩
theorem partEq_any (E : SEnv g cb cf blk off n w0) (hZ : Z.length = n) (cap a b pv : Nat) (w : World) (h1 : a ≤ pv) (h2 : pv < b) (hb : b ≤ n) (S : Pm w0 blk off Z w) :
    Calls Try.prog 35 #[.slice (some ⟨blk, off, none⟩) n cap, .int .i64 a, .int .i64 b, .int .i64 pv, .func (.func g) #[] cb] w fun e w' => ∃ mid : Nat, e = .returned (.int .i64 mid) ∧ a < mid ∧ mid ≤ b ∧ Pm w0 blk off Z w' := by
  obtain ⟨d0, R, hd⟩ := E.row
  obtain ⟨D, hD, hS⟩ := S
  have hs := size_of hZ hD
  have hsm := E.small
  have hcmp := E.cmp
  rw [← hd] at hcmp
  have hc := Any.partitionEqualCmpFunc (P := Try.prog) (ρ := Try.layLayF_ren) { Try.layLayF with } encI cf g cb blk off cap a b pv d0 D w0 w E.enters hcmp R (by omega) hS h1 h2 (by omega) (by omega)
  rw [hs] at hc
  have hp := partitionEqual_any (ltOf cf) D h1 h2 (by omega)
  exact hc.mono fun e w' ⟨he, h⟩ => ⟨_, he, hp.1, hp.2.1, Pm.next hD hp.2.2 h⟩
end

set_option maxHeartbeats 25600000 in
set_option maxRecDepth 1000000 in
theorem pdq_any {g : Nat} {cb : Array Value} {cf : Int → Int → Int} {blk off n : Nat} {w0 : World} {Z : List Int} (E0 : SEnv g cb cf blk off n w0) (hZ : Z.length = n) (cap : Nat) : ∀ (N a b limit : Nat) (w : World), b - a < N → Pm w0 blk off Z w → a ≤ b → b ≤ n → limit < 4611686018427387904 →
    Calls Try.prog 26 #[.slice (some ⟨blk, off, none⟩) n cap, .int .i64 a, .int .i64 b, .int .i64 limit, .func (.func g) #[] cb] w fun e w' => e = .returned (.tuple #[]) ∧ Pm w0 blk off Z w' := by
  intro N
  induction N with
  | zero => intro _ _ _ _ h; exact absurd h (Nat.not_lt_zero _)
  | succ N ih =>
    intro a b limit w hN S hab hb hlimit
    have mixed : Try.prog.follows .mixedOrders = true := by kernel_rfl
    have eg := E0.enters
    have hsm := E0.small
    have E := Lib.hid E0
    have HZ := Lib.hid hZ
    have IH := Lib.hid ih
    have HN := Lib.hid hN
    have S0 : Aside (Pm w0 blk off Z w) := S
    clear E0 hZ ih hN S
    go_enter Try.func26, Try.ntmps26
    go_wp2
    go_loopg [1, 2, 3, 10, 11] (b - a) (fun kx s1 s2 s3 s10 s11 wr => ∃ (a' b' lim : Nat) (wb wp : Bool), s1 = .int .i64 a' ∧ s2 = .int .i64 b' ∧ s3 = .int .i64 lim ∧ s10 = .bool wb ∧ s11 = .bool wp ∧ a' ≤ b' ∧ b' ≤ n ∧ b' - a' ≤ kx ∧ kx ≤ b - a ∧ lim < 4611686018427387904 ∧ Aside (Pm w0 blk off Z wr))
    case atStart => exact ⟨a, b, limit, true, true, rfl, rfl, rfl, rfl, rfl, hab, hb, Nat.le_refl _, Nat.le_refl _, hlimit, S0⟩
    case round =>
      clear S0
      obtain ⟨a', b', lim, wb, wp, rfl, rfl, rfl, rfl, rfl, hab', hb', hkx, hkN, hlm0, S1⟩ := hrel
      by_cases h12 : b' - a' ≤ 12
      · have h12z : (b' : Int) - (a' : Int) ≤ 12 := by omega
        have hc := ins_any E.out HZ.out cap a' b' wr hab' hb' S1.out
        clear S1
        go_wp2_with fail
        refine hc.mono ?_
        rintro e w1 ⟨rfl, hP⟩
        go_wp2
        (try simp only [Exit.inBlock, Exit.then]); refine bodyPost_ret (results_none rfl _ _ _) rfl ?_
        exact ⟨rfl, hP⟩
      · have h12z : ¬ ((b' : Int) - (a' : Int) ≤ 12) := by omega
        by_cases hl0 : lim = 0
        · subst hl0
          have hc := heap_any E.out HZ.out cap a' b' wr hab' hb' S1.out
          clear S1
          go_wp2_with fail
          refine hc.mono ?_
          rintro e w1 ⟨rfl, hP⟩
          go_wp2
          (try simp only [Exit.inBlock, Exit.then]); refine bodyPost_ret (results_none rfl _ _ _) rfl ?_
          exact ⟨rfl, hP⟩
        · have hl0z : ¬ ((lim : Int) = 0) := by omega
          have hab1 : a' < b' := by omega
          go_upto_if 39 with fail
          go_cut [3] from 21 (fun s3 wc => ∃ lim' : Nat, s3 = .int .i64 lim' ∧ lim' < 4611686018427387904 ∧ Pm w0 blk off Z wc)
          case first =>
            cases wb
            · have hc := break_any E.out HZ.out cap a' b' wr hab' hb' S1.out
              clear S1
              go_wp2_with fail
              refine hc.mono ?_
              rintro e w1 ⟨rfl, hP⟩
              go_wp2_with fail
              go_meet
              case rel => exact ⟨lim - 1, by congr 1; omega, by omega, hP⟩
            · go_wp2_with fail
              go_meet
              case rel => exact ⟨lim, rfl, hlm0, S1.out⟩
          case rest =>
            obtain ⟨lim', rfl, hlm, hP1⟩ := hcut
            clear S1 hl0 hl0z hlm0
            have hc17 := pivot_any E.out HZ.out cap a' b' wc hab1 hb' hP1
            clear hP1
            go_upto_if 56 with (go_at_call 32; refine hc17.mono ?_; rintro e w2 ⟨pv0, hc0, rfl, hq1, hq2, hP2⟩)
            have S2 : Aside (Pm w0 blk off Z w2) := hP2
            clear hP2 hc17
            go_cut [13, 14] from 21 (fun s13 s14 wc => ∃ (pv : Nat) (hc : Int), s13 = .int .i64 pv ∧ s14 = .int .i64 hc ∧ a' ≤ pv ∧ pv < b' ∧ Pm w0 blk off Z wc)
            case first =>
              by_cases hh : hc0 = 2
              · subst hh
                have hc18 := reverse_any E.out HZ.out cap a' b' w2 hab' hb' S2.out
                clear S2
                go_wp2_with fail
                refine hc18.mono ?_
                rintro e w3 ⟨rfl, hP3⟩
                go_wp2_with fail
                go_meet
                case rel => exact ⟨b' - 1 - (pv0 - a'), 1, by congr 1; omega, rfl, by omega, by omega, hP3⟩
              · have hh' : (hc0 == 2) = false := by simp [hh]
                go_wp2_with fail
                go_meet
                case rel => exact ⟨pv0, hc0, rfl, rfl, hq1, hq2, S2.out⟩
            case rest =>
              obtain ⟨pv, hc, rfl, rfl, hpv1, hpv2, hP3⟩ := hcut
              have S3 : Aside (Pm w0 blk off Z wc) := hP3
              clear S2 hP3 hq1 hq2
              generalize wc = w3 at S3 ⊢
              obtain ⟨B1, hB1⟩ : ∃ B1 : Bool, B1 = (wb && wp && (hc == 1)) := ⟨_, rfl⟩
              have HB1 := Lib.hid hB1
              clear hB1
              go_upto_region 15 with fail
              go_cut [14, 75] from 21 (fun s14 s75 wx => s14 = .int .i64 hc ∧ s75 = .bool B1 ∧ w3 = wx)
              case first =>
                cases wb
                · have HT := Lib.hid (show false = B1 by rw [HB1.out]; rfl)
                  cases wp <;>
                    (go_wp2_with fail
                     go_meet
                     exact ⟨rfl, by rw [← HT.out], rfl⟩)
                · cases wp
                  · have HT := Lib.hid (show false = B1 by rw [HB1.out]; rfl)
                    go_wp2_with fail
                    go_meet
                    exact ⟨rfl, by rw [← HT.out], rfl⟩
                  · by_cases hh1 : hc = 1
                    · subst hh1
                      have HT := Lib.hid (show true = B1 by rw [HB1.out]; rfl)
                      go_wp2_with fail
                      go_meet
                      exact ⟨rfl, by rw [← HT.out], rfl⟩
                    · have hh' : (hc == 1) = false := by simp [hh1]
                      have HT := Lib.hid (show false = B1 by rw [HB1.out, hh']; rfl)
                      go_wp2_with fail
                      go_meet
                      exact ⟨rfl, by rw [← HT.out], rfl⟩
              case rest =>
                obtain ⟨rfl, rfl, rfl⟩ := hcut
                go_upto_if 75 with fail
                go_cut [75] from 21 (fun _ wx => Pm w0 blk off Z wx)
                case first =>
                  cases B1
                  · go_wp2_with fail
                    go_meet
                    case rel => exact S3.out
                  · have hc19 := partial_any E.out HZ.out cap a' b' w3 hab1 hb' S3.out
                    clear S3
                    go_wp2_with fail
                    refine hc19.mono ?_
                    rintro e w4 ⟨r, rfl, hP4⟩
                    cases r
                    · go_wp2_with fail
                      go_meet
                      case rel => exact hP4
                    · go_wp2
                      (try simp only [Exit.inBlock, Exit.then]); refine bodyPost_ret (results_none rfl _ _ _) rfl ?_
                      exact ⟨rfl, hP4⟩
                case rest =>
                  have S5 : Aside (Pm w0 blk off Z wc) := hcut
                  clear hcut S3
                  generalize wc = w5 at S5 ⊢
                  rcases Nat.eq_zero_or_pos a' with ha0 | ha0
                  · have hn0z : decide ((0 : Int) < (a' : Int)) = false := decide_eq_false (by omega)
                    have ha0z : decide ((a' : Int) > 0) = false := decide_eq_false (by omega)
                    have hn0 : ¬ (0 < a') := by omega
                    clear ha0
                    go_wp2_with fail
                    go_big_region_o
                    have S6 : Aside (Pm w0 blk off Z w5.drew) := S5.out.drew
                    clear S5
                    generalize w5.drew = w6 at S6 ⊢
                    have hc22 := part_any E.out HZ.out cap a' b' pv w6 hpv1 hpv2 hb' S6.out
                    clear S6
                    go_upto_if 125 with (go_at_call 36; refine hc22.mono ?_; rintro e w7 ⟨mid, r, rfl, hm1, hm2, hP7⟩)
                    have S7 : Aside (Pm w0 blk off Z w7) := hP7
                    clear hP7 hc22
                    by_cases h4 : mid - a' < b' - mid
                    · have h4z : (mid : Int) - (a' : Int) < (b' : Int) - (mid : Int) := by omega
                      have hih := IH.out a' mid lim' w7 (by have := HN.out; omega) S7.out (by omega) (by omega) hlm
                      clear S7
                      go_wp2_with fail
                      refine hih.mono ?_
                      rintro e w8 ⟨rfl, hP8⟩
                      go_wp2
                      go_roundg (b' - (mid + 1))
                      case measure => omega
                      case rel => exact ⟨mid + 1, b', lim', _, _, by simp, rfl, rfl, rfl, rfl, by omega, by omega, Nat.le_refl _, by omega, hlm, hP8⟩
                    · have h4z : ¬ ((mid : Int) - (a' : Int) < (b' : Int) - (mid : Int)) := by omega
                      have hih := IH.out (mid + 1) b' lim' w7 (by have := HN.out; omega) S7.out (by omega) (by omega) hlm
                      rw [show ((mid + 1 : Nat) : Int) = (mid : Int) + 1 by omega] at hih
                      clear S7
                      go_wp2_with fail
                      refine hih.mono ?_
                      rintro e w8 ⟨rfl, hP8⟩
                      go_wp2
                      go_roundg (mid - a')
                      case measure => omega
                      case rel => exact ⟨a', mid, lim', _, _, rfl, rfl, rfl, rfl, rfl, by omega, by omega, Nat.le_refl _, by omega, hlm, hP8⟩
                  · obtain ⟨ap, hap⟩ : ∃ q, q + 1 = a' := ⟨a' - 1, by omega⟩
                    have zap : (a' : Int) = (ap : Int) + 1 := by omega
                    have ha0d' : decide ((ap : Int) + 1 > 0) = true := decide_eq_true (by omega)
                    have ha0d : decide ((0 : Int) < (ap : Int) + 1) = true := decide_eq_true (by omega)
                    have ha0z : (0 : Int) < (ap : Int) + 1 := by omega
                    obtain ⟨d5, hp5, hS5⟩ := S5.out
                    have hs5 := size_of HZ.out hp5
                    obtain ⟨d0, R, hd0⟩ := E.out.row
                    have hcm := E.out.cmp
                    have ea : ((ap : Int)).toNat = ap := by omega
                    have pa : (0 : Int) ≤ (ap : Int) := by omega
                    have ba : (ap : Int) < (n : Int) := by omega
                    have ra : IntKind.i64.wrap ((ap : Int)) = (ap : Int) := by rw [IntKind.wrap_i64]; omega
                    have ec : ((pv : Int)).toNat = pv := by omega
                    have pc : (0 : Int) ≤ (pv : Int) := by omega
                    have bc : (pv : Int) < (n : Int) := by omega
                    have rc : IntKind.i64.wrap ((pv : Int)) = (pv : Int) := by rw [IntKind.wrap_i64]; omega
                    have lx := hS5.cl R (by omega) ap (by omega)
                    have ly := hS5.cl R (by omega) pv (by omega)
                    obtain ⟨x, hx⟩ : ∃ x, d5[ap]! = x := ⟨_, rfl⟩
                    obtain ⟨y, hy⟩ : ∃ y, d5[pv]! = y := ⟨_, rfl⟩
                    rw [hx] at lx
                    rw [hy] at ly
                    simp only [encI] at lx ly
                    have hcc := hS5.cmp hcm (by omega) x y
                    simp only [encI] at hcc
                    clear hx hy hS5 hp5 hs5 hcm R hd0
                    by_cases hlv : cf x y < 0
                    · have hd : decide (cf x y < 0) = true := decide_eq_true hlv
                      go_wp2_with fail
                      go_quiet_grown (first | (go_at_fn g; refine Calls.grown_of (hcc _ _)))
                      have S6 : Aside (Pm w0 blk off Z (Sort.grow (w5.drewN nq) osq)) := S5.out.grown nq osq
                      clear lx ly hcc S5
                      generalize Sort.grow (w5.drewN nq) osq = w6 at S6 ⊢
                      clear nq osq ea pa ba ra ec pc bc rc hd hlv
                      simp only [← zap]
                      clear zap hap ha0d' ha0d ha0z
                      have hc22 := part_any E.out HZ.out cap a' b' pv w6 hpv1 hpv2 hb' S6.out
                      clear S6
                      go_upto_if 125 with (go_at_call 36; refine hc22.mono ?_; rintro e w7 ⟨mid, r, rfl, hm1, hm2, hP7⟩)
                      have S7 : Aside (Pm w0 blk off Z w7) := hP7
                      clear hP7 hc22
                      by_cases h4 : mid - a' < b' - mid
                      · have h4z : (mid : Int) - (a' : Int) < (b' : Int) - (mid : Int) := by omega
                        have hih := IH.out a' mid lim' w7 (by have := HN.out; omega) S7.out (by omega) (by omega) hlm
                        clear S7
                        go_wp2_with fail
                        refine hih.mono ?_
                        rintro e w8 ⟨rfl, hP8⟩
                        go_wp2
                        go_roundg (b' - (mid + 1))
                        case measure => omega
                        case rel => exact ⟨mid + 1, b', lim', _, _, by simp, rfl, rfl, rfl, rfl, by omega, by omega, Nat.le_refl _, by omega, hlm, hP8⟩
                      · have h4z : ¬ ((mid : Int) - (a' : Int) < (b' : Int) - (mid : Int)) := by omega
                        have hih := IH.out (mid + 1) b' lim' w7 (by have := HN.out; omega) S7.out (by omega) (by omega) hlm
                        rw [show ((mid + 1 : Nat) : Int) = (mid : Int) + 1 by omega] at hih
                        clear S7
                        go_wp2_with fail
                        refine hih.mono ?_
                        rintro e w8 ⟨rfl, hP8⟩
                        go_wp2
                        go_roundg (mid - a')
                        case measure => omega
                        case rel => exact ⟨a', mid, lim', _, _, rfl, rfl, rfl, rfl, rfl, by omega, by omega, Nat.le_refl _, by omega, hlm, hP8⟩
                    · have hd : decide (cf x y < 0) = false := decide_eq_false hlv
                      go_wp2_with fail
                      go_quiet_grown (first | (go_at_fn g; refine Calls.grown_of (hcc _ _)))
                      have S6 : Aside (Pm w0 blk off Z (Sort.grow (w5.drewN nq) osq)) := S5.out.grown nq osq
                      clear lx ly hcc S5
                      generalize Sort.grow (w5.drewN nq) osq = w6 at S6 ⊢
                      clear nq osq ea pa ba ra ec pc bc rc hd hlv
                      simp only [← zap]
                      clear zap hap ha0d' ha0d ha0z
                      have hc21 := partEq_any E.out HZ.out cap a' b' pv w6 hpv1 hpv2 hb' S6.out
                      clear S6
                      go_wp2_with fail
                      refine hc21.mono ?_
                      rintro e w7 ⟨mid, rfl, hm1, hm2, hP7⟩
                      go_wp2
                      go_roundg (b' - mid)
                      case measure => omega
                      case rel => exact ⟨mid, b', lim', wb, wp, rfl, rfl, rfl, rfl, rfl, hm2, hb', Nat.le_refl _, by omega, hlm, hP7⟩
end Go.Proofs.Ytfapllhjccpfpaa
