/- Contract of slices.symMergeCmpFunc, whole. -/
import Derived.Test.YtnjnphoidjachaaSymMerge
namespace Go.Proofs.Ytnjnphoidjachaa
open Go.RowKit

/-- Where the search over both parts has come to. -/
def Cut2 {α : Type} [Inhabited α] (lt : α → α → Bool) (L : List α) (nn st0 r0 st r : Nat) : Prop := (st = st0 ∨ lt (ge L (nn - st)) (ge L (st - 1)) = false) ∧ (r = r0 ∨ lt (ge L (nn - 1 - r)) (ge L r) = true)

set_option maxHeartbeats 16000000 in
set_option maxRecDepth 1000000 in
theorem symMerge_calls {g : Nat} {cb : Array Value} {cf : Int × Int → Int × Int → Int} {blk off n : Nat} {w0 : World} (E0 : SEnv g cb cf blk off n w0) (cap : Nat) : ∀ (N a m b : Nat) (p u v s : List (Int × Int)) (w : World),
    b - a < N → (p ++ (u ++ (v ++ s))).length = n → a = p.length → m = a + u.length → b = m + v.length → 0 < u.length → 0 < v.length → St w0 blk off (p ++ (u ++ (v ++ s))) w →
    Calls Try.prog 71 #[.slice (some ⟨blk, off, none⟩) n cap, .int .i64 a, .int .i64 m, .int .i64 b, .func (.func g) #[] cb] w fun e w' => e = .returned (.tuple #[]) ∧ ∃ z, Merged (ltOf cf) u v z ∧ St w0 blk off (p ++ (z ++ s)) w' := by
  intro N
  induction N with
  | zero => intro _ _ _ _ _ _ _ _ h; exact absurd h (Nat.not_lt_zero _)
  | succ N ih =>
    intro a m b p u v s w hN hl0 ha hm hb hu hv S
    by_cases c1 : m = a + 1
    · obtain ⟨x, rfl⟩ : ∃ x, u = [x] := List.length_eq_one_iff.1 (by omega)
      exact symMerge_left E0 cap a m b p v s x w hl0 ha c1 hb S
    by_cases c2 : b = m + 1
    · obtain ⟨x, rfl⟩ : ∃ x, v = [x] := List.length_eq_one_iff.1 (by omega)
      exact symMerge_right E0 cap a m b p u s x w hl0 ha hm c2 hu c1 S
    have mixed : Try.prog.follows .mixedOrders = true := by kernel_rfl
    have eg := E0.enters
    have hsm := E0.small
    have E := Lib.hid E0
    have hbn : b ≤ n := by simp at hl0; omega
    have ham : a + 2 ≤ m := by omega
    have hmb : m + 2 ≤ b := by omega
    obtain ⟨L, hL⟩ : ∃ L, L = p ++ (u ++ (v ++ s)) := ⟨_, rfl⟩
    rw [← hL] at hl0 S
    have HA := Lib.hid (show a = p.length ∧ m = a + u.length ∧ b = m + v.length ∧ L = p ++ (u ++ (v ++ s)) from ⟨ha, hm, hb, hL⟩)
    have S0 : Aside (St w0 blk off L w) := S
    have hl := hl0
    have IH := Lib.hid ih
    have HN := Lib.hid hN
    have hmz : ((m : Int) - (a : Int) == 1) = false := beq_eq_false_iff_ne.2 (by omega)
    have hbz : ((b : Int) - (m : Int) == 1) = false := beq_eq_false_iff_ne.2 (by omega)
    obtain ⟨mid, hmid⟩ : ∃ mid, mid = (a + b) / 2 := ⟨_, rfl⟩
    have hmidz : ((a : Int) + (b : Int)) / 2 = (mid : Int) := by omega
    have q1 : a + 2 ≤ mid := by omega
    have q2 : mid + 2 ≤ b := by omega
    have q3 : a + b ≤ 2 * mid + 1 := by omega
    have q4 : 2 * mid ≤ a + b := by omega
    obtain ⟨pp, hpp⟩ : ∃ pp, pp + 1 = mid + m := ⟨mid + m - 1, by omega⟩
    have hppz : (mid : Int) + (m : Int) - 1 = (pp : Int) := by omega
    have wppz : IntKind.i64.wrap ((mid : Int) + (m : Int)) = (mid : Int) + (m : Int) := by rw [IntKind.wrap_i64]; omega
    have wpp : IntKind.i64.wrap (pp : Int) = (pp : Int) := by rw [IntKind.wrap_i64]; omega
    clear S ha hb hL E0 hm hl0 hu hv c1 c2 hmid ih hN
    go_enter Try.func71, Try.ntmps71
    go_upto_if 140 with fail
    go_cut [20, 21] from 138 (fun s20 s21 wc => ∃ st0 r0 : Nat, s20 = .int .i64 st0 ∧ s21 = .int .i64 r0 ∧ st0 ≤ r0 ∧ a ≤ st0 ∧ r0 ≤ m ∧ r0 ≤ mid ∧ mid + m ≤ b + st0 ∧ (st0 = a ∨ st0 + b = mid + m) ∧ (r0 = m ∨ r0 = mid) ∧ w = wc)
    case first =>
      by_cases hgt : mid < m
      · have hgz : (mid : Int) < (m : Int) := by omega
        have hsz : IntKind.i64.wrap ((mid : Int) + (m : Int) - (b : Int)) = (mid : Int) + (m : Int) - (b : Int) := by rw [IntKind.wrap_i64]; omega
        go_wp2_with fail
        go_meet
        case rel => exact ⟨mid + m - b, mid, by congr 1; omega, rfl, by omega, by omega, by omega, by omega, by omega, .inr (by omega), .inr rfl, rfl⟩
      · have hgz : ¬ (mid : Int) < (m : Int) := by omega
        go_wp2_with fail
        go_meet
        case rel => exact ⟨a, m, rfl, rfl, by omega, by omega, by omega, by omega, by omega, .inl rfl, .inl rfl, rfl⟩
    case rest =>
      obtain ⟨st0, r0, rfl, rfl, k1, k2, k3, k4, k5, k6, k7, rfl⟩ := hcut
      have K6 := Lib.hid k6
      have K7 := Lib.hid k7
      clear k6 k7
      go_wp2
      go_loopg [20, 21] (r0 - st0) (fun kx s20 s21 wr => ∃ st r : Nat, s20 = .int .i64 st ∧ s21 = .int .i64 r ∧ st0 ≤ st ∧ st ≤ r ∧ r ≤ r0 ∧ r - st ≤ kx ∧ Aside (Cut2 (ltOf cf) L (pp + 1) st0 r0 st r) ∧ Aside (St w0 blk off L wr))
      case atStart => exact ⟨st0, r0, rfl, rfl, Nat.le_refl _, k1, Nat.le_refl _, Nat.le_refl _, ⟨.inl rfl, .inl rfl⟩, S0⟩
      case round =>
        clear S0
        obtain ⟨st, r, rfl, rfl, h1, h2, h3, hkx, J1, S1⟩ := hrel
        by_cases hlt : st < r
        · have hltz : (st : Int) < (r : Int) := by omega
          obtain ⟨h, hh⟩ : ∃ h, h = (st + r) / 2 := ⟨_, rfl⟩
          have hhz : ((st : Int) + (r : Int)) / 2 = (h : Int) := by omega
          have hih : st ≤ h := by omega
          have hhj : h < r := by omega
          clear hh
          have hph : h ≤ pp := by omega
          have hpn : pp - h < n := by omega
          have ea3 : ((pp : Int) - (h : Int)).toNat = pp - h := by omega
          have pa3 : (0 : Int) ≤ (pp : Int) - (h : Int) := by omega
          have ba3 : (pp : Int) - (h : Int) < (n : Int) := by omega
          have ra3 : IntKind.i64.wrap ((pp : Int) - (h : Int)) = (pp : Int) - (h : Int) := by rw [IntKind.wrap_i64]; omega
          have ec3 : ((h : Int)).toNat = h := by omega
          have pc3 : (0 : Int) ≤ (h : Int) := by omega
          have bc3 : (h : Int) < (n : Int) := by omega
          have rc3 : IntKind.i64.wrap ((h : Int)) = (h : Int) := by rw [IntKind.wrap_i64]; omega
          obtain ⟨x3, hx3⟩ : ∃ x', ge L (pp - h) = x' := ⟨_, rfl⟩
          obtain ⟨y3, hy3⟩ : ∃ y', ge L (h) = y' := ⟨_, rfl⟩
          have lx3 := S1.out.cellsG E.out hl (pp - h) (by omega)
          have ly3 := S1.out.cellsG E.out hl (h) (by omega)
          rw [hx3] at lx3
          rw [hy3] at ly3
          have lx03 := fun q os => (lx3 q os).1
          have lx13 := fun q os => (lx3 q os).2
          have ly03 := fun q os => (ly3 q os).1
          have ly13 := fun q os => (ly3 q os).2
          clear lx3 ly3
          have hc3 := fun q os => S1.out.cmp E.out hl x3 y3 q os
          have HX3 := Lib.hid (show ge L (pp - h) = x3 ∧ ge L (h) = y3 from ⟨hx3, hy3⟩)
          clear hx3 hy3
          by_cases hlv : cf x3 y3 < 0
          · go_wp2_with fail
            go_quiet_grown (first | (go_at_fn g; refine Calls.grown_of (hc3 _ _)))
            have S3 : Aside (St w0 blk off L (Sort.grow (wr.drewN nq) osq)) := S1.out.grown nq osq
            clear lx03 lx13 ly03 ly13 hc3
            clear ea3 pa3 ba3 ra3 ec3 pc3 bc3 rc3 S1
            generalize Sort.grow (wr.drewN nq) osq = w3 at S3 ⊢
            go_wp2
            go_roundg (h - st)
            case measure => omega
            case rel => exact ⟨st, h, rfl, rfl, by omega, by omega, by omega, Nat.le_refl _, ⟨J1.out.1, .inr (by rw [Nat.add_sub_cancel, HX3.out.1, HX3.out.2]; exact decide_eq_true (by omega))⟩, S3⟩
          · go_wp2_with fail
            go_quiet_grown (first | (go_at_fn g; refine Calls.grown_of (hc3 _ _)))
            have S3 : Aside (St w0 blk off L (Sort.grow (wr.drewN nq) osq)) := S1.out.grown nq osq
            clear lx03 lx13 ly03 ly13 hc3
            clear ea3 pa3 ba3 ra3 ec3 pc3 bc3 rc3 S1
            generalize Sort.grow (wr.drewN nq) osq = w3 at S3 ⊢
            go_wp2
            rotate_left 1
            · rename_i hq; rw [decide_eq_false (show ¬ cf x3 y3 < 0 by omega)] at hq; cases hq
            go_roundg (r - (h + 1))
            case measure => omega
            case rel => exact ⟨h + 1, r, by simp, rfl, by omega, by omega, by omega, Nat.le_refl _, ⟨.inr (by rw [Nat.add_sub_cancel, show pp + 1 - (h + 1) = pp - h by omega, HX3.out.1, HX3.out.2]; exact decide_eq_false (by omega)), J1.out.2⟩, S3⟩
        · have hltz : ¬ (st : Int) < (r : Int) := by omega
          obtain rfl : st = r := by omega
          obtain ⟨en, hen⟩ : ∃ en, en + st = mid + m := ⟨mid + m - st, by omega⟩
          have henz : (mid : Int) + (m : Int) - (st : Int) = (en : Int) := by omega
          have wen : IntKind.i64.wrap (en : Int) = (en : Int) := by rw [IntKind.wrap_i64]; omega
          have e1 : a ≤ st := by omega
          have e2 : st ≤ m := by omega
          have e3 : m ≤ en := by omega
          have e4 : en ≤ b := by omega
          have e5 : st ≤ mid := by omega
          have e6 : mid ≤ en := by omega
          obtain ⟨ul, ur, vl, vr, hul, hur, hvl, hvr, hu, hv, MM⟩ : ∃ ul ur vl vr : List (Int × Int), ul.length = st - a ∧ ur.length = m - st ∧ vl.length = en - m ∧ vr.length = b - en ∧ u = ul ++ ur ∧ v = vl ++ vr ∧ Aside (∀ zl zr, Merged (ltOf cf) ul vl zl → Merged (ltOf cf) ur vr zr → Merged (ltOf cf) u v (zl ++ zr)) := by
            obtain ⟨g1, g2, g3, g4⟩ := HA.out
            have gu : ∀ q, q < u.length → ge L (a + q) = ge u q := fun q hq => by
              rw [g4, ge_app_right _ _ (by omega), ge_app_left _ _ (by omega)]
              congr 1
              omega
            have gv : ∀ q, q < v.length → ge L (m + q) = ge v q := fun q hq => by
              rw [g4, ge_app_right _ _ (by omega), ge_app_right _ _ (by omega), ge_app_left _ _ (by omega)]
              congr 1
              omega
            refine ⟨u.take (st - a), u.drop (st - a), v.take (en - m), v.drop (en - m), by simp; omega, by simp; omega, by simp; omega, by simp; omega, (List.take_append_drop _ _).symm, (List.take_append_drop _ _).symm, ?_⟩
            show ∀ zl zr, Merged (ltOf cf) (u.take (st - a)) (v.take (en - m)) zl → Merged (ltOf cf) (u.drop (st - a)) (v.drop (en - m)) zr → Merged (ltOf cf) u v (zl ++ zr)
            intro zl zr hzl hzr
            refine merge_sym (by omega) (by omega) ?_ ?_ hzl hzr
            · by_cases a0 : st = a
              · exact .inl (by omega)
              · by_cases b0 : en = b
                · exact .inr (.inl (by omega))
                · have := J1.out.1.resolve_left (by have := K6.out; omega)
                  rw [show pp + 1 - st = m + (en - m) by omega, show st - 1 = a + (st - a - 1) by omega, gv _ (by omega), gu _ (by omega)] at this
                  exact .inr (.inr this)
            · by_cases a0 : st = m
              · exact .inl (by omega)
              · by_cases b0 : en = m
                · exact .inr (.inl (by omega))
                · have := J1.out.2.resolve_left (by have := K7.out; omega)
                  rw [show pp + 1 - 1 - st = m + (en - m - 1) by omega, gv _ (by omega)] at this
                  rw [show ge L st = ge u (st - a) by rw [← gu _ (by omega)]; congr 1; omega] at this
                  exact .inr (.inr this)
          have HU := Lib.hid hu
          have HV := Lib.hid hv
          have HLL := Lib.hid (show L = p ++ (ul ++ (ur ++ (vl ++ (vr ++ s)))) by rw [HA.out.2.2.2, hu, hv]; simp)
          clear hu hv J1
          generalize wr = wA at S1 ⊢
          clear hkx hltz
          obtain ⟨B1, hB1⟩ : ∃ B : Bool, (B = true ↔ st < m ∧ m < en) := ⟨decide (st < m ∧ m < en), by simp⟩
          obtain ⟨B2, hB2⟩ : ∃ B : Bool, (B = true ↔ a < st ∧ st < mid) := ⟨decide (a < st ∧ st < mid), by simp⟩
          obtain ⟨B3, hB3⟩ : ∃ B : Bool, (B = true ↔ mid < en ∧ en < b) := ⟨decide (mid < en ∧ en < b), by simp⟩
          have HB1 := Lib.hid hB1
          have HB2 := Lib.hid hB2
          have HB3 := Lib.hid hB3
          clear hB1 hB2 hB3
          -- the rotation
          go_upto_region 39 with fail
          go_cut [185] from 178 (fun s185 wc => s185 = .bool B1 ∧ wA = wc)
          case first =>
            by_cases f1 : st < m
            · have f1z : (st : Int) < (m : Int) := by omega
              by_cases f2 : m < en
              · have f2z : (m : Int) < (en : Int) := by omega
                have HT := Lib.hid (show true = B1 from (HB1.out.2 ⟨f1, f2⟩).symm)
                go_wp2_with fail
                go_meet
                case rel => exact ⟨by rw [← HT.out], rfl⟩
              · have f2z : ¬ (m : Int) < (en : Int) := by omega
                have HT := Lib.hid (show false = B1 from (Bool.eq_false_iff.2 fun h => f2 (HB1.out.1 h).2).symm)
                go_wp2_with fail
                go_meet
                case rel => exact ⟨by rw [← HT.out], rfl⟩
            · have f1z : ¬ (st : Int) < (m : Int) := by omega
              have HT := Lib.hid (show false = B1 from (Bool.eq_false_iff.2 fun h => f1 (HB1.out.1 h).1).symm)
              go_wp2_with fail
              go_meet
              case rel => exact ⟨by rw [← HT.out], rfl⟩
          case rest =>
            obtain ⟨rfl, rfl⟩ := hcut
            go_upto_if 185 with fail
            go_cut [185] from 178 (fun _ wc => St w0 blk off (p ++ (ul ++ (vl ++ (ur ++ (vr ++ s))))) wc)
            case first =>
              cases B1 with
              | true =>
                have f := HB1.out.1 rfl
                have hc := rotate_calls E.out cap st m en (p ++ ul) ur vl (vr ++ s) wA (by rw [← hl, HLL.out]; simp) (by have := HA.out.1; simp; omega) (by omega) (by omega) (by omega) (by omega) (by have := S1.out; rw [HLL.out] at this; simpa using this)
                clear f
                go_wp2_with fail
                refine hc.mono ?_
                rintro e w1 ⟨rfl, hS⟩
                go_wp2_with fail
                go_meet
                case rel => simpa using hS
              | false =>
                have f : ¬ (st < m ∧ m < en) := fun h => by have := HB1.out.2 h; cases this
                have hS : Aside (St w0 blk off (p ++ (ul ++ (vl ++ (ur ++ (vr ++ s))))) wA) := by
                  show St _ _ _ _ _
                  have S' := S1.out
                  rw [HLL.out] at S'
                  by_cases f1 : st < m
                  · obtain rfl : vl = [] := List.eq_nil_of_length_eq_zero (by omega)
                    simpa using S'
                  · obtain rfl : ur = [] := List.eq_nil_of_length_eq_zero (by omega)
                    simpa using S'
                clear f
                go_wp2_with fail
                go_meet
                case rel => exact hS.out
            case rest =>
              clear S1
              have S2 : Aside (St w0 blk off (p ++ (ul ++ (vl ++ (ur ++ (vr ++ s))))) wc) := hcut
              clear hcut
              generalize wc = wB at S2 ⊢
              -- the left part
              go_upto_region 41 with fail
              go_cut [199] from 192 (fun s199 wc => s199 = .bool B2 ∧ wB = wc)
              case first =>
                by_cases f1 : a < st
                · have f1z : (a : Int) < (st : Int) := by omega
                  by_cases f2 : st < mid
                  · have f2z : (st : Int) < (mid : Int) := by omega
                    have HT := Lib.hid (show true = B2 from (HB2.out.2 ⟨f1, f2⟩).symm)
                    go_wp2_with fail
                    go_meet
                    case rel => exact ⟨by rw [← HT.out], rfl⟩
                  · have f2z : ¬ (st : Int) < (mid : Int) := by omega
                    have HT := Lib.hid (show false = B2 from (Bool.eq_false_iff.2 fun h => f2 (HB2.out.1 h).2).symm)
                    go_wp2_with fail
                    go_meet
                    case rel => exact ⟨by rw [← HT.out], rfl⟩
                · have f1z : ¬ (a : Int) < (st : Int) := by omega
                  have HT := Lib.hid (show false = B2 from (Bool.eq_false_iff.2 fun h => f1 (HB2.out.1 h).1).symm)
                  go_wp2_with fail
                  go_meet
                  case rel => exact ⟨by rw [← HT.out], rfl⟩
              case rest =>
                obtain ⟨rfl, rfl⟩ := hcut
                go_upto_if 199 with fail
                go_cut [199] from 192 (fun _ wc => ∃ zl, Merged (ltOf cf) ul vl zl ∧ St w0 blk off (p ++ (zl ++ (ur ++ (vr ++ s)))) wc)
                case first =>
                  cases B2 with
                  | true =>
                    have f := HB2.out.1 rfl
                    have hc := IH.out a st mid p ul vl (ur ++ (vr ++ s)) wB (by have := HN.out; omega) (by rw [← hl, HLL.out]; simp; omega) HA.out.1 (by omega) (by omega) (by omega) (by omega) S2.out
                    clear f
                    go_wp2_with fail
                    refine hc.mono ?_
                    rintro e w1 ⟨rfl, hS⟩
                    go_wp2_with fail
                    go_meet
                    case rel => exact hS
                  | false =>
                    have f : ¬ (a < st ∧ st < mid) := fun h => by have := HB2.out.2 h; cases this
                    have hS : Aside (∃ zl, Merged (ltOf cf) ul vl zl ∧ St w0 blk off (p ++ (zl ++ (ur ++ (vr ++ s)))) wB) := by
                      show ∃ zl, Merged (ltOf cf) ul vl zl ∧ St w0 blk off (p ++ (zl ++ (ur ++ (vr ++ s)))) wB
                      by_cases f1 : a < st
                      · obtain rfl : vl = [] := List.eq_nil_of_length_eq_zero (by omega)
                        exact ⟨ul, Merged.nil_right ul, S2.out⟩
                      · obtain rfl : ul = [] := List.eq_nil_of_length_eq_zero (by omega)
                        exact ⟨vl, Merged.nil_left vl, S2.out⟩
                    clear f
                    go_wp2_with fail
                    go_meet
                    case rel => exact hS.out
                case rest =>
                  clear S2
                  obtain ⟨zl, hzl, hS3⟩ := hcut
                  have S3 : Aside (St w0 blk off (p ++ (zl ++ (ur ++ (vr ++ s)))) wc) := hS3
                  have HZ : Aside (Merged (ltOf cf) ul vl zl) := hzl
                  clear hS3 hzl
                  generalize wc = wC at S3 ⊢
                  -- the right part
                  go_upto_region 43 with fail
                  go_cut [213] from 206 (fun s213 wc => s213 = .bool B3 ∧ wC = wc)
                  case first =>
                    by_cases f1 : mid < en
                    · have f1z : (mid : Int) < (en : Int) := by omega
                      by_cases f2 : en < b
                      · have f2z : (en : Int) < (b : Int) := by omega
                        have HT := Lib.hid (show true = B3 from (HB3.out.2 ⟨f1, f2⟩).symm)
                        go_wp2_with fail
                        go_meet
                        case rel => exact ⟨by rw [← HT.out], rfl⟩
                      · have f2z : ¬ (en : Int) < (b : Int) := by omega
                        have HT := Lib.hid (show false = B3 from (Bool.eq_false_iff.2 fun h => f2 (HB3.out.1 h).2).symm)
                        go_wp2_with fail
                        go_meet
                        case rel => exact ⟨by rw [← HT.out], rfl⟩
                    · have f1z : ¬ (mid : Int) < (en : Int) := by omega
                      have HT := Lib.hid (show false = B3 from (Bool.eq_false_iff.2 fun h => f1 (HB3.out.1 h).1).symm)
                      go_wp2_with fail
                      go_meet
                      case rel => exact ⟨by rw [← HT.out], rfl⟩
                  case rest =>
                    obtain ⟨rfl, rfl⟩ := hcut
                    cases B3 with
                    | true =>
                      have f := HB3.out.1 rfl
                      have hzz : zl.length = mid - a := by have := HZ.out.1.length_eq; simp at this; omega
                      have hc := IH.out mid en b (p ++ zl) ur vr s wC (by have := HN.out; omega) (by rw [← hl, HLL.out]; simp; omega) (by have := HA.out.1; simp; omega) (by omega) (by omega) (by omega) (by omega) (by have := S3.out; simpa using this)
                      clear f hzz
                      go_wp2_with fail
                      refine hc.mono ?_
                      rintro e w1 ⟨rfl, zr, hzr, hS⟩
                      go_wp2
                      go_end0
                      exact ⟨rfl, zl ++ zr, MM.out zl zr HZ.out hzr, by simpa using hS⟩
                    | false =>
                      have f : ¬ (mid < en ∧ en < b) := fun h => by have := HB3.out.2 h; cases this
                      have hS : Aside (∃ zr, Merged (ltOf cf) ur vr zr ∧ St w0 blk off (p ++ (zl ++ (zr ++ s))) wC) := by
                        show ∃ zr, Merged (ltOf cf) ur vr zr ∧ St w0 blk off (p ++ (zl ++ (zr ++ s))) wC
                        by_cases f1 : mid < en
                        · obtain rfl : vr = [] := List.eq_nil_of_length_eq_zero (by omega)
                          exact ⟨ur, Merged.nil_right ur, S3.out⟩
                        · obtain rfl : ur = [] := List.eq_nil_of_length_eq_zero (by omega)
                          exact ⟨vr, Merged.nil_left vr, S3.out⟩
                      clear f
                      go_wp2
                      go_end0
                      obtain ⟨zr, hzr, hS'⟩ := hS.out
                      exact ⟨rfl, zl ++ zr, MM.out zl zr HZ.out hzr, by simpa using hS'⟩
end Go.Proofs.Ytnjnphoidjachaa
