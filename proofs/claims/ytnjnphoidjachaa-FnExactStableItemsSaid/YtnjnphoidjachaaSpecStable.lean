/- Contract of the reference's StableItems: the items in order in new memory. -/
import Derived.Test.YtnjnphoidjachaaSpecItems
namespace Go.Proofs.Ytnjnphoidjachaa
open Go.RowKit

set_option maxHeartbeats 3200000 in
theorem specStableItems_calls (A : Option Addr) (c : Nat) (zs ys : List (Int × Int)) (w : World) (hA : Items w A zs) (hn : zs.length * 16 ≤ 140737488351232) (hS : StableOf ltK zs ys) :
    Calls Try.prog 30 #[.slice A zs.length c] w fun e w' => e = .returned (.slice (some ⟨w.heap.size, 0, none⟩) zs.length zs.length) ∧ Blk w' w.heap.size 41 (itemCells ys) ∧ Below w.heap.size w w' := by
  have hmk := run_make_items zs.length hn
  have HS := Lib.hid hS
  clear hS
  go_enter Try.func30, Try.ntmps30
  go_wp2
  clear hmk
  go_loopw [14] (fun i wr => ∃ k : Nat, k ≤ zs.length ∧ i = .int .i64 k ∧ RankedP ltK wr w.heap.size 41 zs k ∧ Below w.heap.size w wr) (fun i _ => zs.length - (intOf i).toNat)
  case atStart => exact ⟨0, Nat.zero_le _, rfl, RankedP.start _ _ _ _ _, (Below.refl _ _).alloc (Nat.le_refl _) _⟩
  case round =>
    obtain ⟨k, hk, rfl, hm, hb⟩ := hrel
    obtain ⟨wo, rfl⟩ : ∃ wo : World, wo = wr := ⟨_, rfl⟩
    by_cases hlt : k < zs.length
    · have hbs := hb.size
      obtain ⟨W0, hW0⟩ : ∃ W0, W0 = wo.alloc (.cells #[.int .i64 (gk zs k), .int .i64 (gt zs k)] 41) := ⟨_, rfl⟩
      have hb0' : Below wo.heap.size wo W0 := by rw [hW0]; exact (Below.refl _ _).alloc (Nat.le_refl _) _
      have hb0 : Below w.heap.size w W0 := hb.trans (hb0'.mono hbs)
      have hv0 : Blk W0 wo.heap.size 41 #[.int .i64 (gk zs k), .int .i64 (gt zs k)] := by rw [hW0]; exact Blk.new _ _ _
      have hm0 := hm.below hb0'
      have hI0 := hA.below hb0
      obtain ⟨b, off, rfl, hbl, hc⟩ := hA.below hb (by omega)
      obtain ⟨hck, hck'⟩ := hc k hlt
      clear hc hm hb
      go_wp2
      rw [← hW0]
      clear hck hck' hW0
      go_loopw [6, 21] (fun n j wr => ∃ a m : Nat, a ≤ zs.length ∧ m ≤ a ∧ n = .int .i64 m ∧ j = .int .i64 a ∧ m = cntG ltK zs (gk zs k, gt zs k) k a ∧ Below W0.heap.size W0 wr) (fun _ j _ => zs.length - (intOf j).toNat)
      case atStart => exact ⟨0, 0, Nat.zero_le _, Nat.le_refl _, rfl, rfl, (cntG_zero _ _ _ _).symm, Below.refl _ _⟩
      case round =>
        obtain ⟨a, m, ha, hma, rfl, rfl, hmm, hbr⟩ := hrel
        by_cases hal : a < zs.length
        · obtain ⟨b', off', hbo, hbl', hc'⟩ := hI0.below hbr (by omega)
          simp only [Option.some.injEq, Addr.mk.injEq, and_true] at hbo
          obtain ⟨rfl, rfl⟩ := hbo
          obtain ⟨hca, hca'⟩ := hc' a hal
          have hv1 := (hv0.below hbr hv0.lt).alloc (.cells #[.int .i64 (gk zs a), .int .i64 (gt zs a)] 41)
          obtain ⟨hx1, hx2⟩ := hv1.pair
          have hbr2 := hbr.alloc hbr.size (.cells #[.int .i64 (gk zs a), .int .i64 (gt zs a)] 41)
          have hst := cntG_step ltK (gk zs k, gt zs k) k (gp_some hal)
          rw [← hmm] at hst
          clear hmm hc' hv1
          by_cases h1 : gk zs a < gk zs k
          · have HM := Lib.hid (show m + 1 = cntG ltK zs (gk zs k, gt zs k) k (a + 1) by rw [hst, if_pos (.inl (by simp [ltK, h1]))])
            clear hst
            go_wp2
            go_roundw
            case rel => exact ⟨a + 1, m + 1, by omega, by omega, by go_num, by go_num, HM.out, hbr2⟩
            case measure => simp [intOf]; omega
          · by_cases h2 : gk zs a = gk zs k
            · have hq : (gk zs a == gk zs k) = true := by simp [h2]
              by_cases h3 : a < k
              · have HM := Lib.hid (show m + 1 = cntG ltK zs (gk zs k, gt zs k) k (a + 1) by rw [hst, if_pos (.inr ⟨by simp [ltK, h2], h3⟩)])
                clear hst h2
                go_wp2
                go_roundw
                case rel => exact ⟨a + 1, m + 1, by omega, by omega, by go_num, by go_num, HM.out, hbr2⟩
                case measure => simp [intOf]; omega
              · have HM := Lib.hid (show m = cntG ltK zs (gk zs k, gt zs k) k (a + 1) by rw [hst, if_neg (by simp [ltK, h1, h3])]; rfl)
                clear hst h2
                go_wp2
                go_roundw
                case rel => exact ⟨a + 1, m, by omega, by omega, rfl, by go_num, HM.out, hbr2⟩
                case measure => simp [intOf]; omega
            · have hq : (gk zs a == gk zs k) = false := by simp [h2]
              have h4 : gk zs k < gk zs a := by omega
              have HM := Lib.hid (show m = cntG ltK zs (gk zs k, gt zs k) k (a + 1) by rw [hst, if_neg (by simp [ltK, h1, h4])]; rfl)
              clear hst h2 h4
              go_wp2
              go_roundw
              case rel => exact ⟨a + 1, m, by omega, by omega, rfl, by go_num, HM.out, hbr2⟩
              case measure => simp [intOf]; omega
        · obtain rfl : a = zs.length := by omega
          have hmr : m = rkP ltK zs k := by rw [hmm]; exact cntG_done ltK zs _ (by omega)
          have hrb : m < zs.length := by rw [hmr]; exact rkP_lt HS.out (weak_K _) hlt
          have hm1 := hm0.below hbr
          obtain ⟨hx1, hx2⟩ := (hv0.below hbr hv0.lt).pair
          obtain ⟨⟨u, hu⟩, ⟨u', hu'⟩, hfz⟩ := hm1.cell hrb
          have hf := hfz (m * 2)
          have hf' := hfz (m * 2 + 1)
          have hu2 := World.cell?_setCell_other wr ⟨w.heap.size, m * 2, none⟩ ⟨w.heap.size, m * 2 + 1, none⟩ (.int .i64 (gk zs k)) (by intro e; simp only [Addr.mk.injEq] at e; omega)
          have HST := Lib.hid (hm1.step HS.out (weak_K _) hlt hmr)
          have hb2 := hb0.trans (hbr.mono hb0.size)
          clear hmr hmm hm0 hm1 hfz
          go_wp2
          go_roundw
          case rel => exact ⟨k + 1, by omega, by go_num, HST.out, (hb2.setCell (Nat.le_refl _) _).setCell (Nat.le_refl _) _⟩
          case measure => simp [intOf]; omega
    · obtain rfl : k = zs.length := by omega
      have hdn := hm.done HS.out (weak_K _)
      go_wp2
      go_ret
      exact ⟨rfl, hdn, hb⟩
end Go.Proofs.Ytnjnphoidjachaa
