/- Contract of the reference's MinItems. -/
import Derived.Test.YthioaialkilbdabInfoItem
import Derived.Test.YthioaialkilbdabFirstPlain
namespace Go.Proofs.Ythioaialkilbdab
open Go.RowKit

/-- The first item with the least key is handed back, and true. -/
def SpecMin2 (zs : List (Int × Int)) (w : World) (e : Ending) (w' : World) : Prop := ∃ i, FMin zs zs.length i ∧ e = .returned (.tuple #[.agg #[.int .i64 (gk zs i), .int .i64 (gt zs i)], .bool true]) ∧ Below w.heap.size w w'

set_option maxHeartbeats 1600000 in
theorem specMinItems_some (A : Option Addr) (c : Nat) (zs : List (Int × Int)) (w : World) (hA : Items w A zs) (hn : zs.length * 16 ≤ 140737488351232) (h0 : 0 < zs.length) :
    Calls Try.prog 11 #[.slice A zs.length c] w (SpecMin2 zs w) := by
  obtain ⟨b, off, rfl, hbl, hc⟩ := hA h0
  have HC := Lib.hid hc
  clear hc hA
  go_enter Try.func11, Try.ntmps11
  go_wp2
  go_loopw [11] (fun j wr => ∃ k : Nat, k ≤ zs.length ∧ j = .int .i64 k ∧ (∀ i, i < k → KGe zs (gk zs i) zs.length false) ∧ Blk wr w.heap.size 25 #[.int .i64 0, .int .i64 0] ∧ Below w.heap.size w wr) (fun j _ => zs.length - (intOf j).toNat)
  case atStart => exact ⟨0, Nat.zero_le _, rfl, fun i hi => absurd hi (by omega), Blk.new _ _ _, (Below.refl _ _).alloc (Nat.le_refl _) _⟩
  case round =>
    obtain ⟨k, hk, rfl, hs, hR, hb⟩ := hrel
    have HS := Lib.hid hs
    clear hs
    obtain ⟨wo, rfl⟩ : ∃ wo : World, wo = wr := ⟨_, rfl⟩
    by_cases hlt : k < zs.length
    · have hck := (hb.cell (p := ⟨b, off + k * 2, none⟩) hbl).trans (HC.out k hlt).1
      have hck' := (hb.cell (p := ⟨b, off + k * 2 + 1, none⟩) hbl).trans (HC.out k hlt).2
      have hbs := hb.size
      go_wp2
      clear hck hck'
      go_loopw [6, 17] (fun g i wr => ∃ (m : Nat) (x : Bool), m ≤ zs.length ∧ g = .bool x ∧ i = .int .i64 m ∧ KGe zs (gk zs k) m x ∧ Blk wr wo.heap.size 25 #[.int .i64 (gk zs k), .int .i64 (gt zs k)] ∧ Blk wr w.heap.size 25 #[.int .i64 0, .int .i64 0] ∧ Below w.heap.size w wr) (fun _ i _ => zs.length - (intOf i).toNat)
      case atStart => exact ⟨0, true, Nat.zero_le _, rfl, rfl, KGe.start _ _, Blk.new _ _ _, hR.alloc _, hb.alloc hb.size _⟩
      case round =>
        obtain ⟨m, x, hm, rfl, rfl, hx, hV, hR, hb⟩ := hrel
        by_cases hmk : m < zs.length
        · have hcm := (hb.cell (p := ⟨b, off + m * 2, none⟩) hbl).trans (HC.out m hmk).1
          have hcm' := (hb.cell (p := ⟨b, off + m * 2 + 1, none⟩) hbl).trans (HC.out m hmk).2
          have HX := Lib.hid hx.step
          have hv1 := hV.pair.1
          have hv1' := (hV.alloc (.cells #[.int .i64 (gk zs m), .int .i64 (gt zs m)] 25)).pair.1
          have hbs2 := hb.size
          clear hx
          cases x with
          | false =>
            go_wp2
            go_roundw
            case rel => exact ⟨m + 1, false, by omega, rfl, by go_num, by simpa using HX.out, hV.alloc _, hR.alloc _, hb.alloc hb.size _⟩
            case measure => simp [intOf]; omega
          | true =>
            by_cases hle : gk zs k ≤ gk zs m
            · have HX' : Hid (KGe zs (gk zs k) (m + 1) true) := by have := HX.out; simp only [hle, Bool.true_and, decide_true] at this; exact this
              go_wp2
              go_roundw
              case rel => exact ⟨m + 1, true, by omega, rfl, by go_num, HX'.out, hV.alloc _, hR.alloc _, hb.alloc hb.size _⟩
              case measure => simp [intOf]; omega
            · have HX' : Hid (KGe zs (gk zs k) (m + 1) false) := by have := HX.out; simp only [hle, Bool.true_and, decide_false] at this; exact this
              go_wp2
              go_roundw
              case rel => exact ⟨m + 1, false, by omega, rfl, by go_num, HX'.out, hV.alloc _, hR.alloc _, hb.alloc hb.size _⟩
              case measure => simp [intOf]; omega
        · obtain rfl : m = zs.length := by omega
          cases x with
          | false =>
            have HX := Lib.hid hx
            clear hx
            go_wp2
            go_roundw
            case rel => exact ⟨k + 1, by omega, by go_num, fun i hi => by
              rcases Nat.lt_or_ge i k with h | h
              · exact HS.out i h
              · obtain rfl : i = k := by omega
                exact HX.out, hR, hb⟩
            case measure => simp [intOf]; omega
          | true =>
            have HX := Lib.hid (hx.first hlt HS.out)
            obtain ⟨hm1, hm2⟩ := hV.pair
            obtain ⟨hr1, hr2⟩ := hR.pair
            have hf1 := hR.frozen 0
            have hf2 := hR.frozen 1
            have hso := cell_setOther wr w.heap.size (.int .i64 (gk zs k))
            have hF := hR.setPair (.int .i64 (gk zs k)) (.int .i64 (gt zs k))
            obtain ⟨hx1, hx2⟩ := hF.pair
            clear hx
            go_wp2
            refine bodyPost_ret (v := .tuple #[.agg #[.int .i64 (gk zs k), .int .i64 (gt zs k)], .bool true]) (by simp [results, Try.results11, go_sem, hx1, hx2]) rfl ⟨k, HX.out, rfl, (hb.setCell (p := ⟨w.heap.size, 0, none⟩) (by simp) _).setCell (p := ⟨w.heap.size, 1, none⟩) (by simp) _⟩
    · exact (KGe.some_ h0 (fun j hj => HS.out j (by omega))).elim

theorem specMinItems_none (A : Option Addr) (c : Nat) (w : World) :
    Calls Try.prog 11 #[.slice A 0 c] w fun e w' => e = .returned (.tuple #[.agg #[.int .i64 0, .int .i64 0], .bool false]) ∧ Below w.heap.size w w' := by
  go_enter Try.func11, Try.ntmps11
  go_wp2
  go_loopw [11] (fun j wr => j = .int .i64 0 ∧ Blk wr w.heap.size 25 #[.int .i64 0, .int .i64 0] ∧ Below w.heap.size w wr) (fun _ _ => 0)
  case atStart => exact ⟨rfl, Blk.new _ _ _, (Below.refl _ _).alloc (Nat.le_refl _) _⟩
  case round =>
    obtain ⟨rfl, hR, hb⟩ := hrel
    obtain ⟨hr1, hr2⟩ := hR.pair
    have hf1 := hR.frozen 0
    have hf2 := hR.frozen 1
    have hso := cell_setOther wr w.heap.size (.int .i64 0)
    have hF := hR.setPair (.int .i64 0) (.int .i64 0)
    obtain ⟨hx1, hx2⟩ := hF.pair
    go_wp2
    refine bodyPost_ret (v := .tuple #[.agg #[.int .i64 0, .int .i64 0], .bool false]) (by simp [results, Try.results11, go_sem, hx1, hx2]) rfl ⟨rfl, (hb.setCell (p := ⟨w.heap.size, 0, none⟩) (by simp) _).setCell (p := ⟨w.heap.size, 1, none⟩) (by simp) _⟩
end Go.Proofs.Ythioaialkilbdab
