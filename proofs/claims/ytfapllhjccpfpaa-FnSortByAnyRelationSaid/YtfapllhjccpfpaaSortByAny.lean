/- Contracts of slices.SortFunc at numbers and of SortByOrder, by any relation: a list of its own, the same numbers. -/
import Derived.Test.YtfapllhjccpfpaaPdqAny
import Derived.Test.YtfapllhjccpfpaaSign
import Derived.Test.YtfapllhjccpfpaaRetSorted
namespace Go.Proofs.Ytfapllhjccpfpaa
open Go.RowKit

set_option maxHeartbeats 2000000 in
set_option maxRecDepth 100000 in
theorem sortFunc_any {g : Nat} {cb : Array Value} {cf : Int → Int → Int} {blk off n : Nat} {w0 : World} {Z : List Int} (E0 : SEnv g cb cf blk off n w0) (hZ : Z.length = n) (cap : Nat) (w : World) (S : Pm w0 blk off Z w) :
    Calls Try.prog 22 #[.slice (some ⟨blk, off, none⟩) n cap, .func (.func g) #[] cb] w fun e w' => e = .returned (.tuple #[]) ∧ Pm w0 blk off Z w' := by
  have hsm := E0.small
  have hlim : Lib.bitLen n < 4611686018427387904 := Nat.lt_of_le_of_lt (Lib.bitLen_le n 62 (by omega) (by omega)) (by omega)
  have hp := pdq_any E0 hZ cap (n + 1) 0 n (Lib.bitLen n) w (by omega) S (Nat.zero_le _) (Nat.le_refl _) hlim
  have hl : Calls Try.prog 27 #[.int .u64 (n : Int)] w fun e w' => e = .returned (.int .i64 (Lib.bitLen n : Nat)) ∧ w' = w := by
    have h := Any.bits_Len (SlLaysF0.n15.bits (P := Try.prog) (ρ := Try.layLayF_ren) { Try.layLayF with }) (n : Int) w (by omega) (by omega)
    rwa [Int.toNat_natCast] at h
  have wr : IntKind.u64.wrap (n : Int) = n := by simp [IntKind.wrap, IntKind.bits, IntKind.signed]; omega
  clear E0 S hlim
  go_enter Try.func22, Try.ntmps22
  go_wp2_with fail
  refine hl.mono ?_
  rintro e w1 ⟨rfl, rfl⟩
  go_wp2_with fail
  refine hp.mono ?_
  rintro e w2 ⟨rfl, hP⟩
  go_wp2
  go_end0
  exact ⟨rfl, hP⟩

/-- A call hands back a new row of the same numbers. -/
def RetPm (t : TypeId) (zs : List Int) (w : World) (e : Ending) (w' : World) : Prop := ∃ ys : List Int, ys.Perm zs ∧ RetOwn t ys w e w'
theorem ret_elder {t : TypeId} {w w0 : World} {ys : List Int} {e : Ending} {w' : World} (hb : Below w.heap.size w w0) (h : RetOwn t ys w0 e w') : RetOwn t ys w e w' := by
  obtain ⟨A, cap, rfl, ho, hb'⟩ := h
  exact ⟨A, cap, rfl, ho.mono hb.size, hb.trans (hb'.mono hb.size)⟩

set_option maxHeartbeats 1600000 in
theorem sortByOrder_any (A : Option Addr) (c : Nat) (zs : List Int) (sz : Int) (B : Option Addr) (d : Nat) (bs : List Bool) (w : World) (hA : Ints w A zs) (hn : zs.length * 8 ≤ 140737488351232) (hB : Bools w B bs) (hbn : bs.length ≤ 140737488351232) (hsz : sz < 9223372036854775808) :
    Calls Try.prog 13 #[.slice A zs.length c, .agg #[.int .i64 sz, .slice B bs.length d]] w (RetPm 3 zs w) := by
  have hb0 : Below w.heap.size w (w.alloc (.cells #[.int .i64 sz, .slice B bs.length d] 28)) := (Below.refl _ _).alloc (Nat.le_refl _) _
  have hK := Blk.new w 28 #[.int .i64 sz, .slice B bs.length d]
  have hbox : BoxR (w.alloc (.cells #[.int .i64 sz, .slice B bs.length d] 28)) w.heap.size sz bs := ⟨⟨B, d, hK.pair.1, hK.pair.2, hB.below hb0⟩, hbn, hsz⟩
  have hA0 := hA.below hb0
  have HBX := Lib.hid hbox
  clear hbox hK hB
  go_enter Try.func13, Try.ntmps13
  go_wp2_with fail
  refine (numbers_calls _ _ zs _ hA0 hn).mono ?_
  rintro e w1 ⟨A1, cap1, rfl, ho, hb⟩
  generalize hg0 : w.heap.size = g0
  rw [hg0] at HBX
  generalize hW0 : w.alloc (.cells #[.int .i64 sz, .slice B bs.length d] 28) = w00 at hb0 hA0 HBX ho hb
  rcases Nat.eq_zero_or_pos zs.length with h0 | h0
  · obtain rfl : zs = [] := List.eq_nil_of_length_eq_zero h0
    go_wp2_with fail
    refine (AnyF.slices_SortFunc_none (P := Try.prog) (ρ := Try.layLayF_ren) { Try.layLayF with } _ _ _ _).mono ?_
    rintro e w2 ⟨rfl, rfl⟩
    go_wp2
    go_ret
    exact ⟨[], List.Perm.refl _, ret_elder hb0 ⟨A1, cap1, rfl, ho, hb⟩⟩
  · obtain ⟨g, cur, rfl, hg, hk, hc1, hc2, hs, hcur⟩ := ho.block h0
    have hH : Sort.Holds encI w1 g 0 zs.toArray := holds_own hk hcur
    have hR : Row1 encI w1 g 0 zs.toArray := ⟨encI_one, hH, hk.lt⟩
    have hc := sortFunc_any (g := 23) (cb := #[.pointer (some ⟨g0, 0, none⟩)]) (cf := cmpR sz bs) (blk := g) (off := 0) (n := zs.length) (w0 := w1) (Z := zs) ⟨⟨_, hR, by simp⟩, sortCmp_lays HBX.out hb hg 0 _, enters_sortCmp, hn⟩ rfl cap1 w1 ⟨zs.toArray, List.Perm.refl _, SW.start hH⟩
    clear hcur hs hR hH
    go_wp2_with fail
    refine hc.mono ?_
    clear hc
    rintro e w2 ⟨rfl, d', hp, n, os, rfl⟩
    go_wp2
    go_ret
    exact ⟨d'.toList, hp, ret_elder hb0 (retOwn_sorted d'.toList hp.length_eq hb ho)⟩
end Go.Proofs.Ytfapllhjccpfpaa
