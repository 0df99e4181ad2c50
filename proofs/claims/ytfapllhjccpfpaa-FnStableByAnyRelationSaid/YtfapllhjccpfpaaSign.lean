/- Contracts of sign and of the comparisons that SortByOrder and StableByOrder hand to the library. -/
import Derived.Test.YtfapllhjccpfpaaBefore
import Derived.Test.YtfapllhjccpfpaaNStW
namespace Go.Proofs.Ytfapllhjccpfpaa
open Go.RowKit

/-- Draws and new blocks, nothing else. -/
def Gr (w w' : World) : Prop := ∃ q os, w' = Sort.grow (w.drewN q) os
theorem Gr.refl (w : World) : Gr w w := ⟨0, #[], by rw [Sort.grow_empty]; rfl⟩
theorem Gr.drewN {a b : World} (h : Gr a b) (n : Nat) : Gr a (b.drewN n) := by
  obtain ⟨q, os, rfl⟩ := h
  exact ⟨q + n, os, by show Sort.grow ((a.drewN q).drewN n) os = _; rw [World.drewN_drewN]⟩
theorem Gr.alloc {a b : World} (h : Gr a b) (o : Obj) : Gr a (b.alloc o) := by
  obtain ⟨q, os, rfl⟩ := h
  exact ⟨q, os ++ #[o], by rw [Sort.alloc_eq_grow, Sort.grow_grow]⟩
theorem Gr.trans {a b c : World} (h : Gr a b) (k : Gr b c) : Gr a c := by
  obtain ⟨q, os, rfl⟩ := h
  obtain ⟨q', os', rfl⟩ := k
  exact ⟨q + q', os ++ os', by show Sort.grow (Sort.grow ((a.drewN q).drewN q') os) os' = _; rw [World.drewN_drewN, Sort.grow_grow]⟩
theorem Gr.below {a b : World} (h : Gr a b) : Below a.heap.size a b := by
  obtain ⟨q, os, rfl⟩ := h
  refine ⟨rfl, rfl, rfl, by rw [Sort.size_grow]; exact Nat.le_add_right _ _, fun k hk => ?_⟩
  exact Sort.heap_grow_old (a.drewN q) os hk

set_option maxHeartbeats 1600000 in
theorem sign_calls (sz : Int) (A : Option Addr) (c : Nat) (bs : List Bool) (a b : Int) (w : World) (hB : Bools w A bs) (hn : bs.length ≤ 140737488351232) (hsz : sz < 9223372036854775808) :
    Calls Try.prog 19 #[.agg #[.int .i64 sz, .slice A bs.length c], .int .i64 a, .int .i64 b] w fun e w' => e = .returned (.int .i64 (cmpR sz bs a b)) ∧ Gr w w' := by
  have hK : Blk (w.alloc (.cells #[.int .i64 sz, .slice A bs.length c] 28)) w.heap.size 28 #[.int .i64 sz, .slice A bs.length c] := Blk.new _ _ _
  have hG : Gr w (w.alloc (.cells #[.int .i64 sz, .slice A bs.length c] 28)) := (Gr.refl w).alloc _
  have hB1 := hB.below hG.below
  have hb1 := before_calls sz A c bs a b _ hB1 hn hsz
  have hb2 := fun W (h : Bools W A bs) => before_calls sz A c bs b a W h hn hsz
  cases r1 : rel sz bs a b with
  | true =>
    have HC := Lib.hid (show (-1 : Int) = cmpR sz bs a b by unfold cmpR; rw [if_pos r1])
    rw [r1] at hb1
    clear hb2 r1 hB
    go_enter Try.func19, Try.ntmps19
    go_wp2_with fail
    refine hb1.mono ?_
    rintro e w1 ⟨rfl, q, rfl⟩
    go_wp2
    go_ret
    exact ⟨ret_int HC.out, (hG.alloc _).drewN _⟩
  | false =>
    rw [r1] at hb1
    have hK2 := fun q => (hK.alloc (.cells #[.int .i64 sz, .slice A bs.length c] 28)).drewN q
    have hG2 := fun q => (hG.alloc (.cells #[.int .i64 sz, .slice A bs.length c] 28)).drewN q
    cases r2 : rel sz bs b a with
    | true =>
      have HC := Lib.hid (show (1 : Int) = cmpR sz bs a b by unfold cmpR; rw [r1, r2]; simp)
      rw [r2] at hb2
      clear r1 r2
      go_enter Try.func19, Try.ntmps19
      go_wp2_with fail
      refine hb1.mono ?_
      rintro e w1 ⟨rfl, q, rfl⟩
      obtain ⟨k0, k1⟩ := (hK2 q).pair
      have hB2 := hB.below (hG2 q).below
      have hGq := hG2 q
      generalize ((w.alloc (.cells #[.int .i64 sz, .slice A bs.length c] 28)).alloc (.cells #[.int .i64 sz, .slice A bs.length c] 28)).drewN q = w1 at k0 k1 hB2 hGq ⊢
      clear hb1 hK2 hG2 hK hB1 hB
      go_wp2_with fail
      refine (hb2 _ hB2).mono ?_
      rintro e w2 ⟨rfl, q, rfl⟩
      clear hb2
      go_wp2
      go_ret
      exact ⟨ret_int HC.out, (hGq.alloc _).drewN _⟩
    | false =>
      have HC := Lib.hid (show (0 : Int) = cmpR sz bs a b by unfold cmpR; rw [r1, r2]; simp)
      rw [r2] at hb2
      clear r1 r2
      go_enter Try.func19, Try.ntmps19
      go_wp2_with fail
      refine hb1.mono ?_
      rintro e w1 ⟨rfl, q, rfl⟩
      obtain ⟨k0, k1⟩ := (hK2 q).pair
      have hB2 := hB.below (hG2 q).below
      have hGq := hG2 q
      generalize ((w.alloc (.cells #[.int .i64 sz, .slice A bs.length c] 28)).alloc (.cells #[.int .i64 sz, .slice A bs.length c] 28)).drewN q = w1 at k0 k1 hB2 hGq ⊢
      clear hb1 hK2 hG2 hK hB1 hB
      go_wp2_with fail
      refine (hb2 _ hB2).mono ?_
      rintro e w2 ⟨rfl, q, rfl⟩
      clear hb2
      go_wp2
      go_ret
      exact ⟨ret_int HC.out, (hGq.alloc _).drewN _⟩

/-- The box that a comparison closes over, and the relation behind it. -/
structure BoxR (w : World) (p : Nat) (sz : Int) (bs : List Bool) : Prop where
  ex : ∃ A c, w.cell? ⟨p, 0, none⟩ = some (.int .i64 sz) ∧ w.cell? ⟨p, 1, none⟩ = some (.slice A bs.length c) ∧ Bools w A bs
  small : bs.length ≤ 140737488351232
  size : sz < 9223372036854775808

set_option maxHeartbeats 800000 in
theorem stableCmp_calls {p : Nat} {sz : Int} {bs : List Bool} {w : World} (h : BoxR w p sz bs) (a b : Int) :
    Calls Try.prog 18 #[.int .i64 a, .int .i64 b, .pointer (some ⟨p, 0, none⟩)] w fun e w' => e = .returned (.int .i64 (cmpR sz bs a b)) ∧ Gr w w' := by
  obtain ⟨A, c, h0, h1, hB⟩ := h.ex
  have hc := sign_calls sz A c bs a b w hB h.small h.size
  clear hB h
  go_enter Try.func18, Try.ntmps18
  go_wp2_with fail
  refine hc.mono ?_
  rintro e w1 ⟨rfl, hG⟩
  go_wp2
  go_ret
  exact ⟨rfl, hG⟩
set_option maxHeartbeats 800000 in
theorem sortCmp_calls {p : Nat} {sz : Int} {bs : List Bool} {w : World} (h : BoxR w p sz bs) (a b : Int) :
    Calls Try.prog 23 #[.int .i64 a, .int .i64 b, .pointer (some ⟨p, 0, none⟩)] w fun e w' => e = .returned (.int .i64 (cmpR sz bs a b)) ∧ Gr w w' := by
  obtain ⟨A, c, h0, h1, hB⟩ := h.ex
  have hc := sign_calls sz A c bs a b w hB h.small h.size
  clear hB h
  go_enter Try.func23, Try.ntmps23
  go_wp2_with fail
  refine hc.mono ?_
  rintro e w1 ⟨rfl, hG⟩
  go_wp2
  go_ret
  exact ⟨rfl, hG⟩

theorem BoxR.keep {w w' : World} {p : Nat} {sz : Int} {bs : List Bool} (h : BoxR w p sz bs) (hs : w.heap.size ≤ w'.heap.size) (hk : ∀ q : Addr, q.block < w.heap.size → w'.cell? q = w.cell? q) : BoxR w' p sz bs := by
  obtain ⟨A, c, h0, h1, hB⟩ := h.ex
  have hp := cell_lt h0
  refine ⟨⟨A, c, (hk _ hp).trans h0, (hk ⟨p, 1, none⟩ hp).trans h1, fun hn => ?_⟩, h.small, h.size⟩
  obtain ⟨b, o, rfl, hlt, hc⟩ := hB hn
  exact ⟨b, o, rfl, Nat.lt_of_lt_of_le hlt hs, fun i hi => (hk ⟨b, o + i, none⟩ hlt).trans (hc i hi)⟩
/-- The box in a world of the sort's, where the row lies in a younger block. -/
theorem BoxR.sort {α : Type} [Inhabited α] {enc : α → Value} {w0 w : World} {p : Nat} {sz : Int} {bs : List Bool} (h : BoxR w0 p sz bs) (hb : Below w0.heap.size w0 w) {blk : Nat} (hblk : w0.heap.size ≤ blk) (off m : Nat) (dk : Array α) (os : Array Obj) : BoxR (sortWorld enc w blk off m dk os) p sz bs := by
  have hs := hb.size
  refine h.keep ?_ fun q hq => ?_
  · unfold sortWorld
    rw [Sort.size_grow, Sort.size_putRow]
    exact Nat.le_trans hs (Nat.le_add_right _ _)
  · unfold sortWorld
    rw [Sort.cell?_grow _ _ _ (by rw [Sort.size_putRow]; show q.block < w.heap.size; omega), Sort.cell?_putRow_other enc _ blk off _ _ (Or.inl (by show q.block ≠ blk; omega))]
    exact hb.cell hq
theorem stableCmp_lays {w0 w : World} {p : Nat} {sz : Int} {bs : List Bool} (h : BoxR w0 p sz bs) (hb : Below w0.heap.size w0 w) {blk : Nat} (hblk : w0.heap.size ≤ blk) (off n : Nat) :
    CmpLays1 Try.prog 18 #[.pointer (some ⟨p, 0, none⟩)] encI (cmpR sz bs) blk off n w := fun m os dk _ x y =>
  stableCmp_calls (h.sort hb hblk off m dk os) x y
theorem sortCmp_lays {w0 w : World} {p : Nat} {sz : Int} {bs : List Bool} (h : BoxR w0 p sz bs) (hb : Below w0.heap.size w0 w) {blk : Nat} (hblk : w0.heap.size ≤ blk) (off n : Nat) :
    CmpLays1 Try.prog 23 #[.pointer (some ⟨p, 0, none⟩)] encI (cmpR sz bs) blk off n w := fun m os dk _ x y =>
  sortCmp_calls (h.sort hb hblk off m dk os) x y
theorem enters_stableCmp : ∀ args w, (callFunc 18 args).run Try.prog w = .ok (.enter 18 args) w := enters_of Try.func18 (by kernel_rfl) rfl
theorem enters_sortCmp : ∀ args w, (callFunc 23 args).run Try.prog w = .ok (.enter 23 args) w := enters_of Try.func23 (by kernel_rfl) rfl
end Go.Proofs.Ytfapllhjccpfpaa
