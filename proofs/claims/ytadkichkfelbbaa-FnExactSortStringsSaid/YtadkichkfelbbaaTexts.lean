/- Rows of strings of the call's own; contract of texts. -/
import Derived.Test.YtadkichkfelbbaaInfo
import Derived.Test.YtadkichkfelbbaaAppend
namespace Go.Proofs.Ytadkichkfelbbaa
open Go.RowKit

theorem Reads.of_strs {w : World} {A : Option Addr} {zs : List ByteArray} (h : Strs w A zs) : Reads w w.heap.size 1 A zs.length (zs.map Value.string) :=
  Reads.of_row h (by simp) (fun i hi => by simp [gs, hi])
/-- A row of the call's own that reads as strings. -/
def OwnS (t : TypeId) (w : World) (base : Nat) (A : Option Addr) (cap : Nat) (zs : List ByteArray) : Prop := w.ownsRow base t 1 (.slice A zs.length cap) zs.length (zs.map Value.string)
theorem own_formS {w : World} {base : Nat} {t : TypeId} {v : Value} {zs : List ByteArray} (h : w.ownsRow base t 1 v zs.length (zs.map Value.string)) : ∃ A cap, v = .slice A zs.length cap ∧ OwnS t w base A cap zs := by
  rcases h.2 with ⟨hv, h0⟩ | ⟨g, cap, cur, hv, _⟩
  · refine ⟨none, 0, by rw [hv, h0], ?_⟩
    unfold OwnS
    rw [← show v = .slice none zs.length 0 by rw [hv, h0]]
    exact h
  · refine ⟨_, _, hv, ?_⟩
    unfold OwnS
    rw [← hv]
    exact h
theorem OwnS.block {t : TypeId} {w : World} {base : Nat} {A : Option Addr} {cap : Nat} {zs : List ByteArray} (h : OwnS t w base A cap zs) (hn : 0 < zs.length) :
    ∃ g cur, A = some ⟨g, 0, none⟩ ∧ base ≤ g ∧ Blk w g t cur ∧ zs.length ≤ cap ∧ cap ≤ maxLen ∧ cur.size = cap ∧ ∀ i, i < zs.length → cur[i]? = some (.string (gs zs i)) := by
  rcases h.2 with ⟨_, h0⟩ | ⟨g, cap', cur, hv, hb, hh, hc, hm, hs, ht⟩
  · omega
  · simp only [Value.slice.injEq] at hv
    obtain ⟨rfl, _, rfl⟩ := hv
    refine ⟨g, cur, rfl, hb, hh, hc, hm, by omega, fun i hi => ?_⟩
    have : (cur.toList.take (zs.length * 1))[i]? = (zs.map Value.string)[i]? := by rw [ht]
    rw [Nat.mul_one, List.getElem?_take] at this
    rw [if_pos hi] at this
    simpa [gs, hi] using this
theorem OwnS.strs {t : TypeId} {w : World} {base : Nat} {A : Option Addr} {cap : Nat} {zs : List ByteArray} (h : OwnS t w base A cap zs) : Strs w A zs := fun hn => by
  obtain ⟨g, cur, rfl, _, hb, _, _, _, hc⟩ := h.block hn
  exact ⟨g, 0, rfl, hb.lt, fun i hi => by rw [Nat.zero_add, hb.cell i]; exact hc i hi⟩
theorem oneCell_strs (zs : List ByteArray) : ∀ u ∈ zs.map Value.string, u.oneCell' = true := by
  intro u hu
  obtain ⟨z, _, rfl⟩ := List.mem_map.1 hu
  rfl
/-- A call hands back a new row of strings, and nothing that was there has turned. -/
def RetS (t : TypeId) (zs : List ByteArray) (w : World) (e : Ending) (w' : World) : Prop :=
  ∃ A cap, e = .returned (.slice A zs.length cap) ∧ OwnS t w' w.heap.size A cap zs ∧ Below w.heap.size w w'

set_option maxHeartbeats 400000 in
theorem texts_calls (A : Option Addr) (c : Nat) (zs : List ByteArray) (w : World) (hA : Strs w A zs) (hn : zs.length * 16 ≤ 140737488351232) :
    Calls Try.prog 28 #[.slice A zs.length c] w (RetS 9 zs w) := by
  obtain ⟨i0, hi, hz0, hz1, hz2⟩ := info_parts infoStr
  have hr := Reads.of_strs hA
  have HR := Lib.hid hr
  clear hr
  go_enter Try.func28, Try.ntmps28
  go_wp2_with (at_builtin; refine wpList_append_any _ rfl _ _ 22 rfl w.heap.size 9 i0 (.string ByteArray.empty) 1 16 Try.underlying22 hi hz0 hz1 hz2 rfl (by decide) _ 0 [] rfl (World.ownsRow_nil _ _ _ _) w.heap.size A zs.length c (zs.map Value.string) rfl HR.out (oneCell_strs zs) ?c1 ?c2 (Nat.le_refl _) ?_)
  case c1 => unfold maxLen; omega
  case c2 => omega
  intro v' w' hown hg hb
  obtain ⟨A', cap', rfl, ho⟩ := own_formS hown
  have hbel : Below w.heap.size w w' := (Below.refl _ _).grown hg (Nat.le_refl _) (fun k h => by cases h)
  clear hg hb hown
  go_wp2
  go_ret
  exact ⟨_, _, rfl, ho, hbel⟩
end Go.Proofs.Ytadkichkfelbbaa
