/- The arguments of a law, opened: what its reading as data tells of the cells in memory. No program in sight. -/
import Derived.Test.YthioaialkilbdaaBase
import Derived.SizedLaws
import Derived.SliceStrings
import Derived.Deep.Slices
import Derived.Deep.Fields
import Derived.ChangeSame
import Derived.Lib.SmallJoins
namespace Go.Proofs.Ythioaialkilbdaa
open Go.ChangeShapes Go.WideShapes Go.ChangeAt Go.RowKit Go.Deep

theorem cell_lt {w : World} {a : Addr} {v : Value} (h : w.cell? a = some v) : a.block < w.heap.size := by
  rcases Nat.lt_or_ge a.block w.heap.size with hlt | hge
  · exact hlt
  · unfold World.cell? at h
    rw [Array.getElem?_eq_none hge] at h
    simp at h

section
variable {H : Type} {enc : TypeId × Value → H} {P : Program} {W : World} {base : Nat} {held : Bool}

theorem rowV_of {W : World} {a : Addr} {n : Nat} {f : Nat → Value} (h : ∀ i, i < n → W.cell? (a.add i) = some (f i)) : RowV W (some a) n f := fun hn => by
  have h0 := h 0 hn
  obtain ⟨b, off, spot⟩ := a
  have hspot : spot = none := by simpa [Addr.add] using World.cell?_spot h0
  subst hspot
  refine ⟨b, off, rfl, by simpa [Addr.add] using cell_lt h0, fun i hi => ?_⟩
  have := h i hi
  rcases Nat.eq_zero_or_pos i with hz | hz
  · subst hz; simpa [Addr.add] using this
  · have hne : i ≠ 0 := by omega
    simpa [Addr.add, hne] using this

/-- An argument of type []int. -/
theorem opened_ints {t e : TypeId} {A : Option Addr} {len cap j : Nat} {d : DataW H} {p : List MemPlace} {ts : List TypeId} {ds : List (DataW H)} (ht : P.underlying t = some (.slice e)) (he : P.underlying e = some (.int .i64)) (hc : P.cellsOf e = 1) (hby : P.bytesOf e = 8)
    (h : DataW.Trod enc P W base (fun _ => true) held t (.slice A len cap) d p) (hsz : (DataW.weightsEach P ts ds).all (· ≤ reachBytes) = true) (hj : ts[j]? = some t) (hd : ds[j]? = some d) :
    ∃ zs : List Int, zs.length = len ∧ Ints W A zs ∧ zs.length * 8 ≤ 140737488351232 ∧ ∀ z ∈ zs, (Lit.int .i64 z).wf = true := by
  obtain ⟨fuel, hf⟩ := h
  rcases open_ints ht he hc hf with ⟨hcs, _⟩ | ⟨x, l, c, zs, hcs, _, hl, hm, hz, hx, hcell, hwz⟩
  · simp [Value.cells] at hcs
    obtain ⟨rfl, rfl, rfl⟩ := hcs
    exact ⟨[], rfl, fun hn => absurd hn (by simp), by simp, by simp⟩
  · simp [Value.cells] at hcs
    obtain ⟨rfl, rfl, rfl⟩ := hcs
    simp only [if_true] at hz
    simp only [Prod.mk.injEq] at hx
    obtain ⟨rfl, _⟩ := hx
    have hw := sized_slice hsz hj hd ht
    rw [hby] at hw
    simp only [lits, List.length_map, List.length_take, List.length_drop, reachBytes] at hw
    refine ⟨zs.take len, by simp; omega, rowV_of fun i hi => ?_, by simp; omega, fun z hz => hwz z (List.mem_of_mem_take hz)⟩
    have hi' : i < len ∧ i < zs.length := by simp at hi; omega
    rw [hcell i (by omega)]
    simp [gi, List.getD, hi'.1]

/-- An argument of type []string. -/
theorem opened_strs {t e : TypeId} {A : Option Addr} {len cap j : Nat} {d : DataW H} {p : List MemPlace} {ts : List TypeId} {ds : List (DataW H)} (ht : P.underlying t = some (.slice e)) (he : P.underlying e = some .string) (hc : P.cellsOf e = 1) (hby : P.bytesOf e = 16)
    (h : DataW.Trod enc P W base (fun _ => true) held t (.slice A len cap) d p) (hsz : (DataW.weightsEach P ts ds).all (· ≤ reachBytes) = true) (hj : ts[j]? = some t) (hd : ds[j]? = some d) :
    ∃ ss : List ByteArray, ss.length = len ∧ Strs W A ss ∧ ss.length * 16 ≤ 140737488351232 ∧ ∀ s ∈ ss, s.size ≤ maxLen := by
  obtain ⟨fuel, hf⟩ := h
  rcases open_strings ht he hc hf with ⟨hcs, _⟩ | ⟨x, l, c, zs, hcs, _, hl, hm, hz, hx, hcell, hwz⟩
  · simp [Value.cells] at hcs
    obtain ⟨rfl, rfl, rfl⟩ := hcs
    exact ⟨[], rfl, fun hn => absurd hn (by simp), by simp, by simp⟩
  · simp [Value.cells] at hcs
    obtain ⟨rfl, rfl, rfl⟩ := hcs
    simp only [if_true] at hz
    simp only [Prod.mk.injEq] at hx
    obtain ⟨rfl, _⟩ := hx
    have hw := sized_slice hsz hj hd ht
    rw [hby] at hw
    simp only [strs, List.length_map, List.length_take, List.length_drop, reachBytes] at hw
    refine ⟨zs.take len, by simp; omega, rowV_of fun i hi => ?_, by simp; omega, fun z hz => hwz z (List.mem_of_mem_take hz)⟩
    have hi' : i < len ∧ i < zs.length := by simp at hi; omega
    rw [hcell i (by omega)]
    simp [gs, List.getD, hi'.1]
end
end Go.Proofs.Ythioaialkilbdaa
