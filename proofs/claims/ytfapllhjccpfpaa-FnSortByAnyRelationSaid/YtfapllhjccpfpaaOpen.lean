/- The arguments of a law, opened: what its reading as data tells of the cells in memory. No program in sight. -/
import Derived.Test.YtfapllhjccpfpaaItems
import Derived.SizedLaws
import Derived.SliceStrings
import Derived.Deep.Slices
import Derived.Deep.Fields
import Derived.ChangeSame
import Derived.Lib.SmallJoins
namespace Go.Proofs.Ytfapllhjccpfpaa
open Go.ChangeShapes Go.WideShapes Go.ChangeAt Go.RowKit Go.Deep

theorem cell_lt {w : World} {a : Addr} {v : Value} (h : w.cell? a = some v) : a.block < w.heap.size := by
  rcases Nat.lt_or_ge a.block w.heap.size with hlt | hge
  · exact hlt
  · unfold World.cell? at h
    rw [Array.getElem?_eq_none hge] at h
    simp at h

section
variable {H : Type} {enc : TypeId × Value → H} {P : Program} {W : World} {base : Nat} {held : Bool}

theorem rowV_of {W : World} {a : Addr} {n : Nat} {f : Nat → Value} (h : ∀ i, i < n → W.cell? (a.add i) = some (f i)) : RowV W (some a) n f := fun hn => by
  have h0 := h 0 hn
  obtain ⟨b, off, spot⟩ := a
  have hspot : spot = none := by simpa [Addr.add] using World.cell?_spot h0
  subst hspot
  refine ⟨b, off, rfl, by simpa [Addr.add] using cell_lt h0, fun i hi => ?_⟩
  have := h i hi
  rcases Nat.eq_zero_or_pos i with hz | hz
  · subst hz; simpa [Addr.add] using this
  · have hne : i ≠ 0 := by omega
    simpa [Addr.add, hne] using this

/-- An argument of type []int. -/
theorem opened_ints {t e : TypeId} {A : Option Addr} {len cap j : Nat} {d : DataW H} {p : List MemPlace} {ts : List TypeId} {ds : List (DataW H)} (ht : P.underlying t = some (.slice e)) (he : P.underlying e = some (.int .i64)) (hc : P.cellsOf e = 1) (hby : P.bytesOf e = 8)
    (h : DataW.Trod enc P W base (fun _ => true) held t (.slice A len cap) d p) (hsz : (DataW.weightsEach P ts ds).all (· ≤ reachBytes) = true) (hj : ts[j]? = some t) (hd : ds[j]? = some d) :
    ∃ zs : List Int, zs.length = len ∧ Ints W A zs ∧ zs.length * 8 ≤ 140737488351232 ∧ ∀ z ∈ zs, (Lit.int .i64 z).wf = true := by
  obtain ⟨fuel, hf⟩ := h
  rcases open_ints ht he hc hf with ⟨hcs, _⟩ | ⟨x, l, c, zs, hcs, _, hl, hm, hz, hx, hcell, hwz⟩
  · simp [Value.cells] at hcs
    obtain ⟨rfl, rfl, rfl⟩ := hcs
    exact ⟨[], rfl, fun hn => absurd hn (by simp), by simp, by simp⟩
  · simp [Value.cells] at hcs
    obtain ⟨rfl, rfl, rfl⟩ := hcs
    simp only [if_true] at hz
    simp only [Prod.mk.injEq] at hx
    obtain ⟨rfl, _⟩ := hx
    have hw := sized_slice hsz hj hd ht
    rw [hby] at hw
    simp only [lits, List.length_map, List.length_take, List.length_drop, reachBytes] at hw
    refine ⟨zs.take len, by simp; omega, rowV_of fun i hi => ?_, by simp; omega, fun z hz => hwz z (List.mem_of_mem_take hz)⟩
    have hi' : i < len ∧ i < zs.length := by simp at hi; omega
    rw [hcell i (by omega)]
    simp [gi, List.getD, hi'.1]

/-- An argument of type []string. -/
theorem opened_strs {t e : TypeId} {A : Option Addr} {len cap j : Nat} {d : DataW H} {p : List MemPlace} {ts : List TypeId} {ds : List (DataW H)} (ht : P.underlying t = some (.slice e)) (he : P.underlying e = some .string) (hc : P.cellsOf e = 1) (hby : P.bytesOf e = 16)
    (h : DataW.Trod enc P W base (fun _ => true) held t (.slice A len cap) d p) (hsz : (DataW.weightsEach P ts ds).all (· ≤ reachBytes) = true) (hj : ts[j]? = some t) (hd : ds[j]? = some d) :
    ∃ ss : List ByteArray, ss.length = len ∧ Strs W A ss ∧ ss.length * 16 ≤ 140737488351232 ∧ ∀ s ∈ ss, s.size ≤ maxLen := by
  obtain ⟨fuel, hf⟩ := h
  rcases open_strings ht he hc hf with ⟨hcs, _⟩ | ⟨x, l, c, zs, hcs, _, hl, hm, hz, hx, hcell, hwz⟩
  · simp [Value.cells] at hcs
    obtain ⟨rfl, rfl, rfl⟩ := hcs
    exact ⟨[], rfl, fun hn => absurd hn (by simp), by simp, by simp⟩
  · simp [Value.cells] at hcs
    obtain ⟨rfl, rfl, rfl⟩ := hcs
    simp only [if_true] at hz
    simp only [Prod.mk.injEq] at hx
    obtain ⟨rfl, _⟩ := hx
    have hw := sized_slice hsz hj hd ht
    rw [hby] at hw
    simp only [strs, List.length_map, List.length_take, List.length_drop, reachBytes] at hw
    refine ⟨zs.take len, by simp; omega, rowV_of fun i hi => ?_, by simp; omega, fun z hz => hwz z (List.mem_of_mem_take hz)⟩
    have hi' : i < len ∧ i < zs.length := by simp at hi; omega
    rw [hcell i (by omega)]
    simp [gs, List.getD, hi'.1]
end

section
variable {H : Type} {enc : TypeId × Value → H} {P : Program} {w : World} {base : Nat} {spare : Nat → Bool} {held : Bool}
theorem open_slice_fields {t e : TypeId} {fs : Array Field} {fuel : Nat} {cs : List Value} {x : DataW H × List MemPlace} (ht : P.underlying t = some (.slice e)) (he : P.underlying e = some (.struct fs))
    (hone : oneCellFields P fs = true) (hC : P.cellsOf e = fs.size) (h : DataW.trod enc P w base spare held fuel t cs = some x) :
    (cs = [.slice none 0 0] ∧ x = (.nil, [])) ∨
    ∃ (a : Addr) (len cap m : Nat) (D : Nat → DataW H) (Pl : Nat → List MemPlace), cs = [.slice (some a) len cap] ∧ base ≤ a.block ∧ len ≤ cap ∧ cap ≤ maxLen ∧ m = (if spare a.block then cap else len) ∧
      x = (.slice ((List.range len).map D) ((List.range (m - len)).map fun j => D (len + j)), MemPlace.row a (m * fs.size) ++ (List.range m).flatMap Pl) ∧
      ∀ i, i < m → ∃ (ys : List (DataW H × List MemPlace)) (n : Nat), D i = .agg (ys.map (·.1)) ∧ Pl i = ys.flatMap (·.2) ∧ ys.length = fs.size ∧
        ∀ (j : Nat) (f : Field), fs[j]? = some f → ∃ (v : Value) (y : DataW H × List MemPlace), w.cell? (a.add (i * fs.size + j)) = some v ∧ ys[j]? = some y ∧ DataW.trod enc P w base spare held n f.type [v] = some y := by
  rcases open_slice ht h with h0 | ⟨a, len, cap, m, n, D, Pl, hcs, hb, hl, hm, hmm, hx, hi⟩
  · exact .inl h0
  · refine .inr ⟨a, len, cap, m, D, Pl, hcs, hb, hl, hm, hmm, by rw [hC] at hx; exact hx, fun i him => ?_⟩
    obtain ⟨cs', hc, ht'⟩ := hi i him
    rw [hC] at hc
    obtain ⟨ys, n', hn', hy, hlen, hyl, hf⟩ := DataW.trod_struct he ht'
    obtain ⟨_, hcl, hat⟩ := World.cells?_some hc
    simp only [Prod.mk.injEq] at hy
    refine ⟨ys, n', hy.1, hy.2, hyl, fun j f hj => ?_⟩
    obtain ⟨ho, hk⟩ := hone_of hone j f hj
    have hjl : j < fs.size := (Array.getElem?_eq_some_iff.1 hj).1
    have hcell := hat j hjl
    have hv : cs'[j]? = some (cs'[j]'(by omega)) := List.getElem?_eq_getElem (by omega)
    have h1 := hf j f hj
    rw [ho, hk] at h1
    have hone' : (cs'.drop j).take 1 = [cs'[j]'(by omega)] := by
      rw [List.drop_eq_getElem_cons (by omega)]
      rfl
    rw [hone'] at h1
    have hys : ys[j]? = some (ys[j]'(by omega)) := List.getElem?_eq_getElem (by omega)
    refine ⟨_, _, ?_, hys, h1.trans hys⟩
    rw [← Go.Deep.add_add, hcell, hv]

/-- An argument that is a slice of structs of two ints. -/
theorem opened_pairs {W : World} {t e : TypeId} {f0 f1 : Field} {A : Option Addr} {len cap j : Nat} {d : DataW H} {p : List MemPlace} {ts : List TypeId} {ds : List (DataW H)} {ti : TypeId} (ht : P.underlying t = some (.slice e)) (he : P.underlying e = some (.struct #[f0, f1])) (hone : oneCellFields P #[f0, f1] = true) (hC : P.cellsOf e = 2)
    (h0 : f0.type = ti) (h1 : f1.type = ti) (hti : P.underlying ti = some (.int .i64)) (hby : P.bytesOf e = 16)
    (h : DataW.Trod enc P W base (fun _ => true) held t (.slice A len cap) d p) (hsz : (DataW.weightsEach P ts ds).all (· ≤ reachBytes) = true) (hj : ts[j]? = some t) (hd : ds[j]? = some d) :
    ∃ xs : List (Int × Int), xs.length = len ∧ Items W A xs ∧ xs.length * 16 ≤ 140737488351232 ∧ ∀ x ∈ xs, (Lit.int .i64 x.1).wf = true ∧ (Lit.int .i64 x.2).wf = true := by
  obtain ⟨fuel, hf⟩ := h
  rcases open_slice_fields ht he hone (by simpa using hC) hf with ⟨hcs, _⟩ | ⟨a, l, c, m, D, Pl, hcs, _, hl, hm, hmm, hx, hi⟩
  · simp [Value.cells] at hcs
    obtain ⟨rfl, rfl, rfl⟩ := hcs
    exact ⟨[], rfl, fun hn => absurd hn (by simp), by simp, by simp⟩
  · simp [Value.cells] at hcs
    obtain ⟨rfl, rfl, rfl⟩ := hcs
    simp only [if_true] at hmm
    subst hmm
    simp only [Prod.mk.injEq] at hx
    obtain ⟨rfl, _⟩ := hx
    have hw := sized_slice hsz hj hd ht
    rw [hby] at hw
    simp only [List.length_map, List.length_range, reachBytes] at hw
    have hel : ∀ i, i < len → ∃ q : Int × Int, W.cell? (a.add (i * 2)) = some (.int .i64 q.1) ∧ W.cell? (a.add (i * 2 + 1)) = some (.int .i64 q.2) ∧ (Lit.int .i64 q.1).wf = true ∧ (Lit.int .i64 q.2).wf = true := by
      intro i hil
      obtain ⟨ys, n, _, _, hyl, hfl⟩ := hi i (by omega)
      obtain ⟨v0, y0, hc0, _, ht0⟩ := hfl 0 f0 rfl
      obtain ⟨v1, y1, hc1, _, ht1⟩ := hfl 1 f1 rfl
      rw [h0] at ht0
      rw [h1] at ht1
      obtain ⟨z0, e0, _, wz0⟩ := DataW.trod_int hti ht0
      obtain ⟨z1, e1, _, wz1⟩ := DataW.trod_int hti ht1
      simp at e0 e1
      subst e0 e1
      exact ⟨(z0, z1), by simpa using hc0, by simpa using hc1, wz0, wz1⟩
    have hch : ∃ q : Nat → Int × Int, ∀ i, i < len → W.cell? (a.add (i * 2)) = some (.int .i64 (q i).1) ∧ W.cell? (a.add (i * 2 + 1)) = some (.int .i64 (q i).2) ∧ (Lit.int .i64 (q i).1).wf = true ∧ (Lit.int .i64 (q i).2).wf = true := by
      refine ⟨fun i => if hil : i < len then Classical.choose (hel i hil) else (0, 0), fun i hil => ?_⟩
      simp only [dif_pos hil]
      exact Classical.choose_spec (hel i hil)
    obtain ⟨q, hq⟩ := hch
    refine ⟨(List.range len).map q, by simp, fun hn => ?_, by simp; omega, fun x hx => ?_⟩
    · have hn' : 0 < len := by simpa using hn
      have hz := (hq 0 hn').1
      obtain ⟨b, off, spot⟩ := a
      have hspot : spot = none := by simpa [Addr.add] using World.cell?_spot hz
      subst hspot
      refine ⟨b, off, rfl, by simpa [Addr.add] using cell_lt hz, fun i hi => ?_⟩
      have hi' : i < len := by simpa using hi
      have h4 := hq i hi'
      have g1 : gk ((List.range len).map q) i = (q i).1 := by simp [gk, hi']
      have g2 : gt ((List.range len).map q) i = (q i).2 := by simp [gt, hi']
      rw [g1, g2]
      refine ⟨?_, ?_⟩
      · rcases Nat.eq_zero_or_pos i with hz | hz
        · subst hz; simpa [Addr.add] using h4.1
        · have hne : i * 2 ≠ 0 := by omega
          simpa [Addr.add, hne] using h4.1
      · simpa [Addr.add, Nat.add_assoc] using h4.2.1
    · obtain ⟨i, hi, rfl⟩ := List.mem_map.1 hx
      exact (hq i (by simpa using hi)).2.2
end
end Go.Proofs.Ytfapllhjccpfpaa
