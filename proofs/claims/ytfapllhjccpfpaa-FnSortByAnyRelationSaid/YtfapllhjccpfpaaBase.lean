/- Words and small lemmas on worlds, rows of cells and blocks, used by every proof of this seat. No program in sight. -/
import Derived.WalkKit
import Derived.ProofKit
import Derived.OpenShut
import Derived.ShutString
import Derived.ChangeOld
import Derived.Below
import Derived.Deep.QuietTactic
import Derived.BigQuiet
import Derived.Deep.LoopGhost
import Derived.Deep.Draws
import Derived.Deep.OwnRows
import Derived.Lib.Hide
import Derived.WalkSpells
import Derived.WalkLawsBesides
namespace Go.Proofs.Ytfapllhjccpfpaa
open Go.RowKit

/-- A slice value's address A leads to n cells, cell i holding f i; of no cell nothing is asked. -/
def RowV (w : World) (A : Option Addr) (n : Nat) (f : Nat → Value) : Prop :=
  0 < n → ∃ b off, A = some ⟨b, off, none⟩ ∧ b < w.heap.size ∧ ∀ i, i < n → w.cell? ⟨b, off + i, none⟩ = some (f i)

theorem RowV.below {w w' : World} {A : Option Addr} {n : Nat} {f : Nat → Value} (h : RowV w A n f) (hb : Below w.heap.size w w') : RowV w' A n f := fun hn => by
  obtain ⟨b, off, e, hlt, hc⟩ := h hn
  exact ⟨b, off, e, Nat.lt_of_lt_of_le hlt hb.size, fun i hi => (hb.cell (p := ⟨b, off + i, none⟩) hlt).trans (hc i hi)⟩

theorem RowV.drewN {w : World} {A : Option Addr} {n : Nat} {f : Nat → Value} (h : RowV w A n f) (k : Nat) : RowV (w.drewN k) A n f := h

/-- Block g is just the cells cs of element type t, none frozen. -/
def Blk (w : World) (g : Nat) (t : TypeId) (cs : Array Value) : Prop := w.heap[g]? = some (.cells cs t (0, 0))

section
variable {w w' : World} {g : Nat} {t : TypeId} {cs : Array Value}
theorem Blk.lt (h : Blk w g t cs) : g < w.heap.size := by
  rcases Nat.lt_or_ge g w.heap.size with hlt | hge
  · exact hlt
  · unfold Blk at h; rw [Array.getElem?_eq_none hge] at h; cases h
theorem Blk.cell (h : Blk w g t cs) (i : Nat) : w.cell? ⟨g, i, none⟩ = cs[i]? := cell_of_row w g i cs t (0, 0) h
theorem Blk.frozen (h : Blk w g t cs) (i : Nat) : w.frozen? ⟨g, i, none⟩ = false := by
  unfold Blk at h
  simp [World.frozen?, h]
theorem Blk.new (w : World) (t : TypeId) (cs : Array Value) : Blk (w.alloc (.cells cs t)) w.heap.size t cs := heap_alloc_new w _
theorem Blk.drewN (h : Blk w g t cs) (n : Nat) : Blk (w.drewN n) g t cs := h
theorem Blk.alloc (h : Blk w g t cs) (o : Obj) : Blk (w.alloc o) g t cs := (Below.heap_alloc w o g h.lt).trans h
theorem Blk.set_ (h : Blk w g t cs) (i : Nat) (u : Value) : Blk (w.setCell ⟨g, i, none⟩ u) g t (cs.setIfInBounds i u) := by
  unfold Blk at h ⊢
  simp [World.setCell, Array.getElem?_modify, h]
theorem Blk.far (h : Blk w g t cs) {p : Addr} (hp : g ≠ p.block) (u : Value) : Blk (w.setCell p u) g t cs := (Below.heap_setCell w p u g hp).trans h
theorem Blk.below {B : Nat} (h : Blk w g t cs) (hb : Below B w w') (hg : g < B) : Blk w' g t cs := (hb.block g hg).trans h
theorem Blk.grown {row : Option Nat} (h : Blk w g t cs) (hb : w.grownBy w' row) (hg : some g ≠ row) : Blk w' g t cs := (hb.block g h.lt hg).trans h
theorem Blk.row (h : Blk w g t cs) (off n : Nat) (f : Nat → Value) (hf : ∀ i, i < n → cs[off + i]? = some (f i)) : RowV w (some ⟨g, off, none⟩) n f :=
  fun _ => ⟨g, off, rfl, h.lt, fun i hi => (h.cell (off + i)).trans (hf i hi)⟩
end

theorem below_drewN {B : Nat} {a w : World} (h : Below B a w) (n : Nat) : Below B a (w.drewN n) := ⟨h.os, h.tape, h.output, h.size, h.block⟩
/-- Nothing has turned but the tape's place. -/
def Draws (w w' : World) : Prop := ∃ n, w' = w.drewN n
theorem Draws.refl (w : World) : Draws w w := ⟨0, rfl⟩
theorem Draws.trans {a b c : World} (h : Draws a b) (k : Draws b c) : Draws a c := by
  obtain ⟨n, rfl⟩ := h
  obtain ⟨m, rfl⟩ := k
  exact ⟨n + m, World.drewN_drewN ..⟩
theorem Draws.drewN {a b : World} (h : Draws a b) (n : Nat) : Draws a (b.drewN n) := h.trans ⟨n, rfl⟩
theorem Draws.drew {a b : World} (h : Draws a b) : Draws a b.drew := h.drewN 1
theorem Draws.below {B : Nat} {a w : World} (h : Draws a w) : Below B a w := by
  obtain ⟨n, rfl⟩ := h
  exact below_drewN (Below.refl _ _) n
theorem Draws.size {a w : World} (h : Draws a w) : w.heap.size = a.heap.size := by
  obtain ⟨n, rfl⟩ := h
  rfl
theorem Draws.cell {a w : World} (h : Draws a w) {p : Addr} {v : Value} (hc : a.cell? p = some v) : w.cell? p = some v := by
  obtain ⟨n, rfl⟩ := h
  exact hc
theorem quietD {P : Program} {f : FuncId} {args : Array Value} {w : World} {n : Nat} {v : Value}
    (h : Calls P f args (w.drewN n) fun e w' => e = .returned v ∧ Draws (w.drewN n) w') : Calls P f args (w.drewN n) fun e w'' => e = .returned v ∧ ∃ m, w'' = w.drewN m :=
  h.mono fun _ _ ⟨he, m, hm⟩ => ⟨he, n + m, by rw [hm, World.drewN_drewN]⟩

/-- Element i of a list of numbers, behind a name that the walk does not open. -/
def gi (zs : List Int) (i : Nat) : Int := zs.getD i 0
theorem gi_eq {zs : List Int} {i : Nat} (h : i < zs.length) : gi zs i = zs[i] := by simp [gi, h]
theorem gi_mem {zs : List Int} {i : Nat} (h : i < zs.length) : gi zs i ∈ zs := by rw [gi_eq h]; exact List.getElem_mem h
/-- A slice of ints that reads as zs. -/
def Ints (w : World) (A : Option Addr) (zs : List Int) : Prop := RowV w A zs.length (fun i => .int .i64 (gi zs i))
theorem Ints.below {w w' : World} {A : Option Addr} {zs : List Int} (h : Ints w A zs) (hb : Below w.heap.size w w') : Ints w' A zs := RowV.below h hb
theorem Ints.drewN {w : World} {A : Option Addr} {zs : List Int} (h : Ints w A zs) (k : Nat) : Ints (w.drewN k) A zs := h
def intCells (zs : List Int) : Array Value := (zs.map (Value.int .i64)).toArray
theorem size_intCells (zs : List Int) : (intCells zs).size = zs.length := by simp [intCells]
theorem Blk.ints {w : World} {g : Nat} {t : TypeId} {zs : List Int} (h : Blk w g t (intCells zs)) : Ints w (some ⟨g, 0, none⟩) zs :=
  h.row 0 _ _ (fun i hi => by simp [intCells, hi, gi])
theorem intCells_of {cs : Array Value} {zs : List Int} (hn : cs.size = zs.length) (h : ∀ i, i < zs.length → cs[i]? = some (.int .i64 (gi zs i))) : cs = intCells zs := by
  apply Array.ext_getElem?
  intro i
  by_cases hi : i < zs.length
  · rw [h i hi]; simp [intCells, hi, gi]
  · rw [Array.getElem?_eq_none (by omega), Array.getElem?_eq_none (by rw [size_intCells]; omega)]

/-- Element i of a list of strings, behind a name that the walk does not open. -/
def gs (ss : List ByteArray) (i : Nat) : ByteArray := ss.getD i ByteArray.empty
theorem gs_eq {ss : List ByteArray} {i : Nat} (h : i < ss.length) : gs ss i = ss[i] := by simp [gs, h]
theorem gs_mem {ss : List ByteArray} {i : Nat} (h : i < ss.length) : gs ss i ∈ ss := by rw [gs_eq h]; exact List.getElem_mem h
/-- A slice of strings that reads as ss. -/
def Strs (w : World) (A : Option Addr) (ss : List ByteArray) : Prop := RowV w A ss.length (fun i => .string (gs ss i))
theorem Strs.below {w w' : World} {A : Option Addr} {ss : List ByteArray} (h : Strs w A ss) (hb : Below w.heap.size w w') : Strs w' A ss := RowV.below h hb
theorem Strs.drewN {w : World} {A : Option Addr} {ss : List ByteArray} (h : Strs w A ss) (k : Nat) : Strs (w.drewN k) A ss := h
def strCells (ss : List ByteArray) : Array Value := (ss.map Value.string).toArray
theorem size_strCells (ss : List ByteArray) : (strCells ss).size = ss.length := by simp [strCells]
theorem Blk.strs {w : World} {g : Nat} {t : TypeId} {ss : List ByteArray} (h : Blk w g t (strCells ss)) : Strs w (some ⟨g, 0, none⟩) ss :=
  h.row 0 _ _ (fun i hi => by simp [strCells, hi, gs])
theorem strCells_of {cs : Array Value} {ss : List ByteArray} (hn : cs.size = ss.length) (h : ∀ i, i < ss.length → cs[i]? = some (.string (gs ss i))) : cs = strCells ss := by
  apply Array.ext_getElem?
  intro i
  by_cases hi : i < ss.length
  · rw [h i hi]; simp [strCells, hi, gs]
  · rw [Array.getElem?_eq_none (by omega), Array.getElem?_eq_none (by rw [size_strCells]; omega)]

/-- A block of n cells of which the first k have been filled. -/
def Made (w : World) (B : Nat) (t : TypeId) (n k : Nat) (f : Nat → Value) : Prop := ∃ cs : Array Value, Blk w B t cs ∧ cs.size = n ∧ ∀ i, i < k → cs[i]? = some (f i)
theorem Made.cell {w : World} {B n k : Nat} {t : TypeId} {f : Nat → Value} (h : Made w B t n k f) (hk : k < n) : ∃ u, w.cell? ⟨B, k, none⟩ = some u := by
  obtain ⟨cs, hb, hs, _⟩ := h
  exact ⟨cs[k]'(by omega), (hb.cell k).trans (Array.getElem?_eq_getElem (by omega))⟩
theorem Made.frozen {w : World} {B n k : Nat} {t : TypeId} {f : Nat → Value} (h : Made w B t n k f) : w.frozen? ⟨B, k, none⟩ = false := by
  obtain ⟨cs, hb, hs, _⟩ := h
  exact hb.frozen k
theorem Made.step {w : World} {B n k : Nat} {t : TypeId} {f : Nat → Value} (h : Made w B t n k f) (hk : k < n) : Made (w.setCell ⟨B, k, none⟩ (f k)) B t n (k + 1) f := by
  obtain ⟨cs, hb, hs, hf⟩ := h
  refine ⟨_, hb.set_ k (f k), by simpa using hs, fun i hi => ?_⟩
  rcases Nat.lt_or_ge i k with h1 | h1
  · rw [Array.getElem?_setIfInBounds_ne (by omega)]; exact hf i h1
  · obtain rfl : i = k := by omega
    rw [Array.getElem?_setIfInBounds_self_of_lt (by omega)]
theorem Made.start (w : World) (n : Nat) (z : Value) (t : TypeId) (f : Nat → Value) : Made (w.alloc (.cells (madeCells #[z] n) t)) w.heap.size t n 0 f :=
  ⟨_, Blk.new w t _, size_madeCells _ _, fun i hi => absurd hi (by omega)⟩

/-- It panics with some value of a type, and nothing has turned. -/
def PanicsWith (t : TypeId) (w : World) (e : Ending) (w' : World) : Prop := ∃ pv, e = .panicked [{ v := .iface t pv, recovered := false }] ∧ w = w'

theorem ret_int {k : IntKind} {a b : Int} (h : a = b) : Ending.returned (.int k a) = .returned (.int k b) := by rw [h]
theorem ret_ib {k : IntKind} {a b : Int} {x y : Bool} (h : a = b) (h' : x = y) : Ending.returned (.tuple #[.int k a, .bool x]) = .returned (.tuple #[.int k b, .bool y]) := by rw [h, h']
theorem ret_sb {a b : ByteArray} {x y : Bool} (h : a = b) (h' : x = y) : Ending.returned (.tuple #[.string a, .bool x]) = .returned (.tuple #[.string b, .bool y]) := by rw [h, h']
theorem ret_str {a b : ByteArray} (h : a = b) : Ending.returned (.string a) = .returned (.string b) := by rw [h]
theorem eq_true_of_not_false {b : Bool} (h : ¬ b = false) : b = true := by cases b with
  | true => rfl
  | false => exact absurd rfl h
theorem ret_bool {a b : Bool} (h : a = b) : Ending.returned (.bool a) = .returned (.bool b) := by rw [h]
end Go.Proofs.Ytfapllhjccpfpaa
