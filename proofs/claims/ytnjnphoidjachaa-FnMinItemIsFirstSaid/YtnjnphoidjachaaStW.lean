/- Worlds of a stable sort of items: words and steps for its walks. -/
import Derived.Test.YtnjnphoidjachaaCmpItems
import Derived.Test.YtnjnphoidjachaaSortL
import Derived.Shelf.SlSortCmp.ReverseRangeK
namespace Go.Proofs.Ytnjnphoidjachaa
open Go.RowKit
open Go.Sort (swp)

/-- W is a world of the sort's in which the row holds L. -/
def St (w0 : World) (blk off : Nat) (L : List (Int × Int)) (W : World) : Prop := SWK encP 2 w0 blk off L.toArray W
/-- What a sort's walk is told once: the row of n items, the comparison. -/
structure SEnv (g : Nat) (cb : Array Value) (cf : Int × Int → Int × Int → Int) (blk off n : Nat) (w0 : World) : Prop where
  row : ∃ d0, RowK encP 2 w0 blk off d0 ∧ d0.size = n
  cmp : CmpLays Try.prog g cb encP 2 cf blk off n w0
  enters : ∀ args w, (callFunc g args).run Try.prog w = .ok (.enter g args) w
  small : n * 16 ≤ 140737488351232

section
variable {g : Nat} {cb : Array Value} {cf : Int × Int → Int × Int → Int} {blk off n : Nat} {w0 W : World} {L : List (Int × Int)}
theorem St.grown (h : St w0 blk off L W) (q : Nat) (os : Array Obj) : St w0 blk off L (Sort.grow (W.drewN q) os) := SWK.grown h q os
theorem St.drewN (h : St w0 blk off L W) (q : Nat) : St w0 blk off L (W.drewN q) := SWK.drewN h q
theorem St.cells (h : St w0 blk off L W) (E : SEnv g cb cf blk off n w0) (hl : L.length = n) (i : Nat) (hi : i < n) :
    W.cell? ⟨blk, off + i * 2, none⟩ = some (.int .i64 (ge L i).1) ∧ W.cell? ⟨blk, off + i * 2 + 1, none⟩ = some (.int .i64 (ge L i).2) ∧ W.frozen? ⟨blk, off + i * 2, none⟩ = false ∧ W.frozen? ⟨blk, off + i * 2 + 1, none⟩ = false := by
  obtain ⟨d0, R, hd⟩ := E.row
  have hH := SWK.holds h R.hblk R.hH (by simp; omega)
  have h1 := hH (i * 2) (by simp; omega)
  have h2 := hH (i * 2 + 1) (by simp; omega)
  rw [Go.Sort.get_flatK _ _ _ _ (by simp; omega)] at h1 h2
  rw [show i * 2 / 2 = i by omega, show i * 2 % 2 = 0 by omega, ge_arr L (by omega)] at h1
  rw [show (i * 2 + 1) / 2 = i by omega, show (i * 2 + 1) % 2 = 1 by omega, ← Nat.add_assoc, ge_arr L (by omega)] at h2
  exact ⟨h1.1, h2.1, h1.2, h2.2⟩
theorem St.cellsG (h : St w0 blk off L W) (E : SEnv g cb cf blk off n w0) (hl : L.length = n) (i : Nat) (hi : i < n) (q : Nat) (os : Array Obj) :
    (Sort.grow (W.drewN q) os).cell? ⟨blk, off + i * 2, none⟩ = some (.int .i64 (ge L i).1) ∧ (Sort.grow (W.drewN q) os).cell? ⟨blk, off + i * 2 + 1, none⟩ = some (.int .i64 (ge L i).2) :=
  ⟨((h.grown q os).cells E hl i hi).1, ((h.grown q os).cells E hl i hi).2.1⟩
theorem St.cmp (h : St w0 blk off L W) (E : SEnv g cb cf blk off n w0) (hl : L.length = n) (x y : Int × Int) (q : Nat) (os : Array Obj) :
    Calls Try.prog g (#[.agg #[.int .i64 x.1, .int .i64 x.2], .agg #[.int .i64 y.1, .int .i64 y.2]] ++ cb) (Sort.grow (W.drewN q) os) fun e w' => e = .returned (.int .i64 (cf x y)) ∧ ∃ q' os', w' = Sort.grow ((Sort.grow (W.drewN q) os).drewN q') os' :=
  SWK.cmp h E.cmp (by simpa using hl) x y q os
/-- The exchange, as the walk leaves the world. -/
theorem St.swap (h : St w0 blk off L W) (E : SEnv g cb cf blk off n w0) (hl : L.length = n) {i j : Nat} (hi : i < n) (hj : j < n) {x y : Int × Int} (hx : ge L i = x) (hy : ge L j = y) :
    St w0 blk off (swapL L i j) ((((W.setCell ⟨blk, off + i * 2, none⟩ (.int .i64 y.1)).setCell ⟨blk, off + i * 2 + 1, none⟩ (.int .i64 y.2)).setCell ⟨blk, off + j * 2, none⟩ (.int .i64 x.1)).setCell ⟨blk, off + j * 2 + 1, none⟩ (.int .i64 x.2)).drew := by
  obtain ⟨d0, R, hd⟩ := E.row
  have := SWK.swapped h R i j (by simp; omega) (by simp; omega)
  rw [swp_list L (by omega) (by omega), ge_arr L (by omega), ge_arr L (by omega), hx, hy] at this
  exact this
/-- The cells that an exchange's stores meet. -/
theorem swap_meets (W : World) {p q : Nat} {x y : Int × Int} (hpq : p + 1 < q ∨ q + 1 < p) (ha1 : W.cell? ⟨blk, p + 1, none⟩ = some (.int .i64 x.2)) (hb0 : W.cell? ⟨blk, q, none⟩ = some (.int .i64 y.1)) (hb1 : W.cell? ⟨blk, q + 1, none⟩ = some (.int .i64 y.2)) :
    (W.setCell ⟨blk, p, none⟩ (.int .i64 y.1)).cell? ⟨blk, p + 1, none⟩ = some (.int .i64 x.2) ∧
    ((W.setCell ⟨blk, p, none⟩ (.int .i64 y.1)).setCell ⟨blk, p + 1, none⟩ (.int .i64 y.2)).cell? ⟨blk, q, none⟩ = some (.int .i64 y.1) ∧
    (((W.setCell ⟨blk, p, none⟩ (.int .i64 y.1)).setCell ⟨blk, p + 1, none⟩ (.int .i64 y.2)).setCell ⟨blk, q, none⟩ (.int .i64 x.1)).cell? ⟨blk, q + 1, none⟩ = some (.int .i64 y.2) := by
  have ne : ∀ {i j : Nat}, i ≠ j → (⟨blk, j, none⟩ : Addr) ≠ ⟨blk, i, none⟩ := fun h e => by simp only [Addr.mk.injEq, true_and, and_true] at e; omega
  refine ⟨?_, ?_, ?_⟩
  · rw [World.cell?_setCell_other _ _ _ _ (ne (by omega))]; exact ha1
  · rw [World.cell?_setCell_other _ _ _ _ (ne (by omega)), World.cell?_setCell_other _ _ _ _ (ne (by omega))]; exact hb0
  · rw [World.cell?_setCell_other _ _ _ _ (ne (by omega)), World.cell?_setCell_other _ _ _ _ (ne (by omega)), World.cell?_setCell_other _ _ _ _ (ne (by omega))]; exact hb1
end
end Go.Proofs.Ytnjnphoidjachaa
