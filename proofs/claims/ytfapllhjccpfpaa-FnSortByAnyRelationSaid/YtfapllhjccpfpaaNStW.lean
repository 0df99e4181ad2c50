/- Worlds of a stable sort of numbers: words and steps for its walks. -/
import Derived.Test.YtfapllhjccpfpaaInfo
import Derived.Test.YtfapllhjccpfpaaSortL
import Derived.Shelf.SlSortCmp.ReverseRange1
namespace Go.Proofs.Ytfapllhjccpfpaa
open Go.RowKit
open Go.Sort (swp)

/-- The cell of a number. -/
def encI (x : Int) : Value := .int .i64 x
theorem encI_one : OneCell encI := fun _ => rfl
/-- W is a world of the sort's in which the row holds L. -/
def St (w0 : World) (blk off : Nat) (L : List Int) (W : World) : Prop := SW encI w0 blk off L.toArray W
/-- What a sort's walk is told once: the row of n numbers, the comparison. -/
structure SEnv (g : Nat) (cb : Array Value) (cf : Int → Int → Int) (blk off n : Nat) (w0 : World) : Prop where
  row : ∃ d0, Row1 encI w0 blk off d0 ∧ d0.size = n
  cmp : CmpLays1 Try.prog g cb encI cf blk off n w0
  enters : ∀ args w, (callFunc g args).run Try.prog w = .ok (.enter g args) w
  small : n * 8 ≤ 140737488351232

section
variable {g : Nat} {cb : Array Value} {cf : Int → Int → Int} {blk off n : Nat} {w0 W : World} {L : List Int}
theorem St.grown (h : St w0 blk off L W) (q : Nat) (os : Array Obj) : St w0 blk off L (Sort.grow (W.drewN q) os) := SW.grown h q os
theorem St.drewN (h : St w0 blk off L W) (q : Nat) : St w0 blk off L (W.drewN q) := SW.drewN h q
theorem St.cells (h : St w0 blk off L W) (E : SEnv g cb cf blk off n w0) (hl : L.length = n) (i : Nat) (hi : i < n) :
    W.cell? ⟨blk, off + i, none⟩ = some (.int .i64 (ge L i)) ∧ W.frozen? ⟨blk, off + i, none⟩ = false := by
  obtain ⟨d0, R, hd⟩ := E.row
  have h1 := SW.c1 h R (by simp; omega) i (by simp; omega)
  have h2 := SW.f1 h R (by simp; omega) i (by simp; omega)
  rw [ge_arr L (by omega)] at h1
  exact ⟨h1, h2⟩
theorem St.cellsG (h : St w0 blk off L W) (E : SEnv g cb cf blk off n w0) (hl : L.length = n) (i : Nat) (hi : i < n) (q : Nat) (os : Array Obj) :
    (Sort.grow (W.drewN q) os).cell? ⟨blk, off + i, none⟩ = some (.int .i64 (ge L i)) := ((h.grown q os).cells E hl i hi).1
theorem St.cmp (h : St w0 blk off L W) (E : SEnv g cb cf blk off n w0) (hl : L.length = n) (x y : Int) (q : Nat) (os : Array Obj) :
    Calls Try.prog g (#[.int .i64 x, .int .i64 y] ++ cb) (Sort.grow (W.drewN q) os) fun e w' => e = .returned (.int .i64 (cf x y)) ∧ ∃ q' os', w' = Sort.grow ((Sort.grow (W.drewN q) os).drewN q') os' :=
  SW.cmp h E.cmp (by simpa using hl) x y q os
/-- The exchange, as the walk leaves the world. -/
theorem St.swap (h : St w0 blk off L W) (E : SEnv g cb cf blk off n w0) (hl : L.length = n) {i j : Nat} (hi : i < n) (hj : j < n) {x y : Int} (hx : ge L i = x) (hy : ge L j = y) :
    St w0 blk off (swapL L i j) ((W.setCell ⟨blk, off + i, none⟩ (.int .i64 y)).setCell ⟨blk, off + j, none⟩ (.int .i64 x)).drew := by
  obtain ⟨d0, R, hd⟩ := E.row
  have := SW.swapped h R i j (by simp; omega) (by simp; omega)
  rw [swp_list L (by omega) (by omega), ge_arr L (by omega), ge_arr L (by omega), hx, hy] at this
  exact this
/-- The cell that an exchange's second store meets. -/
theorem swap_meets (W : World) {p q : Nat} {x y : Int} (hpq : p < q ∨ q < p) (_ha : W.cell? ⟨blk, p, none⟩ = some (.int .i64 x)) (hb : W.cell? ⟨blk, q, none⟩ = some (.int .i64 y)) :
    (W.setCell ⟨blk, p, none⟩ (.int .i64 y)).cell? ⟨blk, q, none⟩ = some (.int .i64 y) := by
  rw [World.cell?_setCell_other _ _ _ _ (by intro e; simp only [Addr.mk.injEq, true_and, and_true] at e; omega)]
  exact hb
end
end Go.Proofs.Ytfapllhjccpfpaa
