/- Words on relations of numbers, given as a size and a row of Booleans; an argument of that type, opened. No program in sight. -/
import Derived.Test.YtfapllhjccpfpaaOpen
import Derived.Deep.Grids
namespace Go.Proofs.Ytfapllhjccpfpaa
open Go.ChangeShapes Go.WideShapes Go.ChangeAt Go.RowKit Go.Deep

/-- Element i of a list of Booleans, behind a name that the walk does not open. -/
def gb (bs : List Bool) (i : Nat) : Bool := bs.getD i false
theorem gb_out {bs : List Bool} {i : Nat} (h : bs.length ≤ i) : gb bs i = false := by simp [gb, h]
/-- A slice of Booleans that reads as bs. -/
def Bools (w : World) (A : Option Addr) (bs : List Bool) : Prop := RowV w A bs.length (fun i => .bool (gb bs i))
theorem Bools.below {w w' : World} {A : Option Addr} {bs : List Bool} (h : Bools w A bs) (hb : Below w.heap.size w w') : Bools w' A bs := RowV.below h hb
/-- Does a come before b. -/
def rel (sz : Int) (bs : List Bool) (a b : Int) : Bool := decide (0 ≤ a ∧ 0 ≤ b ∧ a < sz ∧ b < sz) && gb bs (a * sz + b).toNat
theorem rel_out {sz : Int} {bs : List Bool} {a b : Int} (h : ¬ (0 ≤ a ∧ 0 ≤ b ∧ a < sz ∧ b < sz)) : rel sz bs a b = false := by simp only [rel, decide_eq_false h, Bool.false_and]
theorem rel_in {sz : Int} {bs : List Bool} {a b : Int} (h : 0 ≤ a ∧ 0 ≤ b ∧ a < sz ∧ b < sz) : rel sz bs a b = gb bs (a * sz + b).toNat := by simp only [rel, decide_eq_true h, Bool.true_and]
theorem rel_far {sz : Int} {bs : List Bool} {a b : Int} (h : (bs.length : Int) ≤ a * sz + b) : rel sz bs a b = false := by
  unfold rel
  rw [gb_out (by omega), Bool.and_false]
/-- What the comparison hands back. -/
def cmpR (sz : Int) (bs : List Bool) (a b : Int) : Int := if rel sz bs a b = true then -1 else if rel sz bs b a = true then 1 else 0
theorem ltOf_R (sz : Int) (bs : List Bool) : (fun a b => decide (cmpR sz bs a b < 0)) = rel sz bs := by
  funext a b
  unfold cmpR
  cases rel sz bs a b <;> cases rel sz bs b a <;> simp

theorem wf_lt {n : Int} (h : (Lit.int .i64 n).wf = true) : n < 9223372036854775808 := by
  simp only [Lit.wf, Bool.and_eq_true, decide_eq_true_eq] at h
  have e : IntKind.i64.max = 9223372036854775807 := rfl
  omega

section
variable {H : Type} {enc : TypeId × Value → H} {P : Program} {W : World} {base : Nat} {held : Bool}
/-- An argument that is a struct of an int and a slice of Booleans. -/
theorem opened_order {t ti tb e : TypeId} {f0 f1 : Field} {v : Value} {b0 : Nat} {j : Nat} {d : DataW H} {p : List MemPlace} {ts : List TypeId} {ds : List (DataW H)} (ht : P.underlying t = some (.struct #[f0, f1])) (hone : oneCellFields P #[f0, f1] = true) (hC : P.cellsOf t = 2)
    (h0 : f0.type = ti) (h1 : f1.type = tb) (hti : P.underlying ti = some (.int .i64)) (htb : P.underlying tb = some (.slice e)) (hte : P.underlying e = some .bool) (hce : P.cellsOf e = 1) (hby : P.bytesOf e = 1)
    (hok : Value.okWide P W .any b0 t v) (h : DataW.Trod enc P W base (fun _ => true) held t v d p) (hsz : (DataW.weightsEach P ts ds).all (· ≤ reachBytes) = true) (hj : ts[j]? = some t) (hd : ds[j]? = some d) :
    ∃ (n : Int) (A : Option Addr) (cap : Nat) (bs : List Bool), v = .agg #[.int .i64 n, .slice A bs.length cap] ∧ Bools W A bs ∧ bs.length ≤ 140737488351232 ∧ (Lit.int .i64 n).wf = true := by
  obtain ⟨cs, rfl, hcs⟩ := okWide_struct ht hok
  rw [hC] at hcs
  obtain ⟨c0, c1, rfl⟩ : ∃ c0 c1, cs = #[c0, c1] := by
    match cs, hcs with
    | ⟨[c0, c1]⟩, _ => exact ⟨c0, c1, rfl⟩
  obtain ⟨fuel, hf⟩ := h
  obtain ⟨ys, n', _, hy, _, hyl, hff⟩ := DataW.trod_struct ht hf
  obtain ⟨o0, k0⟩ := hone_of hone 0 f0 rfl
  obtain ⟨o1, k1⟩ := hone_of hone 1 f1 rfl
  have t0 := hff 0 f0 rfl
  have t1 := hff 1 f1 rfl
  rw [o0, k0, h0] at t0
  rw [o1, k1, h1] at t1
  simp only [Value.cells, List.drop_zero, List.drop_succ_cons, List.take_succ_cons, List.take_zero] at t0 t1
  have y0 : ys[0]? = some (ys[0]'(by rw [hyl]; simp)) := List.getElem?_eq_getElem _
  have y1 : ys[1]? = some (ys[1]'(by rw [hyl]; simp)) := List.getElem?_eq_getElem _
  rw [y0] at t0
  rw [y1] at t1
  obtain ⟨n, e0, _, wn⟩ := DataW.trod_int hti t0
  simp at e0
  subst e0
  simp only [Prod.mk.injEq] at hy
  obtain ⟨rfl, _⟩ := hy
  rcases open_bools htb hte hce t1 with ⟨hc, _⟩ | ⟨a, len, cap, B, hc, _, hl, hm, hx, hcell⟩
  · simp at hc
    subst hc
    exact ⟨n, none, 0, [], rfl, fun hn => absurd hn (by simp), by simp, wn⟩
  · simp at hc
    subst hc
    have hw : (((List.range len).map fun i => (DataW.lit (.bool (B i)) : DataW H)).length + ((List.range (cap - len)).map fun i => (DataW.lit (.bool (B (len + i))) : DataW H)).length) * P.bytesOf e ≤ reachBytes := by
      refine of_decide_eq_true (List.all_eq_true.1 hsz _ (DataW.weights_mem_each hj hd _ ?_))
      simp only [DataW.weights, ht]
      refine DataW.weights_mem_each (j := 1) (t := tb) (d := (ys[1]'(by rw [hyl]; simp)).1) (by simp [h1]) (by rw [List.getElem?_map, y1]; rfl) _ ?_
      rw [hx]
      simp [boolRow, DataW.weights, htb]
    rw [hby] at hw
    simp only [List.length_map, List.length_range, reachBytes] at hw
    refine ⟨n, some a, cap, (List.range len).map B, by simp, rowV_of fun i hi => ?_, by simp; omega, wn⟩
    have hi' : i < len := by simpa using hi
    rw [hcell i (by omega)]
    simp [gb, hi']
end
end Go.Proofs.Ytfapllhjccpfpaa
