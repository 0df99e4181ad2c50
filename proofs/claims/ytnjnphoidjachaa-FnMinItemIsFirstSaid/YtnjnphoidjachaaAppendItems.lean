/- Rows of items of the call's own, and append onto them. No program in sight. -/
import Derived.Test.YtnjnphoidjachaaItems
import Derived.Test.YtnjnphoidjachaaAppend
namespace Go.Proofs.Ytnjnphoidjachaa
open Go.RowKit

/-- The cells of a list of items, as a list. -/
def pairCells (xs : List (Int × Int)) : List Value := xs.flatMap fun p => [Value.int .i64 p.1, Value.int .i64 p.2]
theorem itemCells_eq (xs : List (Int × Int)) : itemCells xs = (pairCells xs).toArray := rfl
theorem length_pairCells (xs : List (Int × Int)) : (pairCells xs).length = xs.length * 2 := by
  have := size_itemCells xs
  rwa [itemCells_eq, List.size_toArray] at this
theorem pairCells_at (xs : List (Int × Int)) {i : Nat} (h : i < xs.length) : (pairCells xs)[i * 2]? = some (.int .i64 (gk xs i)) ∧ (pairCells xs)[i * 2 + 1]? = some (.int .i64 (gt xs i)) := by
  have := itemCells_at xs h
  rw [itemCells_eq] at this
  simpa using this
theorem pairCells_append (xs ys : List (Int × Int)) : pairCells (xs ++ ys) = pairCells xs ++ pairCells ys := by simp [pairCells]
theorem oneCell_pairs (xs : List (Int × Int)) : ∀ u ∈ pairCells xs, u.oneCell' = true := by
  intro u hu
  obtain ⟨p, _, hp⟩ := List.mem_flatMap.1 hu
  rcases List.mem_cons.1 hp with rfl | hp
  · rfl
  · rcases List.mem_cons.1 hp with rfl | hp
    · rfl
    · cases hp

/-- A row of the call's own that reads as items. -/
def OwnP (t : TypeId) (w : World) (base : Nat) (A : Option Addr) (cap : Nat) (xs : List (Int × Int)) : Prop := w.ownsRow base t 2 (.slice A xs.length cap) xs.length (pairCells xs)
theorem own_formP {w : World} {base : Nat} {t : TypeId} {v : Value} {xs : List (Int × Int)} (h : w.ownsRow base t 2 v xs.length (pairCells xs)) : ∃ A cap, v = .slice A xs.length cap ∧ OwnP t w base A cap xs := by
  rcases h.2 with ⟨hv, h0⟩ | ⟨g, cap, cur, hv, _⟩
  · refine ⟨none, 0, by rw [hv, h0], ?_⟩
    unfold OwnP
    rw [← show v = .slice none xs.length 0 by rw [hv, h0]]
    exact h
  · refine ⟨_, _, hv, ?_⟩
    unfold OwnP
    rw [← hv]
    exact h
theorem OwnP.block {t : TypeId} {w : World} {base : Nat} {A : Option Addr} {cap : Nat} {xs : List (Int × Int)} (h : OwnP t w base A cap xs) (hn : 0 < xs.length) :
    ∃ g cur, A = some ⟨g, 0, none⟩ ∧ base ≤ g ∧ Blk w g t cur ∧ xs.length ≤ cap ∧ cap ≤ maxLen ∧ cur.size = cap * 2 ∧ cur.toList.take (xs.length * 2) = pairCells xs := by
  rcases h.2 with ⟨_, h0⟩ | ⟨g, cap', cur, hv, hb, hh, hc, hm, hs, ht⟩
  · omega
  · simp only [Value.slice.injEq] at hv
    obtain ⟨rfl, _, rfl⟩ := hv
    exact ⟨g, cur, rfl, hb, hh, hc, hm, hs, ht⟩
theorem cells_of_take {cur : Array Value} {xs : List (Int × Int)} (ht : cur.toList.take (xs.length * 2) = pairCells xs) {i : Nat} (hi : i < xs.length) : cur[i * 2]? = some (.int .i64 (gk xs i)) ∧ cur[i * 2 + 1]? = some (.int .i64 (gt xs i)) := by
  have h := pairCells_at xs hi
  rw [← ht, List.getElem?_take, List.getElem?_take, if_pos (by omega), if_pos (by omega)] at h
  simpa using h
theorem OwnP.items {t : TypeId} {w : World} {base : Nat} {A : Option Addr} {cap : Nat} {xs : List (Int × Int)} (h : OwnP t w base A cap xs) : Items w A xs := fun hn => by
  obtain ⟨g, cur, rfl, _, hb, _, _, _, hc⟩ := h.block hn
  refine ⟨g, 0, rfl, hb.lt, fun i hi => ?_⟩
  have := cells_of_take hc hi
  rw [Nat.zero_add, hb.cell, hb.cell]
  exact this
theorem OwnP.below {t : TypeId} {w w' : World} {base : Nat} {A : Option Addr} {cap : Nat} {xs : List (Int × Int)} (h : OwnP t w base A cap xs) (hb : Below w.heap.size w w') : OwnP t w' base A cap xs := by
  refine ⟨h.1, ?_⟩
  rcases h.2 with h0 | ⟨g, cap', cur, hv, hbb, hh, hr⟩
  · exact .inl h0
  · exact .inr ⟨g, cap', cur, hv, hbb, (Blk.below (t := t) (cs := cur) hh hb (Blk.lt (t := t) (cs := cur) hh)), hr⟩
theorem OwnP.nil (t : TypeId) (w : World) (base : Nat) : OwnP t w base none 0 [] := World.ownsRow_nil _ _ _ _
theorem OwnP.far {t : TypeId} {w : World} {base : Nat} {A : Option Addr} {cap : Nat} {xs : List (Int × Int)} (h : OwnP t w base A cap xs) {k : Nat} (hk : (Value.slice A xs.length cap).ownBlock = some k) : base ≤ k := by
  rcases h.2 with ⟨h0, _⟩ | ⟨g, _, _, hv, hbb, _⟩
  · rw [h0] at hk; cases hk
  · rw [hv] at hk; cases hk; exact hbb

/-- A call hands back a new row of items, and nothing that was there has turned. -/
def RetP (t : TypeId) (xs : List (Int × Int)) (w : World) (e : Ending) (w' : World) : Prop :=
  ∃ A cap, e = .returned (.slice A xs.length cap) ∧ OwnP t w' w.heap.size A cap xs ∧ Below w.heap.size w w'

/-- 'out = append(out, item)': one item more. -/
theorem wpList_append_item {P : Program} (w : World) {ops : Array Oper} {rest : List Oper} {o : Oper} {a : Act} {Q : Exit → Act → World → Prop} (hgd : o.guard = none) (s x : Operand) (t : TypeId)
    (ho : o.op = .call { callee := .builtin .append, args := #[s, x], argTypes := #[t, t] })
    (base : Nat) (e : TypeId) (ht : P.underlying t = some (.slice e)) (hinfo : (P.info? e).map (fun i => (i.zero, i.size, i.bytes)) = some (some (.agg #[.int .i64 0, .int .i64 0]), 2, 16))
    (A : Option Addr) (cap : Nat) (l : List (Int × Int)) (hs : a.eval s = .slice A l.length cap) (hown : OwnP e w base A cap l)
    (k v : Int) (B0 : Nat) (hB0 : w.heap.size = B0) (hx : a.eval x = .slice (some ⟨B0, 0, none⟩) 1 1)
    (hbytes : (l.length + 1) * 16 ≤ 140737488355328) (hbase : base ≤ w.heap.size)
    (h : ∀ A' cap' w', OwnP e w' base A' cap' (l ++ [(k, v)]) → Below base w w' → wpList P ops Q rest (a.put o.dst (.slice A' (l.length + 1) cap')) w') :
    wpList P ops Q (o :: rest) a (w.alloc (.cells #[.int .i64 k, .int .i64 v] e)) := by
  subst hB0
  obtain ⟨i0, hi, hz0, hz1, hz2⟩ := info_parts hinfo
  have ha : (w.alloc (.cells #[.int .i64 k, .int .i64 v] e)).ownsRow base e 2 (.slice A l.length cap) l.length (pairCells l) :=
    hown.below ((Below.refl _ _).alloc (Nat.le_refl _) _)
  refine wpList_append_own (w.alloc (.cells #[.int .i64 k, .int .i64 v] e)) hgd s x t ho base e i0 (.agg #[.int .i64 0, .int .i64 0]) 2 16 ht hi hz0 hz1 hz2 rfl (by decide) _ _ _ hs ha ⟨w.heap.size, 0, none⟩ 1 1 [.int .i64 k, .int .i64 v] hx rfl ?_ ?_ ?_ hbytes ?_ ?_
  · intro j u hj
    match j, hj with
    | 0, hj => simp at hj; subst hj; simp [Addr.add]
    | 1, hj => simp at hj; subst hj; simp [Addr.add]
    | j + 2, hj => simp at hj
  · intro u hu
    rcases List.mem_cons.1 hu with rfl | hu
    · rfl
    · rcases List.mem_cons.1 hu with rfl | hu
      · rfl
      · cases hu
  · unfold maxLen; omega
  · simp; omega
  · intro v' w' hown' hg _
    have hown2 : w'.ownsRow base e 2 v' (l ++ [(k, v)]).length (pairCells (l ++ [(k, v)])) := by
      rw [pairCells_append]
      simpa [pairCells] using hown'
    obtain ⟨A', cap', rfl, ho'⟩ := own_formP hown2
    have hb : Below base w w' := ((Below.refl _ _).alloc hbase _).grown hg (by simp; omega) (fun k hk => hown.far hk)
    have := h A' cap' w' ho' hb
    simpa using this
theorem take_pair {xs : List (Int × Int)} {k : Nat} (h : k < xs.length) : xs.take (k + 1) = xs.take k ++ [(gk xs k, gt xs k)] := by
  rw [List.take_succ_eq_append_getElem h, pair_eq h]
end Go.Proofs.Ytnjnphoidjachaa
