/- Contract of slices.Insert of one number, and of InsertInts. -/
import Derived.Test.YtnondbhmoflpjaaInsertLays
import Derived.Test.YtnondbhmoflpjaaNumbers
import Derived.Laws.AppendOwn
import Derived.Defers
import Derived.Recover
namespace Go.Proofs.Ytnondbhmoflpjaa
open Go.RowKit

/-- A number put in at a place. -/
def insI (zs : List Int) (i : Nat) (v : Int) : List Int := zs.take i ++ v :: zs.drop i
theorem length_ins (zs : List Int) {i : Nat} (v : Int) (hi : i ≤ zs.length) : (insI zs i v).length = zs.length + 1 := by unfold insI; simp; omega
theorem gi_ins {zs : List Int} {i : Nat} {v : Int} (hi : i ≤ zs.length) (k : Nat) : gi (insI zs i v) k = if k < i then gi zs k else if k = i then v else gi zs (k - 1) := by
  unfold insI gi
  have hl : (zs.take i).length = i := by simp; omega
  simp only [List.getD_eq_getElem?_getD]
  by_cases h1 : k < i
  · rw [if_pos h1, List.getElem?_append_left (by omega), List.getElem?_take, if_pos h1]
  · rw [if_neg h1, List.getElem?_append_right (by omega), hl]
    by_cases h2 : k = i
    · subst h2; simp
    · rw [if_neg h2, show k - i = (k - 1 - i) + 1 by omega, List.getElem?_cons_succ, List.getElem?_drop, show i + (k - 1 - i) = k - 1 by omega]

theorem OwnI.of_blk {t : TypeId} {w : World} {base g cap : Nat} {zs : List Int} {cur : Array Value} (hb : Blk w g t cur) (hg : base ≤ g) (h1 : zs.length ≤ cap) (h2 : cap ≤ maxLen) (h3 : cur.size = cap) (h4 : ∀ i, i < zs.length → cur[i]? = some (.int .i64 (gi zs i))) : OwnI t w base (some ⟨g, 0, none⟩) cap zs := by
  refine ⟨by simp, .inr ⟨g, cap, cur, rfl, hg, hb, h1, h2, by omega, ?_⟩⟩
  rw [Nat.mul_one]
  apply List.ext_getElem?
  intro k
  by_cases hk : k < zs.length
  · rw [List.getElem?_take, if_pos hk, Array.getElem?_toList, h4 k hk]
    simp [gi, hk]
  · rw [List.getElem?_eq_none (by simp; omega), List.getElem?_eq_none (by simp; omega)]

theorem OwnI.cap' {t : TypeId} {w : World} {base : Nat} {A : Option Addr} {cap : Nat} {zs : List Int} (h : OwnI t w base A cap zs) : zs.length ≤ cap ∧ cap ≤ maxLen := by
  rcases h.2 with ⟨hv, h0⟩ | ⟨g, cap', cur, hv, hbb, hh, hc, hm, hs, ht⟩
  · simp only [Value.slice.injEq] at hv
    obtain ⟨_, _, rfl⟩ := hv
    exact ⟨by omega, by unfold maxLen; omega⟩
  · simp only [Value.slice.injEq] at hv
    obtain ⟨_, _, rfl⟩ := hv
    exact ⟨hc, hm⟩
theorem Blk.setCells {g : Nat} {t : TypeId} : ∀ (vs : List Value) (o : Nat) (w : World) (cs : Array Value), Blk w g t cs →
    ∃ cs', Blk (w.setCells g o vs) g t cs' ∧ cs'.size = cs.size ∧ (∀ k, k < o → cs'[k]? = cs[k]?) ∧ (∀ k, o + vs.length ≤ k → cs'[k]? = cs[k]?) ∧ ∀ j, j < vs.length → o + j < cs.size → cs'[o + j]? = vs[j]?
  | [], o, w, cs, h => ⟨cs, h, rfl, fun _ _ => rfl, fun _ _ => rfl, fun j hj => by simp at hj⟩
  | v :: r, o, w, cs, h => by
    obtain ⟨cs', h1, h2, h3, h4, h5⟩ := Blk.setCells r (o + 1) _ _ (h.set_ o v)
    refine ⟨cs', h1, by rw [h2]; simp, fun k hk => ?_, fun k hk => ?_, fun j hj hs => ?_⟩
    · rw [h3 k (by omega), Array.getElem?_setIfInBounds_ne (by omega)]
    · rw [h4 k (by simp at hk; omega), Array.getElem?_setIfInBounds_ne (by simp at hk; omega)]
    · match j with
      | 0 =>
        rw [Nat.add_zero, h3 o (by omega), Array.getElem?_setIfInBounds_self_of_lt (by omega)]
        rfl
      | j + 1 =>
        have := h5 j (by simpa using hj) (by simp; omega)
        rw [show o + (j + 1) = o + 1 + j by omega, this]
        rfl
theorem below_setCells {B g : Nat} {a : World} (hg : B ≤ g) : ∀ (vs : List Value) (o : Nat) (w : World), Below B a w → Below B a (w.setCells g o vs)
  | [], _, _, h => h
  | v :: r, o, _, h => below_setCells hg r (o + 1) _ (h.setCell (p := ⟨g, o, none⟩) hg v)

/-- A call hands back a row of the call's own with one number more. -/
def RetIns (t : TypeId) (base : Nat) (ys : List Int) (w : World) (e : Ending) (w' : World) : Prop := ∃ A cap, e = .returned (.slice A ys.length cap) ∧ OwnI t w' base A cap ys ∧ Below base w w'

theorem slicesInsert_calls (A : Option Addr) (cap : Nat) (zs : List Int) (i : Nat) (v : Int) (vb base : Nat) (w : World) (ho : OwnI 3 w base A cap zs) (hi : i ≤ zs.length) (hv : Blk w vb 3 #[.int .i64 v]) (hvb : vb < base) (hbase : base ≤ w.heap.size) (hbig : (zs.length + 1) * 8 ≤ 140737488355328) :
    Calls Try.prog 46 #[.slice A zs.length cap, .int .i64 i, .slice (some ⟨vb, 0, none⟩) 1 1] w (RetIns 3 base (insI zs i v) w) := by
  have hL := length_ins zs v hi
  have hvs : ∀ j u, [Value.int .i64 v][j]? = some u → w.cell? ⟨vb, 0 + j, none⟩ = some u := fun j u h => by
    rw [Nat.zero_add, hv.cell j]
    match j, h with
    | 0, h => simpa using h
    | j + 1, h => simp at h
  have h1v : ∀ u ∈ [Value.int .i64 v], u.oneCell' = true := fun u hu => by simp at hu; subst hu; rfl
  have h1c : ∀ u ∈ zs.map (Value.int .i64), u.oneCell' = true := oneCell_ints zs
  have hmx : ∀ n : Nat, n = zs.length + 1 → n ≤ maxLen := fun n h => by unfold maxLen; omega
  rcases Nat.lt_or_ge i zs.length with hlt | hge
  · obtain ⟨g, cur, rfl, hg, hk, hc1, hc2, hsz, hcur⟩ := ho.block (by omega)
    have hne : vb ≠ g := by omega
    have hcs : ∀ j u, (zs.map (Value.int .i64))[j]? = some u → w.cell? ⟨g, 0 + j, none⟩ = some u := fun j u h => by
      have hj : j < zs.length := by
        rcases Nat.lt_or_ge j zs.length with h1 | h1
        · exact h1
        · rw [List.getElem?_eq_none (by simpa using h1)] at h; cases h
      rw [Nat.zero_add, hk.cell j, hcur j hj, ← h]
      simp [gi, hj]
    rcases Nat.lt_or_ge cap (zs.length + 1) with hroom | hroom
    · refine (Any2.slices_Insert_int_grow Try.insertLays g 0 zs.length cap i vb 0 1 1 (zs.map (Value.int .i64)) [.int .i64 v] w hlt (by omega) hc1 hroom hbig (by simp) rfl hcs hvs h1c h1v).mono ?_
      rintro e w' ⟨rfl, rfl⟩
      have hgc := grownCap_ge w (zs.length + 1) cap (Try.insertRen.t 3)
      have hgm := grownCap_le_maxLen w (zs.length + 1) cap (Try.insertRen.t 3) (hmx _ rfl)
      generalize hG : grownCap w (zs.length + 1) cap (Try.insertRen.t 3) = G at hgc hgm ⊢
      obtain ⟨C0, hC0⟩ : ∃ C0, C0 = ((zs.map (Value.int .i64)).take i).toArray ++ Builtin.zeroCells (Value.int .i64 0).cells (zs.length + 1 - i) ++ Builtin.zeroCells (Value.int .i64 0).cells (G - (zs.length + 1)) := ⟨_, rfl⟩
      rw [← hC0]
      have hz : ∀ n, (Builtin.zeroCells (Value.int .i64 0).cells n).size = n := fun n => by rw [size_zeroCells]; simp [Value.cells]
      have hs0 : C0.size = G := by
        rw [hC0, Array.size_append, Array.size_append, hz, hz]
        simp; omega
      have hk0 : ∀ k, k < i → C0[k]? = some (.int .i64 (gi zs k)) := fun k hki => by
        have hsz1 : ((zs.map (Value.int .i64)).take i).toArray.size = i := by simp; omega
        rw [hC0, Array.append_assoc, Array.getElem?_append_left (by omega)]
        simp [hki, gi, show k < zs.length by omega]
      have hB0 : Blk (w.alloc (.cells C0 3)).drew w.heap.size 3 C0 := Blk.new w _ _
      obtain ⟨cs1, hB1, hs1, ha1, _, hc1'⟩ := Blk.setCells [.int .i64 v] i _ _ hB0
      have hB1' : Blk ((w.alloc (.cells C0 3)).drew.setCells w.heap.size i [.int .i64 v]).drew w.heap.size 3 cs1 := hB1
      obtain ⟨cs2, hB2, hs2, ha2, _, hc2'⟩ := Blk.setCells ((zs.map (Value.int .i64)).drop i) (i + 1) _ _ hB1'
      refine ⟨some ⟨w.heap.size, 0, none⟩, G, by rw [hL], OwnI.of_blk hB2 hbase (by omega) hgm (by omega) (fun k hk2 => ?_), ?_⟩
      · rw [gi_ins hi]
        by_cases h1 : k < i
        · rw [if_pos h1, ha2 k (by omega), ha1 k h1, hk0 k h1]
        · rw [if_neg h1]
          by_cases h2 : k = i
          · subst h2
            have := hc1' 0 (by simp) (by omega)
            rw [if_pos rfl, ha2 k (by omega), ← Nat.add_zero k, this]; rfl
          · have := hc2' (k - i - 1) (by simp; omega) (by omega)
            rw [if_neg h2, show k = i + 1 + (k - i - 1) by omega, this, List.getElem?_drop, show i + (k - i - 1) = k - 1 by omega, show i + 1 + (k - i - 1) - 1 = k - 1 by omega]
            simp [gi, show k - 1 < zs.length by omega]
      · exact below_setCells hbase _ _ _ (below_setCells hbase _ _ _ ((Below.refl _ _).alloc hbase _).drew).drew
    · refine (Any2.slices_Insert_int_shift Try.insertLays g 0 zs.length cap i vb 0 1 1 (zs.map (Value.int .i64)) [.int .i64 v] w hlt (by omega) hroom hc2 hne (by simp) rfl hcs (fun j hj => ?_) (fun j hj => hk.frozen _) hvs h1c h1v 3 3 1 cap ?_ ?_ ?_ (hv.frozen _) (hv.frozen _)).mono ?_
      · rw [Nat.zero_add, hk.cell j, Array.getElem?_eq_getElem (by omega)]; rfl
      · unfold World.shape?; rw [show w.heap[vb]? = _ from hv]; rfl
      · unfold World.shape?; rw [show w.heap[g]? = _ from hk]; simp [hsz]
      · omega
      · rintro e w' ⟨rfl, rfl⟩
        have hkd : Blk w.drew g 3 cur := hk
        obtain ⟨cs1, hB1, hs1, ha1, _, hc1'⟩ := Blk.setCells ((zs.map (Value.int .i64)).drop i) (0 + (i + 1)) _ _ hkd
        obtain ⟨cs2, hB2, hs2, ha2, hb2, hc2'⟩ := Blk.setCells [.int .i64 v] (0 + i) _ _ hB1
        refine ⟨some ⟨g, 0, none⟩, cap, by rw [hL], OwnI.of_blk hB2 hg (by omega) hc2 (by omega) (fun k hk2 => ?_), ?_⟩
        · rw [gi_ins hi]
          by_cases h1 : k < i
          · rw [if_pos h1, ha2 k (by omega), ha1 k (by omega), hcur k (by omega)]
          · rw [if_neg h1]
            by_cases h2 : k = i
            · subst h2
              have := hc2' 0 (by simp) (by omega)
              rw [if_pos rfl, show k = 0 + k + 0 by omega, this]; rfl
            · have := hc1' (k - i - 1) (by simp; omega) (by omega)
              rw [if_neg h2, hb2 k (by simp; omega), show k = 0 + (i + 1) + (k - i - 1) by omega, this, List.getElem?_drop, show i + (k - i - 1) = k - 1 by omega, show 0 + (i + 1) + (k - i - 1) - 1 = k - 1 by omega]
              simp [gi, show k - 1 < zs.length by omega]
        · exact below_setCells hg _ _ _ (below_setCells hg _ _ _ (Below.refl _ _).drew)
  · obtain rfl : i = zs.length := by omega
    obtain ⟨hcap1, hcap2⟩ := ho.cap'
    rcases Nat.lt_or_ge cap (zs.length + 1) with hroom | hroom
    · refine (Any2.slices_Insert_int_end_grow Try.insertLays A zs.length cap vb 0 1 1 (zs.map (Value.int .i64)) [.int .i64 v] w (by omega) hcap1 hroom hbig (by simp) rfl ?_ ?_ hvs h1v).mono ?_
      · rintro rfl
        rcases Nat.eq_zero_or_pos zs.length with h0 | h0
        · exact h0
        · obtain ⟨g, cur, he, _⟩ := ho.block h0; cases he
      · rintro a rfl j u h
        have hj : j < zs.length := by
          rcases Nat.lt_or_ge j zs.length with h1 | h1
          · exact h1
          · rw [List.getElem?_eq_none (by simpa using h1)] at h; cases h
        obtain ⟨g, cur, he, hg, hk, hc1, hc2, hsz, hcur⟩ := ho.block (by omega)
        cases he
        have : (⟨g, 0, none⟩ : Addr).add j = ⟨g, j, none⟩ := by
          rcases Nat.eq_zero_or_pos j with hz | hz
          · subst hz; simp [Addr.add]
          · have hne : j ≠ 0 := by omega
            simp [Addr.add, hne]
        rw [this, hk.cell j, hcur j hj, ← h]
        simp [gi, hj]
      · rintro e w' ⟨rfl, rfl⟩
        have hgc := grownCap_ge w (zs.length + 1) cap (Try.insertRen.t 3)
        have hgm := grownCap_le_maxLen w (zs.length + 1) cap (Try.insertRen.t 3) (hmx _ rfl)
        generalize hG : grownCap w (zs.length + 1) cap (Try.insertRen.t 3) = G at hgc hgm ⊢
        obtain ⟨C0, hC0⟩ : ∃ C0, C0 = (zs.map (Value.int .i64) ++ [Value.int .i64 v]).toArray ++ Builtin.zeroCells (Value.int .i64 0).cells (G - (zs.length + 1)) := ⟨_, rfl⟩
        rw [← hC0]
        have hz : ∀ n, (Builtin.zeroCells (Value.int .i64 0).cells n).size = n := fun n => by rw [size_zeroCells]; simp [Value.cells]
        have hs0 : C0.size = G := by
          rw [hC0, Array.size_append, hz]
          simp; omega
        have hB0 : Blk (w.drew.alloc (.cells C0 3)) w.heap.size 3 C0 := Blk.new w.drew _ _
        refine ⟨some ⟨w.heap.size, 0, none⟩, G, by rw [hL], OwnI.of_blk hB0 hbase (by omega) hgm hs0 (fun k hk2 => ?_), (Below.refl _ _).drew.alloc hbase _⟩
        rw [gi_ins hi, hC0, Array.getElem?_append_left (by simp; omega)]
        by_cases h1 : k < zs.length
        · rw [if_pos h1]
          rw [List.getElem?_toArray, List.getElem?_append_left (by simpa using h1)]
          simp [gi, h1]
        · obtain rfl : k = zs.length := by omega
          rw [if_neg h1, if_pos rfl]
          simp
    · have hg : ∃ g cur, A = some ⟨g, 0, none⟩ ∧ base ≤ g ∧ Blk w g 3 cur ∧ cur.size = cap ∧ ∀ i, i < zs.length → cur[i]? = some (.int .i64 (gi zs i)) := by
        rcases ho.2 with ⟨hv0, h0⟩ | ⟨g, cap', cur, hv0, hbb, hh, hc, hm, hs, ht⟩
        · simp only [Value.slice.injEq] at hv0
          omega
        · simp only [Value.slice.injEq] at hv0
          obtain ⟨rfl, _, rfl⟩ := hv0
          refine ⟨g, cur, rfl, hbb, hh, by omega, fun i hi => ?_⟩
          have : (cur.toList.take (zs.length * 1))[i]? = (zs.map (Value.int .i64))[i]? := by rw [ht]
          rw [Nat.mul_one, List.getElem?_take, if_pos hi] at this
          simpa [gi, hi] using this
      obtain ⟨g, cur, rfl, hgb, hk, hsz, hcur⟩ := hg
      refine (Any2.slices_Insert_int_end_room Try.insertLays g 0 zs.length cap vb 0 1 1 [.int .i64 v] w (by omega) hroom hcap2 rfl (fun j hj => ?_) (fun j hj => hk.frozen _) hvs h1v).mono ?_
      · rw [hk.cell, Array.getElem?_eq_getElem (by omega)]; rfl
      · rintro e w' ⟨rfl, rfl⟩
        obtain ⟨cs1, hB1, hs1, ha1, _, hc1'⟩ := Blk.setCells [.int .i64 v] (0 + zs.length) _ _ hk
        refine ⟨some ⟨g, 0, none⟩, cap, by rw [hL], OwnI.of_blk hB1 hgb (by omega) hcap2 (by omega) (fun k hk2 => ?_), below_setCells hgb _ _ _ (Below.refl _ _)⟩
        rw [gi_ins hi]
        by_cases h1 : k < zs.length
        · rw [if_pos h1, ha1 k (by omega), hcur k h1]
        · obtain rfl : k = zs.length := by omega
          have := hc1' 0 (by simp) (by omega)
          rw [if_neg h1, if_pos rfl, show zs.length = 0 + zs.length + 0 by omega, this]; rfl

theorem OwnI.far {t : TypeId} {w : World} {base : Nat} {A : Option Addr} {cap : Nat} {zs : List Int} (h : OwnI t w base A cap zs) {p : Addr} (hp : p.block < base) (u : Value) : OwnI t (w.setCell p u) base A cap zs := by
  refine ⟨h.1, ?_⟩
  rcases h.2 with h0 | ⟨g, cap', cur, hv, hbb, hh, hr⟩
  · exact .inl h0
  · exact .inr ⟨g, cap', cur, hv, hbb, Blk.far (t := t) (cs := cur) hh (fun e => by omega) u, hr⟩

theorem catchInsertInts_idle (p q : Addr) (w : World) :
    CallsD Try.prog 45 #[.pointer (some p), .pointer (some q)] .returning w fun e u' w' => e = .returned (.tuple #[]) ∧ u' = .returning ∧ w' = w := by
  refine callsD_of_wpS Try.func45 rfl fun c₀ cs hu => ?_
  apply wpS_seq
  apply wpS_region
  simp [wpOpsS, go_sem, recoverD, hu, Try.ntmps45, Exit.thenS]
  refine wpS_cond (t := false) (by simp [Act.eval, Array.replicate]) ?_
  simp only [Bool.false_eq_true, if_false]
  refine wpS_of_wp (wp_skip ?_)
  cases c₀
  simp_all [bodyPostS, results, Try.results45]

/-- A call hands back a new row of numbers, and true. -/
def RetOwn2 (t : TypeId) (ys : List Int) (w : World) (e : Ending) (w' : World) : Prop :=
  ∃ A cap, e = .returned (.tuple #[.slice A ys.length cap, .bool true]) ∧ OwnI t w' w.heap.size A cap ys ∧ Below w.heap.size w w'

set_option maxHeartbeats 800000 in
theorem insertInts_calls (A : Option Addr) (c : Nat) (zs : List Int) (i : Nat) (v : Int) (vb : Nat) (w : World) (hA : Ints w A zs) (hn : zs.length * 8 ≤ 140737488351232) (hi : i ≤ zs.length) (hv : Blk w vb 3 #[.int .i64 v]) :
    Calls Try.prog 33 #[.slice A zs.length c, .int .i64 i, .slice (some ⟨vb, 0, none⟩) 1 1] w (RetOwn2 3 (insI zs i v) w) := by
  have hmf : ∀ (fn : Fn) (first cap : Array Value) (w : World), (Instr.makeFunc fn first cap).run Try.prog w = .ok (.func fn first cap) w := fun _ _ _ _ => rfl
  have hvl := hv.lt
  obtain ⟨w0, hw0⟩ : ∃ w0, w0 = (w.alloc (.cells #[.slice none 0 0] 22)).alloc (.cells #[.bool false] 4) := ⟨_, rfl⟩
  have hb0 : Below w.heap.size w w0 := by rw [hw0]; exact ((Below.refl _ _).alloc (Nat.le_refl _) _).alloc (by simp) _
  have hs0 : w0.heap.size = w.heap.size + 2 := by rw [hw0]; simp
  have hk1 : Blk w0 w.heap.size 22 #[.slice none 0 0] := by rw [hw0]; exact (Blk.new _ _ _).alloc _
  have hk2 : Blk w0 (w.heap.size + 1) 4 #[.bool false] := by
    rw [hw0]
    have := Blk.new (w.alloc (.cells #[.slice none 0 0] 22)) 4 #[.bool false]
    simpa using this
  go_enter_defers Try.func33, Try.ntmps33
  go_wp2_with fail
  rw [← hw0]
  refine (numbers_calls _ _ zs w0 (hA.below hb0) hn).mono ?_
  rintro e w1 ⟨A1, cap1, rfl, ho1, hb1⟩
  have hk1' := hk1.below hb1 (by omega)
  have hk2' := hk2.below hb1 (by omega)
  have hv1 := (hv.below hb0 hvl).below hb1 (by omega)
  have hs1 := hb1.size
  clear hk1 hk2 hA hv hw0
  go_wp2_with fail
  refine (slicesInsert_calls A1 cap1 zs i v vb w0.heap.size w1 ho1 hi hv1 (by omega) hs1 (by omega)).mono ?_
  rintro e w2 ⟨A2, cap2, rfl, ho2, hb2⟩
  have hk1 := hk1'.below hb2 (by omega)
  have hk2 := hk2'.below hb2 (by omega)
  have hc1 := hk1.cell 0
  have hf1 := hk1.frozen 0
  have hc2 := (hk2.far (p := ⟨w.heap.size, 0, none⟩) (by simp) (.slice A2 (insI zs i v).length cap2)).cell 0
  have hf2 := hk2.frozen 0
  have hb3 : Below w.heap.size w w2 := (hb0.trans (hb1.mono (by omega))).trans (hb2.mono (by omega))
  simp at hc1 hc2
  obtain ⟨L, hL⟩ : ∃ L, L = insI zs i v := ⟨_, rfl⟩
  rw [← hL] at ho2 hc2 ⊢
  have HL := Lib.hid hL
  have hr1 : ((w2.setCell ⟨w.heap.size, 0, none⟩ (.slice A2 L.length cap2)).setCell ⟨w.heap.size + 1, 0, none⟩ (.bool true)).cell? ⟨w.heap.size, 0, none⟩ = some (.slice A2 L.length cap2) := by
    have := ((hk1.set_ 0 (.slice A2 L.length cap2)).far (p := ⟨w.heap.size + 1, 0, none⟩) (by simp) (.bool true)).cell 0
    simpa using this
  have hr2 : ((w2.setCell ⟨w.heap.size, 0, none⟩ (.slice A2 L.length cap2)).setCell ⟨w.heap.size + 1, 0, none⟩ (.bool true)).cell? ⟨w.heap.size + 1, 0, none⟩ = some (.bool true) := by
    have := ((hk2.far (p := ⟨w.heap.size, 0, none⟩) (by simp) (.slice A2 L.length cap2)).set_ 0 (.bool true)).cell 0
    simpa using this
  clear hk1' hk2' hL hv1 ho1 hb0 hb1 hb2
  go_wp2_with fail
  refine leaves_cons (f := 45) (args := #[.pointer (some ⟨w.heap.size, 0, none⟩), .pointer (some ⟨w.heap.size + 1, 0, none⟩)]) (by simp) (by simp [go_sem]) ?_
  refine (catchInsertInts_idle ⟨w.heap.size, 0, none⟩ ⟨w.heap.size + 1, 0, none⟩ _).mono ?_
  rintro e u' w'' ⟨rfl, rfl, rfl⟩
  simp [Leaves, settle, results, Try.results33, go_sem, hr1, hr2]
  rw [← HL.out]
  refine ⟨A2, cap2, rfl, ((ho2.far (p := ⟨w.heap.size, 0, none⟩) (by simp; omega) _).far (p := ⟨w.heap.size + 1, 0, none⟩) (by simp; omega) _).mono (by omega), ?_⟩
  exact (hb3.setCell (p := ⟨w.heap.size, 0, none⟩) (by simp) _).setCell (p := ⟨w.heap.size + 1, 0, none⟩) (by simp) _
end Go.Proofs.Ytnondbhmoflpjaa
