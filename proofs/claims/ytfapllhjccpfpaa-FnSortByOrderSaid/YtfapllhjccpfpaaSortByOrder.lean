/- Contract of SortByOrder at a strict weak order of the numbers: a list of its own, the same numbers, in order. -/
import Derived.Test.YtfapllhjccpfpaaSign
import Derived.Test.YtfapllhjccpfpaaRetSorted
import Derived.Test.YtfapllhjccpfpaaLayF
import Derived.Test.YtfapllhjccpfpaaStabPlain
import Derived.Shelf.SlSortCmp.NoneTotal
namespace Go.Proofs.Ytfapllhjccpfpaa
open Go.RowKit

section
variable {α : Type} [Inhabited α]
theorem perm_in {d d' : Array α} (h : Sort.PermIn 0 d.size d d') : d'.toList.Perm d.toList := by
  have h3 := h.2.2
  rw [Array.extract_size] at h3
  have : d'.extract 0 d.size = d' := by rw [← h.1]; exact Array.extract_size
  rwa [this] at h3
theorem srt_in {lt : α → α → Bool} {d : Array α} {n : Nat} (hn : n = d.size) (h : Sort.SortedIn lt 0 n d) : Srt lt d.toList := by
  unfold Srt
  rw [List.pairwise_iff_getElem]
  intro i j hi hj hij
  have hi' : i < d.size := by simpa using hi
  have hj' : j < d.size := by simpa using hj
  have := h i j (Nat.zero_le _) hij (by omega)
  rw [getElem!_pos _ j hj', getElem!_pos _ i hi'] at this
  simpa using this
end

section
variable {zs : List Int} [Inhabited { v : Int // v ∈ zs }]
/-- The cell of a number of the list. -/
def encS (zs : List Int) (x : { v : Int // v ∈ zs }) : Value := .int .i64 x.1
theorem sortWorld_sub (w : World) (g m : Nat) (d : Array { v : Int // v ∈ zs }) (os : Array Obj) : sortWorld (encS zs) w g 0 m d os = Sort.grow (Sort.putRow (Value.int .i64) (Sort.ahead w m) g 0 (d.toList.map Subtype.val).toArray) os := by
  unfold sortWorld Sort.putRow
  congr 2
  funext c
  unfold Sort.putCells
  congr 1
  funext k x
  by_cases hk : 0 ≤ k ∧ k < 0 + d.size
  · rw [if_pos hk, if_pos (by simpa using hk)]
    have hk' : k - 0 < d.size := by omega
    rw [getElem!_pos _ (k - 0) hk', getElem!_pos _ (k - 0) (by simpa using hk')]
    simp [encS]
  · rw [if_neg hk, if_neg (by simpa using hk)]
end

/-- A call hands back a new row of the same numbers in order. -/
def RetSrtN (t : TypeId) (lt : Int → Int → Bool) (zs : List Int) (w : World) (e : Ending) (w' : World) : Prop := ∃ ys : List Int, ys.Perm zs ∧ Srt lt ys ∧ RetOwn t ys w e w'
theorem ret_older {t : TypeId} {w w0 : World} {ys : List Int} {e : Ending} {w' : World} (hb : Below w.heap.size w w0) (h : RetOwn t ys w0 e w') : RetOwn t ys w e w' := by
  obtain ⟨A, cap, rfl, ho, hb'⟩ := h
  exact ⟨A, cap, rfl, ho.mono hb.size, hb.trans (hb'.mono hb.size)⟩

set_option maxHeartbeats 1600000 in
theorem sortByOrder_weak (A : Option Addr) (c : Nat) (zs : List Int) (sz : Int) (B : Option Addr) (d : Nat) (bs : List Bool) (w : World) (hA : Ints w A zs) (hn : zs.length * 8 ≤ 140737488351232) (hB : Bools w B bs) (hbn : bs.length ≤ 140737488351232) (hsz : sz < 9223372036854775808) (hW : Weak (rel sz bs) (· ∈ zs)) :
    Calls Try.prog 13 #[.slice A zs.length c, .agg #[.int .i64 sz, .slice B bs.length d]] w (RetSrtN 3 (rel sz bs) zs w) := by
  have hb0 : Below w.heap.size w (w.alloc (.cells #[.int .i64 sz, .slice B bs.length d] 28)) := (Below.refl _ _).alloc (Nat.le_refl _) _
  have hK := Blk.new w 28 #[.int .i64 sz, .slice B bs.length d]
  have hbox : BoxR (w.alloc (.cells #[.int .i64 sz, .slice B bs.length d] 28)) w.heap.size sz bs := ⟨⟨B, d, hK.pair.1, hK.pair.2, hB.below hb0⟩, hbn, hsz⟩
  have hA0 := hA.below hb0
  have HBX := Lib.hid hbox
  have HW := Lib.hid hW
  clear hbox hK hB hW
  go_enter Try.func13, Try.ntmps13
  go_wp2_with fail
  refine (numbers_calls _ _ zs _ hA0 hn).mono ?_
  rintro e w1 ⟨A1, cap1, rfl, ho, hb⟩
  generalize hg0 : w.heap.size = g0
  rw [hg0] at HBX
  generalize hW0 : w.alloc (.cells #[.int .i64 sz, .slice B bs.length d] 28) = w00 at hb0 hA0 HBX ho hb
  rcases Nat.eq_zero_or_pos zs.length with h0 | h0
  · obtain rfl : zs = [] := List.eq_nil_of_length_eq_zero h0
    go_wp2_with fail
    refine (AnyF.slices_SortFunc_none (P := Try.prog) (ρ := Try.layLayF_ren) { Try.layLayF with } _ _ _ _).mono ?_
    rintro e w2 ⟨rfl, rfl⟩
    go_wp2
    go_ret
    exact ⟨[], List.Perm.refl _, List.Pairwise.nil, ret_older hb0 ⟨A1, cap1, rfl, ho, hb⟩⟩
  · obtain ⟨g, cur, rfl, hg, hk, hc1, hc2, hs, hcur⟩ := ho.block h0
    have inst : Inhabited { v : Int // v ∈ zs } := ⟨⟨gi zs 0, gi_mem h0⟩⟩
    have hdl : zs.attach.toArray.size = zs.length := by simp
    have hH : Sort.Holds (encS zs) w1 g 0 zs.attach.toArray := by
      intro j hj
      have hj' : j < zs.length := by simpa using hj
      refine ⟨?_, hk.frozen _⟩
      rw [Nat.zero_add, hk.cell j, hcur j hj', getElem!_pos _ j hj]
      simp [encS, gi_eq hj']
    have hO : Sort.SWO (ltOf (fun x y : { v : Int // v ∈ zs } => cmpR sz bs x.1 y.1)) := by
      have e : ∀ x y : { v : Int // v ∈ zs }, ltOf (fun x y : { v : Int // v ∈ zs } => cmpR sz bs x.1 y.1) x y = rel sz bs x.1 y.1 := fun x y => congrFun (congrFun (ltOf_R sz bs) x.1) y.1
      refine ⟨fun x => ?_, fun x y z h1 h2 => ?_, fun x y z h1 h2 => ?_⟩
      · rw [e]; exact HW.out.irr x.2
      · rw [e] at *; exact HW.out.trans x.2 y.2 z.2 h1 h2
      · rw [e] at *; exact HW.out.neg z.1 y.1 x.1 z.2 y.2 x.2 h2 h1
    have hcl : CmpLays1 Try.prog 23 #[.pointer (some ⟨g0, 0, none⟩)] (encS zs) (fun x y => cmpR sz bs x.1 y.1) g 0 zs.attach.toArray.size w1 := fun m os dk _ x y =>
      sortCmp_calls (HBX.out.sort hb hg 0 m dk os) x.1 y.1
    have hc := Any.slices_SortFunc Try.layLayF (encS zs) (fun _ => rfl) _ hO 23 #[.pointer (some ⟨g0, 0, none⟩)] g 0 cap1 zs.attach.toArray w1 enters_sortCmp hcl hH hk.lt (by omega)
    rw [hdl] at hc
    clear hcur hs hH hcl
    go_wp2_with fail
    refine hc.mono ?_
    clear hc
    rintro e w2 ⟨rfl, d', n, os, hp, hs, rfl⟩
    go_wp2
    go_ret
    have hsz' : d'.size = zs.length := by rw [hp.1, hdl]
    have hp' : d'.toList.Perm zs.attach.toArray.toList := perm_in (by rw [hdl]; exact hp)
    have hpz : (d'.toList.map Subtype.val).Perm zs := by
      have := hp'.map Subtype.val
      simpa using this
    have hsr : Srt (rel sz bs) (d'.toList.map Subtype.val) := by
      have := srt_in hsz'.symm hs
      unfold Srt at this ⊢
      rw [List.pairwise_map]
      exact this.imp fun {a b} h => by rw [← h]; exact (congrFun (congrFun (ltOf_R sz bs) b.1) a.1).symm
    rw [sortWorld_sub]
    exact ⟨_, hpz, hsr, ret_older hb0 (retOwn_sorted _ hpz.length_eq hb ho)⟩
end Go.Proofs.Ytfapllhjccpfpaa
