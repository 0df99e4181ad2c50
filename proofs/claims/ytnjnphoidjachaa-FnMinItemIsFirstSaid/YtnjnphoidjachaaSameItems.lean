/- Contracts of the laws' sameItems (at equal lists), turned and numbered. -/
import Derived.Test.YtnjnphoidjachaaInfoItem
import Derived.Test.YtnjnphoidjachaaAppendItems
namespace Go.Proofs.Ytnjnphoidjachaa
open Go.RowKit

set_option maxHeartbeats 800000 in
theorem sameItems_true (A B : Option Addr) (c d : Nat) (xs : List (Int × Int)) (w : World) (hA : Items w A xs) (hB : Items w B xs) (hn : xs.length * 16 ≤ 140737488351232) :
    Calls Try.prog 28 #[.slice A xs.length c, .slice B xs.length d] w fun e w' => e = .returned (.bool true) ∧ Draws w w' := by
  have hne : ((xs.length : Int) != (xs.length : Int)) = false := by simp
  go_enter Try.func28, Try.ntmps28
  go_wp2
  clear hne
  go_loopw [13] (fun i wr => ∃ k : Nat, k ≤ xs.length ∧ i = .int .i64 k ∧ Draws w wr) (fun i _ => xs.length - (intOf i).toNat)
  case atStart => exact ⟨0, Nat.zero_le _, rfl, Draws.refl _⟩
  case round =>
    obtain ⟨k, hk, rfl, hd⟩ := hrel
    by_cases hlt : k < xs.length
    · obtain ⟨b, off, rfl, hbl, hc⟩ := hA.below hd.below (by omega)
      obtain ⟨b', off', rfl, hbl', hc'⟩ := hB.below hd.below (by omega)
      obtain ⟨hck1, hck2⟩ := hc k hlt
      obtain ⟨hck3, hck4⟩ := hc' k hlt
      clear hc hc' hA hB
      have h1 : (gk xs k == gk xs k) = true := by simp
      have h2 : (gt xs k == gt xs k) = true := by simp
      go_wp2
      go_quiet (fail)
      go_wp2
      go_roundw
      case rel => exact ⟨k + 1, by omega, by go_num, hd.drewN _⟩
      case measure => simp [intOf]; omega
    · go_wp2
      go_ret
      exact ⟨rfl, hd⟩

/-- Keys and tags exchanged. -/
def turn (xs : List (Int × Int)) : List (Int × Int) := xs.map fun p => (p.2, p.1)
theorem length_turn (xs : List (Int × Int)) : (turn xs).length = xs.length := by simp [turn]
theorem turn_take {xs : List (Int × Int)} {k : Nat} (h : k < xs.length) : (turn xs).take (k + 1) = (turn xs).take k ++ [(gt xs k, gk xs k)] := by
  rw [List.take_succ_eq_append_getElem (by rw [length_turn]; exact h)]
  simp [turn, gk_eq h, gt_eq h]

set_option maxHeartbeats 800000 in
theorem turned_calls (A : Option Addr) (c : Nat) (zs : List (Int × Int)) (w : World) (hA : Items w A zs) (hn : zs.length * 16 ≤ 140737488351232) :
    Calls Try.prog 29 #[.slice A zs.length c] w (RetP 41 (turn zs) w) := by
  go_enter Try.func29, Try.ntmps29
  go_wp2
  go_loopw [3, 8] (fun v i wr => ∃ (k : Nat) (l : List (Int × Int)) (B : Option Addr) (cap : Nat), k ≤ zs.length ∧ l.length ≤ k ∧ v = .slice B l.length cap ∧ i = .int .i64 k ∧ l = (turn zs).take k ∧ OwnP 41 wr w.heap.size B cap l ∧ Below w.heap.size w wr) (fun _ i _ => zs.length - (intOf i).toNat)
  case atStart => exact ⟨0, [], none, 0, Nat.zero_le _, Nat.le_refl _, rfl, rfl, rfl, OwnP.nil _ _ _, Below.refl _ _⟩
  case round =>
    obtain ⟨k, l, B, cap, hk, hlk, rfl, rfl, hl, ho, hb⟩ := hrel
    have HL := Lib.hid hl
    clear hl
    by_cases hlt : k < zs.length
    · obtain ⟨b, off, rfl, hbl, hc⟩ := hA.below hb (by omega)
      obtain ⟨hck, hck'⟩ := hc k hlt
      have HN := Lib.hid (show l ++ [(gt zs k, gk zs k)] = (turn zs).take (k + 1) by rw [turn_take hlt, ← HL.out])
      have hbs := hb.size
      clear hc hA
      go_wp2_with (at_builtin; refine wpList_append_item _ rfl (.tmp 12) (.tmp 18) 23 rfl w.heap.size 41 Try.underlying23 infoItem B cap l rfl (ho.below ((Below.refl _ _).alloc (Nat.le_refl _) _)) (gt zs k) (gk zs k) (wr.heap.size + 1) (by simp) rfl ?c1 ?c2 ?_)
      case c1 => omega
      case c2 => simp; omega
      intro B' cap' w' ho' hb'
      have hb2 : Below w.heap.size w w' := (hb.alloc hbs _).trans hb'
      clear hb'
      go_wp2
      go_roundw
      case rel => exact ⟨k + 1, l ++ [(gt zs k, gk zs k)], B', cap', by omega, by simp; omega, by simp, by go_num, HN.out, ho', hb2⟩
      case measure => simp [intOf]; omega
    · have HN := Lib.hid (show l = turn zs by rw [HL.out, List.take_of_length_le (by rw [length_turn]; omega)])
      go_wp2
      go_ret
      have hN := HN.out
      subst hN
      exact ⟨B, cap, rfl, ho, hb⟩

/-- Numbers as keys, their indices as tags. -/
def numb (xs : List Int) : List (Int × Int) := xs.mapIdx fun i v => (v, (i : Int))
theorem length_numb (xs : List Int) : (numb xs).length = xs.length := by simp [numb]
theorem numb_at {xs : List Int} {k : Nat} (h : k < xs.length) : (numb xs)[k]? = some (gi xs k, (k : Int)) := by simp [numb, gi_eq h, h]
theorem numb_take {xs : List Int} {k : Nat} (h : k < xs.length) : (numb xs).take (k + 1) = (numb xs).take k ++ [(gi xs k, (k : Int))] := by
  rw [List.take_succ_eq_append_getElem (by rw [length_numb]; exact h)]
  congr 2
  have := numb_at h
  rw [List.getElem?_eq_getElem (by rw [length_numb]; exact h)] at this
  exact Option.some.inj this

set_option maxHeartbeats 800000 in
theorem numbered_calls (A : Option Addr) (c : Nat) (zs : List Int) (w : World) (hA : Ints w A zs) (hn : zs.length * 16 ≤ 140737488351232) :
    Calls Try.prog 27 #[.slice A zs.length c] w (RetP 41 (numb zs) w) := by
  go_enter Try.func27, Try.ntmps27
  go_wp2
  go_loopw [3, 8] (fun v i wr => ∃ (k : Nat) (l : List (Int × Int)) (B : Option Addr) (cap : Nat), k ≤ zs.length ∧ l.length ≤ k ∧ v = .slice B l.length cap ∧ i = .int .i64 k ∧ l = (numb zs).take k ∧ OwnP 41 wr w.heap.size B cap l ∧ Below w.heap.size w wr) (fun _ i _ => zs.length - (intOf i).toNat)
  case atStart => exact ⟨0, [], none, 0, Nat.zero_le _, Nat.le_refl _, rfl, rfl, rfl, OwnP.nil _ _ _, Below.refl _ _⟩
  case round =>
    obtain ⟨k, l, B, cap, hk, hlk, rfl, rfl, hl, ho, hb⟩ := hrel
    have HL := Lib.hid hl
    clear hl
    by_cases hlt : k < zs.length
    · obtain ⟨b, off, rfl, hbl, hc⟩ := hA.below hb (by omega)
      have hck := hc k hlt
      have HN := Lib.hid (show l ++ [(gi zs k, (k : Int))] = (numb zs).take (k + 1) by rw [numb_take hlt, ← HL.out])
      have hbs := hb.size
      clear hc hA
      go_wp2_with (at_builtin; refine wpList_append_item _ rfl (.tmp 13) (.tmp 17) 23 rfl w.heap.size 41 Try.underlying23 infoItem B cap l rfl ho (gi zs k) (k : Int) wr.heap.size rfl rfl ?c1 ?c2 ?_)
      case c1 => omega
      intro B' cap' w' ho' hb'
      have hb2 : Below w.heap.size w w' := hb.trans hb'
      clear hb'
      go_wp2
      go_roundw
      case rel => exact ⟨k + 1, l ++ [(gi zs k, (k : Int))], B', cap', by omega, by simp; omega, by simp, by go_num, HN.out, ho', hb2⟩
      case measure => simp [intOf]; omega
    · have HN := Lib.hid (show l = numb zs by rw [HL.out, List.take_of_length_le (by rw [length_numb]; omega)])
      go_wp2
      go_ret
      have hN := HN.out
      subst hN
      exact ⟨B, cap, rfl, ho, hb⟩
end Go.Proofs.Ytnjnphoidjachaa
