/- Contract of the laws' keysOf: the keys in new memory. -/
import Derived.Test.YtnjnphoidjachaaInfoItem
import Derived.Test.YtnjnphoidjachaaAppendItems
namespace Go.Proofs.Ytnjnphoidjachaa
open Go.RowKit

theorem take_keys {xs : List (Int × Int)} {k : Nat} (h : k < xs.length) : (keys xs).take (k + 1) = (keys xs).take k ++ [gk xs k] := by
  rw [take_gi (by rw [length_keys]; exact h), gi_keys h]

theorem wpList_append_one' {P : Program} (w : World) {ops : Array Oper} {rest : List Oper} {o : Oper} {a : Act} {Q : Exit → Act → World → Prop} (hgd : o.guard = none) (s x : Operand) (t : TypeId)
    (ho : o.op = .call { callee := .builtin .append, args := #[s, x], argTypes := #[t, t] })
    (base : Nat) (e : TypeId) (ht : P.underlying t = some (.slice e)) (hinfo : (P.info? e).map (fun i => (i.zero, i.size, i.bytes)) = some (some (.int .i64 0), 1, 8))
    (A : Option Addr) (cap : Nat) (l : List Int) (hs : a.eval s = .slice A l.length cap) (hown : OwnI e w base A cap l)
    (v : Int) (B0 : Nat) (hB0 : w.heap.size = B0) (hx : a.eval x = .slice (some ⟨B0, 0, none⟩) 1 1)
    (hbytes : (l.length + 1) * 8 ≤ 140737488355328) (hbase : base ≤ w.heap.size)
    (h : ∀ A' cap' w', OwnI e w' base A' cap' (l ++ [v]) → Below base w w' → wpList P ops Q rest (a.put o.dst (.slice A' (l.length + 1) cap')) w') :
    wpList P ops Q (o :: rest) a (w.alloc (.cells #[.int .i64 v] e)) := by
  subst hB0
  exact wpList_append_one w hgd s x t ho base e ht hinfo A cap l hs hown v hx hbytes hbase h

set_option maxHeartbeats 800000 in
theorem keysOf_calls (A : Option Addr) (c : Nat) (zs : List (Int × Int)) (w : World) (hA : Items w A zs) (hn : zs.length * 16 ≤ 140737488351232) :
    Calls Try.prog 13 #[.slice A zs.length c] w (RetOwn 3 (keys zs) w) := by
  go_enter Try.func13, Try.ntmps13
  go_wp2
  go_loopw [3, 8] (fun v i wr => ∃ (k : Nat) (l : List Int) (B : Option Addr) (cap : Nat), k ≤ zs.length ∧ l.length ≤ k ∧ v = .slice B l.length cap ∧ i = .int .i64 k ∧ l = (keys zs).take k ∧ OwnI 3 wr w.heap.size B cap l ∧ Below w.heap.size w wr) (fun _ i _ => zs.length - (intOf i).toNat)
  case atStart => exact ⟨0, [], none, 0, Nat.zero_le _, Nat.le_refl _, rfl, rfl, rfl, OwnI.nil _ _ _, Below.refl _ _⟩
  case round =>
    obtain ⟨k, l, B, cap, hk, hlk, rfl, rfl, hl, ho, hb⟩ := hrel
    have HL := Lib.hid hl
    clear hl
    by_cases hlt : k < zs.length
    · obtain ⟨b, off, rfl, hbl, hc⟩ := hA.below hb (by omega)
      obtain ⟨hck, hck'⟩ := hc k hlt
      have HN := Lib.hid (show l ++ [gk zs k] = (keys zs).take (k + 1) by rw [take_keys hlt, ← HL.out])
      have hbs := hb.size
      clear hc hA
      go_wp2_with (at_builtin; refine wpList_append_one' _ rfl (.tmp 12) (.tmp 15) 25 rfl w.heap.size 3 Try.underlying25 infoInt B cap l rfl (ho.below ((Below.refl _ _).alloc (Nat.le_refl _) _)) (gk zs k) (wr.heap.size + 1) (by simp) rfl ?c1 ?c2 ?_)
      case c1 => omega
      case c2 => simp; omega
      intro B' cap' w' ho' hb'
      have hb2 : Below w.heap.size w w' := (hb.alloc hbs _).trans hb'
      clear hb'
      go_wp2
      go_roundw
      case rel => exact ⟨k + 1, l ++ [gk zs k], B', cap', by omega, by simp; omega, by simp, by go_num, HN.out, ho', hb2⟩
      case measure => simp [intOf]; omega
    · have HN := Lib.hid (show l = keys zs by rw [HL.out, List.take_of_length_le (by rw [length_keys]; omega)])
      go_wp2
      go_ret
      have hN := HN.out
      subst hN
      exact ⟨B, cap, rfl, ho, hb⟩
end Go.Proofs.Ytnjnphoidjachaa
