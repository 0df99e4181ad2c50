/- Contracts of slices.MinFunc by byKey, and of MinItems, which recovers its panic. -/
import Derived.Test.YtnjnphoidjachaaByKey
import Derived.Test.YtnjnphoidjachaaInfoItem
import Derived.Test.YtnjnphoidjachaaFirstPlain
import Derived.StillTailTactics
import Derived.Defers
import Derived.Recover
namespace Go.Proofs.Ytnjnphoidjachaa
open Go.RowKit

/-- The first item with the least key is handed back. -/
def RetMin (zs : List (Int × Int)) (w : World) (e : Ending) (w' : World) : Prop := ∃ i, FMin zs zs.length i ∧ e = .returned (.agg #[.int .i64 (gk zs i), .int .i64 (gt zs i)]) ∧ Below w.heap.size w w'
/-- .. and true. -/
def RetMin2 (zs : List (Int × Int)) (w : World) (e : Ending) (w' : World) : Prop := ∃ i, FMin zs zs.length i ∧ e = .returned (.tuple #[.agg #[.int .i64 (gk zs i), .int .i64 (gt zs i)], .bool true]) ∧ Below w.heap.size w w'

set_option maxHeartbeats 800000 in
theorem minFunc_calls (A : Option Addr) (c : Nat) (zs : List (Int × Int)) (w : World) (hA : Items w A zs) (hn : zs.length * 16 ≤ 140737488351232) (h0 : 0 < zs.length) :
    Calls Try.prog 44 #[.slice A zs.length c, .func (.func 35) #[] #[]] w (RetMin zs w) := by
  obtain ⟨b, off, rfl, hbl, hc⟩ := hA h0
  obtain ⟨hc0, hc0'⟩ := hc 0 h0
  simp only [Nat.zero_mul, Nat.add_zero] at hc0 hc0'
  go_enter Try.func44, Try.ntmps44
  go_wp2
  clear hc0 hc0'
  go_loopw [6] (fun i wr => ∃ (k m : Nat), k ≤ zs.length ∧ i = .int .i64 k ∧ FMin zs k m ∧ Blk wr (w.heap.size + 1) 41 #[.int .i64 (gk zs m), .int .i64 (gt zs m)] ∧ Blk wr w.heap.size 41 #[.int .i64 0, .int .i64 0] ∧ Below w.heap.size w wr) (fun i _ => zs.length - (intOf i).toNat)
  case atStart => exact ⟨1, 0, by omega, rfl, FMin.start zs, Blk.new' (by simp), (Blk.new _ _ _).alloc _, ((Below.refl _ _).alloc (Nat.le_refl _) _).alloc (by simp) _⟩
  case round =>
    obtain ⟨k, m, hk, rfl, hm, hM, hR, hb⟩ := hrel
    by_cases hlt : k < zs.length
    · obtain ⟨b', off', hbo, hbl', hc'⟩ := hA.below hb h0
      obtain ⟨hck, hck'⟩ := hc' k hlt
      simp only [Option.some.injEq, Addr.mk.injEq, and_true] at hbo
      obtain ⟨rfl, rfl⟩ := hbo
      obtain ⟨hm1, hm2⟩ := hM.pair
      clear hc hc' hA
      go_wp2
      go_still_tail 6, (by kernel_rfl)
      change wpList _ _ _ _ _ wr.drew
      go_wp2_with fail
      refine (byKey_calls _ _ _ _ _).mono ?_
      rintro e w1 ⟨rfl, hw1⟩
      have hbw : Below wr.heap.size wr w1 := by
        rw [hw1]
        exact ((Below.refl _ _).drew.alloc (Nat.le_refl _) _).alloc (by simp) _
      have hb1 := hb.trans (hbw.mono hb.size)
      have hM1 := hM.below hbw hM.lt
      have hR1 := hR.below hbw hR.lt
      have hck1 := (hbw.cell (p := ⟨b, off + k * 2, none⟩) hbl').trans hck
      have hck1' := (hbw.cell (p := ⟨b, off + k * 2 + 1, none⟩) hbl').trans hck'
      clear hw1 hck hck' hm1 hm2 hM hR
      by_cases he : gk zs k < gk zs m
      · have HM := Lib.hid (hm.more he)
        have hq : cmpI (gk zs k) (gk zs m) < 0 := cmpI_lt.2 he
        obtain ⟨hn1, hn2⟩ := hM1.pair
        have hf1 := hM1.frozen 0
        have hf2 := hM1.frozen 1
        have hs := cell_setOther w1 (w.heap.size + 1) (.int .i64 (gk zs k))
        clear he hm
        go_wp2
        go_roundw
        case rel => exact ⟨k + 1, k, by omega, by go_num, HM.out, hM1.setPair _ _, (hR1.far (p := ⟨w.heap.size + 1, 0, none⟩) (by simp) _).far (p := ⟨w.heap.size + 1, 1, none⟩) (by simp) _, (hb1.setCell (p := ⟨w.heap.size + 1, 0, none⟩) (by simp) _).setCell (p := ⟨w.heap.size + 1, 1, none⟩) (by simp) _⟩
        case measure => simp [intOf]; omega
      · have HM := Lib.hid (hm.keep (Int.not_lt.1 he))
        have hq : ¬ cmpI (gk zs k) (gk zs m) < 0 := fun h => he (cmpI_lt.1 h)
        clear he hm
        go_wp2
        go_roundw
        case rel => exact ⟨k + 1, m, by omega, by go_num, HM.out, hM1, hR1, hb1⟩
        case measure => simp [intOf]; omega
    · obtain rfl : k = zs.length := by omega
      obtain ⟨hm1, hm2⟩ := hM.pair
      obtain ⟨hr1, hr2⟩ := hR.pair
      have hf1 := hR.frozen 0
      have hf2 := hR.frozen 1
      have hs := cell_setOther wr w.heap.size (.int .i64 (gk zs m))
      have hF := hR.setPair (.int .i64 (gk zs m)) (.int .i64 (gt zs m))
      obtain ⟨hx1, hx2⟩ := hF.pair
      clear hc hA
      go_wp2
      refine bodyPost_ret (v := .agg #[.int .i64 (gk zs m), .int .i64 (gt zs m)]) (by simp [results, Try.results44, go_sem, hx1, hx2]) rfl ⟨m, hm, rfl, (hb.setCell (p := ⟨w.heap.size, 0, none⟩) (by simp) _).setCell (p := ⟨w.heap.size, 1, none⟩) (by simp) _⟩

theorem minFunc_none (A : Option Addr) (c : Nat) (v : Value) (w : World) : Calls Try.prog 44 #[.slice A 0 c, v] w fun e w' => ∃ pv, e = .panicked [{ v := .iface 9 pv, recovered := false }] ∧ w' = w.alloc (.cells #[.int .i64 0, .int .i64 0] 41) := by
  go_enter Try.func44, Try.ntmps44
  go_wp2
  exact ⟨rfl, _, rfl, rfl⟩

set_option maxHeartbeats 800000 in
theorem catchMinItems_panicking (p q : Nat) (x x' : Value) (y : Bool) (hpq : p ≠ q) (u : TypeId) (pv : Value) (older : List PanicEntry) (w : World) (hP : Blk w p 41 #[x, x']) (hQ : Blk w q 4 #[.bool y]) :
    CallsD Try.prog 43 #[.pointer (some ⟨p, 0, none⟩), .pointer (some ⟨q, 0, none⟩)] (.panicking ({ v := .iface u pv, recovered := false } :: older)) w fun e u' w' =>
      e = .returned (.tuple #[]) ∧ u' = .panicking ({ v := .iface u pv, recovered := true } :: older) ∧ w' = ((w.setCell ⟨p, 0, none⟩ (.int .i64 0)).setCell ⟨p, 1, none⟩ (.int .i64 0)).setCell ⟨q, 0, none⟩ (.bool false) := by
  have hc1 := hP.pair.1
  have hc2 := hP.pair.2
  have hz1 := hP.frozen 0
  have hz2 := hP.frozen 1
  have hs := cell_setOther w p (.int .i64 0)
  have hcq : w.cell? ⟨q, 0, none⟩ = some (.bool y) := hQ.cell 0
  have hs2 : ((w.setCell ⟨p, 0, none⟩ (.int .i64 0)).setCell ⟨p, 1, none⟩ (.int .i64 0)).cell? ⟨q, 0, none⟩ = some (.bool y) := by
    rw [World.cell?_setCell_other _ _ _ _ (by intro e; simp only [Addr.mk.injEq] at e; exact hpq e.1), World.cell?_setCell_other _ _ _ _ (by intro e; simp only [Addr.mk.injEq] at e; exact hpq e.1)]
    exact hcq
  have hzq := hQ.frozen 0
  refine callsD_of_wpS Try.func43 rfl fun c₀ cs hu => ?_
  apply wpS_seq
  apply wpS_region
  simp [wpOpsS, go_sem, recoverD, hu, Try.ntmps43, Exit.thenS]
  refine wpS_cond (t := true) (by simp [Act.eval, Array.replicate]) ?_
  simp only [if_true]
  apply wpS_region
  simp [wpOpsS, go_sem, hc1, hc2, hz1, hz2, hs, hs2, hzq, bodyPostS, results, Try.results43]

theorem catchMinItems_idle (p q : Addr) (w : World) :
    CallsD Try.prog 43 #[.pointer (some p), .pointer (some q)] .returning w fun e u' w' => e = .returned (.tuple #[]) ∧ u' = .returning ∧ w' = w := by
  refine callsD_of_wpS Try.func43 rfl fun c₀ cs hu => ?_
  apply wpS_seq
  apply wpS_region
  simp [wpOpsS, go_sem, recoverD, hu, Try.ntmps43, Exit.thenS]
  refine wpS_cond (t := false) (by simp [Act.eval, Array.replicate]) ?_
  simp only [Bool.false_eq_true, if_false]
  refine wpS_of_wp (wp_skip ?_)
  cases c₀
  simp_all [bodyPostS, results, Try.results43]

set_option maxHeartbeats 800000 in
theorem minItems_some (A : Option Addr) (c : Nat) (zs : List (Int × Int)) (w : World) (hA : Items w A zs) (hn : zs.length * 16 ≤ 140737488351232) (h0 : 0 < zs.length) :
    Calls Try.prog 31 #[.slice A zs.length c] w (RetMin2 zs w) := by
  have hmf : ∀ (fn : Fn) (first cap : Array Value) (w : World), (Instr.makeFunc fn first cap).run Try.prog w = .ok (.func fn first cap) w := fun _ _ _ _ => rfl
  go_enter_defers Try.func31, Try.ntmps31
  go_wp2_with fail
  refine (minFunc_calls _ _ zs _ (hA.below (((Below.refl _ _).alloc (Nat.le_refl _) _).alloc (by simp) _)) hn h0).mono ?_
  rintro e w1 ⟨i, hi, rfl, hb⟩
  have hP := Blk.below (g := w.heap.size) (t := 41) (cs := #[.int .i64 0, .int .i64 0]) ((Blk.new w _ _).alloc _) hb (by simp; omega)
  have hQ := Blk.below (g := w.heap.size + 1) (t := 4) (cs := #[.bool false]) (Blk.new' (by simp)) hb (by simp)
  have hc1 := hP.pair.1
  have hc2 := hP.pair.2
  have hz1 := hP.frozen 0
  have hz2 := hP.frozen 1
  have hs := cell_setOther w1 w.heap.size (.int .i64 (gk zs i))
  have hP2 := hP.setPair (.int .i64 (gk zs i)) (.int .i64 (gt zs i))
  have hQ2 : Blk ((w1.setCell ⟨w.heap.size, 0, none⟩ (.int .i64 (gk zs i))).setCell ⟨w.heap.size, 1, none⟩ (.int .i64 (gt zs i))) (w.heap.size + 1) 4 #[.bool false] := (hQ.far (p := ⟨w.heap.size, 0, none⟩) (by simp) _).far (p := ⟨w.heap.size, 1, none⟩) (by simp) _
  have hcq := hQ2.cell 0
  simp only [List.getElem?_toArray, List.getElem?_cons_zero] at hcq
  have hzq := hQ.frozen 0
  have hb1 : Below w.heap.size w w1 := (((Below.refl _ _).alloc (Nat.le_refl _) _).alloc (by simp) _).trans (hb.mono (by simp; omega))
  go_wp2_with fail
  refine leaves_cons (f := 43) (args := #[.pointer (some ⟨w.heap.size, 0, none⟩), .pointer (some ⟨w.heap.size + 1, 0, none⟩)]) (by simp) (by simp [go_sem]) ?_
  refine (catchMinItems_idle ⟨w.heap.size, 0, none⟩ ⟨w.heap.size + 1, 0, none⟩ _).mono ?_
  rintro e u' w'' ⟨rfl, rfl, rfl⟩
  have hP3 := (hP2.far (p := ⟨w.heap.size + 1, 0, none⟩) (by simp) (.bool true)).pair
  have hQ3 : _ = some (Value.bool true) := (hQ2.set_ 0 (.bool true)).cell 0
  have hbf : Below w.heap.size w (((w1.setCell ⟨w.heap.size, 0, none⟩ (.int .i64 (gk zs i))).setCell ⟨w.heap.size, 1, none⟩ (.int .i64 (gt zs i))).setCell ⟨w.heap.size + 1, 0, none⟩ (.bool true)) := ((hb1.setCell (p := ⟨w.heap.size, 0, none⟩) (by simp) _).setCell (p := ⟨w.heap.size, 1, none⟩) (by simp) _).setCell (p := ⟨w.heap.size + 1, 0, none⟩) (by simp) _
  simp [Leaves, settle, results, Try.results31, go_sem, hP3.1, hP3.2, hQ3]
  exact ⟨i, hi, rfl, hbf⟩

set_option maxHeartbeats 800000 in
theorem minItems_none (A : Option Addr) (c : Nat) (w : World) :
    Calls Try.prog 31 #[.slice A 0 c] w fun e w' => e = .returned (.tuple #[.agg #[.int .i64 0, .int .i64 0], .bool false]) ∧ Below w.heap.size w w' := by
  have hmf : ∀ (fn : Fn) (first cap : Array Value) (w : World), (Instr.makeFunc fn first cap).run Try.prog w = .ok (.func fn first cap) w := fun _ _ _ _ => rfl
  go_enter_defers Try.func31, Try.ntmps31
  go_wp2_with fail
  refine (minFunc_none _ _ _ _).mono ?_
  rintro e w1 ⟨pv, rfl, hw1⟩
  have hb : Below ((w.alloc (.cells #[.int .i64 0, .int .i64 0] 41)).alloc (.cells #[.bool false] 4)).heap.size ((w.alloc (.cells #[.int .i64 0, .int .i64 0] 41)).alloc (.cells #[.bool false] 4)) w1 := by
    rw [hw1]
    exact (Below.refl _ _).alloc (Nat.le_refl _) _
  clear hw1
  have hP := Blk.below (g := w.heap.size) (t := 41) (cs := #[.int .i64 0, .int .i64 0]) ((Blk.new w _ _).alloc _) hb (by simp; omega)
  have hQ := Blk.below (g := w.heap.size + 1) (t := 4) (cs := #[.bool false]) (Blk.new' (by simp)) hb (by simp)
  have hb1 : Below w.heap.size w w1 := (((Below.refl _ _).alloc (Nat.le_refl _) _).alloc (by simp) _).trans (hb.mono (by simp; omega))
  go_wp2_with fail
  refine leaves_cons (f := 43) (args := #[.pointer (some ⟨w.heap.size, 0, none⟩), .pointer (some ⟨w.heap.size + 1, 0, none⟩)]) (by simp) (by simp [go_sem]) ?_
  refine (catchMinItems_panicking w.heap.size (w.heap.size + 1) _ _ false (by simp) 9 pv [] _ hP hQ).mono ?_
  rintro e u' w'' ⟨rfl, rfl, rfl⟩
  have hP3 := ((hP.setPair (.int .i64 0) (.int .i64 0)).far (p := ⟨w.heap.size + 1, 0, none⟩) (by simp) (.bool false)).pair
  have hQ2 : Blk ((w1.setCell ⟨w.heap.size, 0, none⟩ (.int .i64 0)).setCell ⟨w.heap.size, 1, none⟩ (.int .i64 0)) (w.heap.size + 1) 4 #[.bool false] := (hQ.far (p := ⟨w.heap.size, 0, none⟩) (by simp) _).far (p := ⟨w.heap.size, 1, none⟩) (by simp) _
  have hQ3 : _ = some (Value.bool false) := (hQ2.set_ 0 (.bool false)).cell 0
  have hbf : Below w.heap.size w (((w1.setCell ⟨w.heap.size, 0, none⟩ (.int .i64 0)).setCell ⟨w.heap.size, 1, none⟩ (.int .i64 0)).setCell ⟨w.heap.size + 1, 0, none⟩ (.bool false)) := ((hb1.setCell (p := ⟨w.heap.size, 0, none⟩) (by simp) _).setCell (p := ⟨w.heap.size, 1, none⟩) (by simp) _).setCell (p := ⟨w.heap.size + 1, 0, none⟩) (by simp) _
  simp [Leaves, settle, results, Try.results31, go_sem, hP3.1, hP3.2, hQ3]
  exact hbf
end Go.Proofs.Ytnjnphoidjachaa
