/- byKey and byWhole as orders of items, and as the library's sorts ask for them. -/
import Derived.Test.YtnjnphoidjachaaByKey
import Derived.Test.YtnjnphoidjachaaPairRow
namespace Go.Proofs.Ytnjnphoidjachaa
open Go.RowKit

/-- byKey and byWhole, as functions. -/
def cmpK (x y : Int × Int) : Int := cmpI x.1 y.1
def cmpW (x y : Int × Int) : Int := if cmpI x.1 y.1 = 0 then cmpI x.2 y.2 else cmpI x.1 y.1
/-- Their orders. -/
def ltK (x y : Int × Int) : Bool := decide (x.1 < y.1)
def ltW (x y : Int × Int) : Bool := decide (x.1 < y.1 ∨ x.1 = y.1 ∧ x.2 < y.2)
theorem ltOf_K (x y : Int × Int) : ltOf cmpK x y = ltK x y := by
  unfold ltOf ltK cmpK
  rw [decide_eq_decide]
  exact cmpI_lt
theorem ltOf_W (x y : Int × Int) : ltOf cmpW x y = ltW x y := by
  unfold ltOf ltW cmpW
  rw [decide_eq_decide]
  by_cases h : cmpI x.1 y.1 = 0
  · rw [if_pos h, cmpI_lt]
    have := cmpI_zero.1 h
    omega
  · rw [if_neg h, cmpI_lt]
    have : ¬ x.1 = y.1 := fun e => h (cmpI_zero.2 e)
    omega
theorem ltOf_K' : ltOf cmpK = ltK := funext fun x => funext fun y => ltOf_K x y
theorem ltOf_W' : ltOf cmpW = ltW := funext fun x => funext fun y => ltOf_W x y
theorem weak_K (S : Int × Int → Prop) : Weak ltK S := ⟨fun a b _ _ h => by simp [ltK] at *; omega, fun a b c _ _ _ h k => by simp [ltK] at *; omega⟩
theorem weak_W (S : Int × Int → Prop) : Weak ltW S := ⟨fun a b _ _ h => by simp [ltW] at *; omega, fun a b c _ _ _ h k => by simp [ltW] at *; omega⟩
theorem tot_W (a b : Int × Int) (h : ltW a b = false) (k : ltW b a = false) : a = b := by
  obtain ⟨x, y⟩ := a
  obtain ⟨x', y'⟩ := b
  simp [ltW] at *
  omega
theorem swo_K : Sort.SWO (ltOf cmpK) where
  irrefl x := by rw [ltOf_K]; simp [ltK]
  trans x y z h1 h2 := by rw [ltOf_K] at *; simp [ltK] at *; omega
  ntrans x y z h1 h2 := by rw [ltOf_K] at *; simp [ltK] at *; omega
theorem swo_W : Sort.SWO (ltOf cmpW) where
  irrefl x := by rw [ltOf_W]; simp [ltW]
  trans x y z h1 h2 := by rw [ltOf_W] at *; simp [ltW] at *; omega
  ntrans x y z h1 h2 := by rw [ltOf_W] at *; simp [ltW] at *; omega

theorem byWhole_calls (x y : Int × Int) (w : World) : Calls Try.prog 40 #[.agg #[.int .i64 x.1, .int .i64 x.2], .agg #[.int .i64 y.1, .int .i64 y.2]] w fun e w' => e = .returned (.int .i64 (cmpW x y)) ∧ w' = (w.alloc (.cells #[.int .i64 x.1, .int .i64 x.2] 41)).alloc (.cells #[.int .i64 y.1, .int .i64 y.2] 41) := by
  by_cases h : cmpI x.1 y.1 = 0
  · have HC := Lib.hid (show cmpI x.2 y.2 = cmpW x y by unfold cmpW; rw [if_pos h])
    have hc1 := fun W => compare_calls x.1 y.1 W
    rw [h] at hc1
    have hc2 := fun W => compare_calls x.2 y.2 W
    clear h
    go_enter Try.func40, Try.ntmps40
    go_wp2_with fail
    refine (hc1 _).mono ?_
    rintro e w' ⟨rfl, rfl⟩
    go_wp2_with fail
    refine (hc2 _).mono ?_
    rintro e w' ⟨rfl, rfl⟩
    go_wp2
    go_ret
    exact ⟨ret_int HC.out, rfl⟩
  · have HC := Lib.hid (show cmpI x.1 y.1 = cmpW x y by unfold cmpW; rw [if_neg h])
    obtain ⟨r, hr⟩ : ∃ r, cmpI x.1 y.1 = r := ⟨_, rfl⟩
    have hc1 := fun W => compare_calls x.1 y.1 W
    rw [hr] at h hc1
    have hq : (r != 0) = true := by simpa using h
    have HR := Lib.hid hr
    clear h hr
    go_enter Try.func40, Try.ntmps40
    go_wp2_with fail
    refine (hc1 _).mono ?_
    rintro e w' ⟨rfl, rfl⟩
    go_wp2
    go_ret
    exact ⟨ret_int (HR.out.symm.trans HC.out), rfl⟩

theorem two_allocs (w : World) (o o' : Obj) : (w.alloc o).alloc o' = Sort.grow (w.drewN 0) (#[o] ++ #[o']) := by rw [Sort.alloc_eq_grow, Sort.alloc_eq_grow, Sort.grow_grow]; rfl
theorem cmpLays_K (blk off size : Nat) (w : World) : CmpLays Try.prog 35 #[] encP 2 cmpK blk off size w := fun _ _ _ _ x y =>
  (byKey_calls x.1 x.2 y.1 y.2 _).mono fun _ _ ⟨he, hw⟩ => ⟨he, 0, _, hw.trans (two_allocs _ _ _)⟩
theorem cmpLays_W (blk off size : Nat) (w : World) : CmpLays Try.prog 40 #[] encP 2 cmpW blk off size w := fun _ _ _ _ x y =>
  (byWhole_calls x y _).mono fun _ _ ⟨he, hw⟩ => ⟨he, 0, _, hw.trans (two_allocs _ _ _)⟩
end Go.Proofs.Ytnjnphoidjachaa
