/- Proved: for every input of bulk at most 1048576 the law FnStableKeepsEqual returns true, and its arguments read behind the call as they read before it. Conditions: the bound on the bulk of the arguments, as the statement itself has it. (A frame printed by frame.py: the arguments opened, the walk called, the row shut.) -/
import Derived.Test.YtnjnphoidjachaaLawStableKeepsEqual
import Derived.Test.YtnjnphoidjachaaOpen
import Derived.Test.YtnjnphoidjachaaRows
import Derived.Test.YtnjnphoidjachaaBulk
import Derived.Deep.CondSized
namespace Go.Proofs.Ytnjnphoidjachaa.fnStableKeepsEqual
open Go.ChangeShapes Go.WideShapes Go.ChangeAt Go.RowKit
open Go.ChangeMaps (open_string shut_string)
set_option linter.unusedVariables false

theorem own : ownKnob Try.prog.godebug = none := by kernel_rfl
theorem laidOut : laidOutB Try.prog = true := by kernel_rfl

set_option maxRecDepth 100000 in
theorem contract (H : Type) (enc : TypeId × Value → H) (W : World) (base : Nat) (args : Array Value) (ds gs : List (DataW H)) (before : List MemPlace)
    (hval : ∀ (j : Nat) t v, Try.f9.params[j]? = some t → args[j]? = some v → Value.okWide Try.prog W .any base t v)
    (hW : DataW.Whole enc Try.prog Try.f9.params.toList Rows.fnStableKeepsEqualSpec.vars false W args.toList ds gs before) (hk : Rows.uptoSmall H (ds ++ gs) = true)
    (hsz : (DataW.weightsEach Try.prog (Try.f9.params.toList ++ Rows.fnStableKeepsEqualSpec.plain.varTypes Try.prog) (ds ++ gs)).all (· ≤ reachBytes) = true) :
    Calls Try.prog 9 args W fun e W' => ∃ v, e = .returned v ∧ Rows.fnStableKeepsEqualSpec.post enc Try.prog Try.f9 false true false false W args v W' := by
  have hW' := hW
  obtain ⟨p, q, hA0, hV, rfl, hfz, hnd⟩ := hW
  have hA : DataW.TrodAll enc Try.prog W 0 (fun _ => true) true Try.f9.params.toList args.toList ds p := hA0
  rw [Try.params9] at hA hval hsz
  obtain ⟨v0, vs0, d0, ds0, p0, q0, hargs, rfl, rfl, h0, r0⟩ := trodAll_cons hA
  obtain ⟨rfl, rfl, rfl⟩ := trodAll_nil r0
  obtain rfl : args = #[v0] := by cases args; simp_all
  obtain ⟨rfl, rfl⟩ := trodVars_none hV
  have k0 := h0
  have lt0 : ∀ x ∈ p0, x.block < W.heap.size := by obtain ⟨m, hm⟩ := k0; exact DataW.trod_lt m _ _ _ hm
  obtain ⟨a0, len0, cap0, rfl⟩ := okWide_slice Try.underlying25 (hval 0 25 v0 rfl rfl)
  obtain ⟨z0, rfl, w0, b0, f0⟩ := opened_ints (j := 0) Try.underlying25 Try.underlying3 (by kernel_rfl) (by kernel_rfl) h0 hsz rfl rfl
  have hbulk := bulk_bound hk
  simp only [List.cons_append, List.nil_append, Rows.uptoBulkAll] at hbulk
  have u0 := bulk_slice Try.underlying25 h0
  clear hA0 hsz
  refine (lawStableKeepsEqual a0 cap0 z0 W w0 (by omega)).mono fun e W' ⟨he, bel⟩ => ?_
  subst he
  exact ⟨_, rfl, _, _, _, [], _, [], hW', trodAll_mk1 (shut_bool Try.underlying4 _), (trodAll_cons_mk (Below.trod laidOut (by kernel_rfl) (of_decide_eq_true (by kernel_rfl)) k0 bel lt0) trodAll_mk0), rfl, bel.frame _, fun h => by cases h⟩

set_option maxRecDepth 100000 in
theorem lifted (os : Os) (started : os.Started) (H : Type) (enc : TypeId × Value → H) (F : Stop.Interp) :
    ReturnsInHanded {} Try.checked os 9 .any ((Rows.OpenSpec.upto Rows.fnStableKeepsEqualSpec).pre6 enc Try.prog Try.f9 Rows.fnStableKeepsEqualUptoRow.domain false) (((Rows.OpenSpec.upto Rows.fnStableKeepsEqualSpec).at F).post enc Try.prog Try.f9 false true false false) := by
  refine returnsInHanded_of_cond_sized (C := Try.checked) (s := Rows.OpenSpec.upto Rows.fnStableKeepsEqualSpec) (k := Rows.uptoSmall) rfl own started (by kernel_rfl) Try.func9
    (OpenSpec.witness (enc := enc) (C := Try.checked) (s := Rows.OpenSpec.upto Rows.fnStableKeepsEqualSpec) (k := Rows.uptoSmall) rfl false ⟨#[], #[.slice none 0 0], []⟩ 8 (by kernel_rfl) (by kernel_rfl) (by kernel_rfl)
      (x := ([.nil], [], [])) (by kernel_rfl) rfl (by kernel_rfl)) ?_
  intro W base args ds gs before hval hW _ hk hsz _
  exact contract H enc W base args ds gs before hval hW hk hsz

/-- THE STATEMENT -/
theorem proved : Rows.FnStableKeepsEqualUptoSaid :=
  OpenClaim.holds_of_cond 9 Try.f9 rfl rfl rfl rfl rfl rfl rfl ⟨rfl, rfl, rfl, rfl, rfl⟩ rfl rfl rfl rfl rfl (by kernel_rfl) Try.func9 (by kernel_rfl)
    (of_decide_eq_true (by kernel_rfl)) (by unfold Func.isWrapper; rw [if_neg (of_decide_eq_false (by kernel_rfl))]; exact ⟨rfl, rfl⟩)
    (fun os started H enc _ F => lifted os started H enc F)
#print axioms proved
end Go.Proofs.Ytnjnphoidjachaa.fnStableKeepsEqual
