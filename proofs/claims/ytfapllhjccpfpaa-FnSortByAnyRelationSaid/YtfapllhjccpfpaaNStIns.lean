/- Contract of slices.insertionSortCmpFunc at numbers: a part sorted stably, so far as the relation is an order. -/
import Derived.Test.YtfapllhjccpfpaaNStW
import Derived.Test.YtfapllhjccpfpaaLayF
namespace Go.Proofs.Ytfapllhjccpfpaa
open Go.RowKit

theorem insSort_calls {g : Nat} {cb : Array Value} {cf : Int → Int → Int} {blk off n : Nat} {w0 : World} (E : SEnv g cb cf blk off n w0) (cap a b : Nat) (p u s : List Int) (w : World)
    (hl : (p ++ (u ++ s)).length = n) (ha : a = p.length) (hb : b = p.length + u.length) (S : St w0 blk off (p ++ (u ++ s)) w) :
    Calls Try.prog 28 #[.slice (some ⟨blk, off, none⟩) n cap, .int .i64 a, .int .i64 b, .func (.func g) #[] cb] w fun e w' => e = .returned (.tuple #[]) ∧ ∃ z, SO (ltOf cf) u z ∧ St w0 blk off (p ++ (z ++ s)) w' := by
  obtain ⟨d0, R, hd⟩ := E.row
  have hsm := E.small
  obtain ⟨z, hz, hi⟩ := insertionSort_list (ltOf cf) p u s ha hb
  have hsz : (p ++ (u ++ s)).toArray.size = n := by simpa using hl
  have hcmp := E.cmp
  rw [← hd] at hcmp
  have hc := Any.insertionSortCmpFunc_s (P := Try.prog) (ρ := Try.layLayF_ren) { Try.layLayF with } encI cf g cb blk off cap a b d0 _ w0 w E.enters hcmp R (by omega) S (by omega) (by simp at hl; simp; omega) (by omega)
  rw [hi, hsz] at hc
  exact hc.mono fun e w' ⟨he, hS⟩ => ⟨he, z, hz, hS⟩
end Go.Proofs.Ytfapllhjccpfpaa
