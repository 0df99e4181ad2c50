/- Contract of slices.insertionSortCmpFunc at items: a part sorted stably, so far as the relation is an order. -/
import Derived.Test.YtnjnphoidjachaaStW
import Derived.Test.YtnjnphoidjachaaLayF
namespace Go.Proofs.Ytnjnphoidjachaa
open Go.RowKit

theorem insSort_calls {g : Nat} {cb : Array Value} {cf : Int × Int → Int × Int → Int} {blk off n : Nat} {w0 : World} (E : SEnv g cb cf blk off n w0) (cap a b : Nat) (p u s : List (Int × Int)) (w : World)
    (hl : (p ++ (u ++ s)).length = n) (ha : a = p.length) (hb : b = p.length + u.length) (S : St w0 blk off (p ++ (u ++ s)) w) :
    Calls Try.prog 52 #[.slice (some ⟨blk, off, none⟩) n cap, .int .i64 a, .int .i64 b, .func (.func g) #[] cb] w fun e w' => e = .returned (.tuple #[]) ∧ ∃ z, SO (ltOf cf) u z ∧ St w0 blk off (p ++ (z ++ s)) w' := by
  obtain ⟨d0, R, hd⟩ := E.row
  have hsm := E.small
  obtain ⟨z, hz, hi⟩ := insertionSort_list (ltOf cf) p u s ha hb
  have hzl := hz.length
  have hsz : (p ++ (u ++ s)).toArray.size = n := by simpa using hl
  have hC : CmpLays Try.prog g cb encP 2 cf blk off (p ++ (u ++ s)).toArray.size w := fun m os dk hdk x y => by
    have hcmp := E.cmp
    obtain ⟨n0, os0, rfl⟩ := S
    rw [sortWorldK_on encP 2 w0 blk off n0 m _ dk os0 os R.hblk hdk]
    exact hcmp _ _ dk (by omega) x y
  have hc := AnyQ.insertionSortCmpFunc (P := Try.prog) (ρ := Try.layLayF_ren) { Try.layLayF with } 2 Try.isAgg41 Try.sizeOf41 encP encP_len encP_one cf g cb blk off cap a b _ w E.enters hC (SWK.holds S R.hblk R.hH (by omega)) (SWK.lt S R.hblk) (by omega) (by simp at hl; simp; omega) (by omega)
  rw [hi, hsz] at hc
  refine hc.mono ?_
  rintro e w' ⟨rfl, m, os, rfl⟩
  exact ⟨rfl, z, hz, SWK.on S R.hblk m _ os (by simp at hl; simp; omega)⟩
end Go.Proofs.Ytnjnphoidjachaa
