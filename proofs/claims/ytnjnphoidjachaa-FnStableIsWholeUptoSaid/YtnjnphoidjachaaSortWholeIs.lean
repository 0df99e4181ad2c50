/- Contract of SortWhole as a function: the one list in order by keys and tags. -/
import Derived.Test.YtnjnphoidjachaaSortItems
import Derived.Test.YtnjnphoidjachaaIsort
namespace Go.Proofs.Ytnjnphoidjachaa
open Go.RowKit
theorem sortWhole_is (A : Option Addr) (c : Nat) (zs : List (Int × Int)) (w : World) (hA : Items w A zs) (hn : zs.length * 16 ≤ 140737488351232) :
    Calls Try.prog 22 #[.slice A zs.length c] w (RetP 41 (isort ltW zs) w) :=
  (sortWhole_calls A c zs w hA hn).mono fun _ _ ⟨ys, hp, hs, hr⟩ => by
    have h1 : StableOf ltW zs ys := StableOf.of_total (weak_W _) (fun a b _ _ h k => tot_W a b h k) hp hs
    rw [← h1.unique (stable_isort (weak_W _)) (weak_W _)]
    exact hr
end Go.Proofs.Ytnjnphoidjachaa
