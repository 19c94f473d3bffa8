/-
  laws.read of mld1done.
-/
import Derived.Test.YtaofambmajlhmaaAlive
import Derived.Test.YtaofambmajlhmaaRmldd
import Derived.Test.YtaofambmajlhmaaSmldd
namespace Go.Proofs.Ytaofambmajlhmaa
open Go Go.RowKit

theorem law_mldd {bs : List Int} (hb : ∀ z ∈ bs, 0 ≤ z ∧ z ≤ 255) {v : Value} {w : World} (h : SB w (fun _ => True) v bs) :
    Calls Try.prog 19 #[.string ⟨#[109, 108, 100, 49, 100, 111, 110, 101]⟩, v] w fun e w' => e = .returned (.bool true) ∧ Below w.heap.size w w' :=
  law_c (specOf_mldd hb) (fun h4 r hr _ => by cases hr; exact impl_mldd hb (by omega)) alive_c h
end Go.Proofs.Ytaofambmajlhmaa
