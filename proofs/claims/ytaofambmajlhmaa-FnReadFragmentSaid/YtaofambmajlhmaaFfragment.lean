/-
  laws.read of fragment.
-/
import Derived.Test.YtaofambmajlhmaaAlive
import Derived.Test.YtaofambmajlhmaaRfragment
import Derived.Test.YtaofambmajlhmaaSfragment
namespace Go.Proofs.Ytaofambmajlhmaa
open Go Go.RowKit

theorem law_fragment {bs : List Int} (hb : ∀ z ∈ bs, 0 ≤ z ∧ z ≤ 255) {v : Value} {w : World} (h : SB w (fun _ => True) v bs) :
    Calls Try.prog 19 #[.string ⟨#[102, 114, 97, 103, 109, 101, 110, 116]⟩, v] w fun e w' => e = .returned (.bool true) ∧ Below w.heap.size w w' :=
  law_c (specOf_fragment hb) (fun h4 r hr _ => by cases hr; exact impl_fragment hb (by omega)) alive_c h
end Go.Proofs.Ytaofambmajlhmaa
