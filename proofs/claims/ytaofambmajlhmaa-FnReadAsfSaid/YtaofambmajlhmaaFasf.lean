/-
  laws.read of asf.
-/
import Derived.Test.YtaofambmajlhmaaAlive
import Derived.Test.YtaofambmajlhmaaRasf
import Derived.Test.YtaofambmajlhmaaSasf
namespace Go.Proofs.Ytaofambmajlhmaa
open Go Go.RowKit

theorem law_asf {bs : List Int} (hb : ∀ z ∈ bs, 0 ≤ z ∧ z ≤ 255) {v : Value} {w : World} (h : SB w (fun _ => True) v bs) :
    Calls Try.prog 19 #[.string ⟨#[97, 115, 102]⟩, v] w fun e w' => e = .returned (.bool true) ∧ Below w.heap.size w w' :=
  law_c (specOf_asf hb) (fun h4 r hr _ => by cases hr; exact impl_asf hb (by omega)) alive_c h
end Go.Proofs.Ytaofambmajlhmaa
