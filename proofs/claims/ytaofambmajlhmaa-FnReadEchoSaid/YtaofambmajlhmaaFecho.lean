/-
  laws.read of echo6.
-/
import Derived.Test.YtaofambmajlhmaaAlive
import Derived.Test.YtaofambmajlhmaaRecho
import Derived.Test.YtaofambmajlhmaaSecho
namespace Go.Proofs.Ytaofambmajlhmaa
open Go Go.RowKit

theorem law_echo {bs : List Int} (hb : ∀ z ∈ bs, 0 ≤ z ∧ z ≤ 255) {v : Value} {w : World} (h : SB w (fun _ => True) v bs) :
    Calls Try.prog 19 #[.string ⟨#[101, 99, 104, 111, 54]⟩, v] w fun e w' => e = .returned (.bool true) ∧ Below w.heap.size w w' :=
  law_c (specOf_echo hb) (fun h4 r hr _ => by cases hr; exact impl_echo hb (by omega)) alive_c h
end Go.Proofs.Ytaofambmajlhmaa
