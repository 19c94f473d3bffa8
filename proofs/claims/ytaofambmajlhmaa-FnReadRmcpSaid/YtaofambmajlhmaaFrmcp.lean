/-
  laws.read of rmcp.
-/
import Derived.Test.YtaofambmajlhmaaAlive
import Derived.Test.YtaofambmajlhmaaRrmcp
import Derived.Test.YtaofambmajlhmaaSrmcp
namespace Go.Proofs.Ytaofambmajlhmaa
open Go Go.RowKit

theorem law_rmcp {bs : List Int} (hb : ∀ z ∈ bs, 0 ≤ z ∧ z ≤ 255) {v : Value} {w : World} (h : SB w (fun _ => True) v bs) :
    Calls Try.prog 19 #[.string ⟨#[114, 109, 99, 112]⟩, v] w fun e w' => e = .returned (.bool true) ∧ Below w.heap.size w w' :=
  law_c (specOf_rmcp hb) (fun h4 r hr _ => by cases hr; exact impl_rmcp hb (by omega)) alive_c h
end Go.Proofs.Ytaofambmajlhmaa
