/-
  laws.read of mld1report.
-/
import Derived.Test.YtaofambmajlhmaaAlive
import Derived.Test.YtaofambmajlhmaaRmldr
import Derived.Test.YtaofambmajlhmaaSmldr
namespace Go.Proofs.Ytaofambmajlhmaa
open Go Go.RowKit

theorem law_mldr {bs : List Int} (hb : ∀ z ∈ bs, 0 ≤ z ∧ z ≤ 255) {v : Value} {w : World} (h : SB w (fun _ => True) v bs) :
    Calls Try.prog 19 #[.string ⟨#[109, 108, 100, 49, 114, 101, 112, 111, 114, 116]⟩, v] w fun e w' => e = .returned (.bool true) ∧ Below w.heap.size w w' :=
  law_c (specOf_mldr hb) (fun h4 r hr _ => by cases hr; exact impl_mldr hb (by omega)) alive_c h
end Go.Proofs.Ytaofambmajlhmaa
