/-
  laws.read of asfpong.
-/
import Derived.Test.YtaofambmajlhmaaAlive
import Derived.Test.YtaofambmajlhmaaRasfpong
import Derived.Test.YtaofambmajlhmaaSasfpong
namespace Go.Proofs.Ytaofambmajlhmaa
open Go Go.RowKit

theorem law_asfpong {bs : List Int} (hb : ∀ z ∈ bs, 0 ≤ z ∧ z ≤ 255) {v : Value} {w : World} (h : SB w (fun _ => True) v bs) :
    Calls Try.prog 19 #[.string ⟨#[97, 115, 102, 112, 111, 110, 103]⟩, v] w fun e w' => e = .returned (.bool true) ∧ Below w.heap.size w w' :=
  law_c (specOf_asfpong hb) (fun h4 r hr _ => by cases hr; exact impl_asfpong hb (by omega)) alive_c h
end Go.Proofs.Ytaofambmajlhmaa
