/-
  laws.read of mld1query.
-/
import Derived.Test.YtaofambmajlhmaaAlive
import Derived.Test.YtaofambmajlhmaaRmldq
import Derived.Test.YtaofambmajlhmaaSmldq
namespace Go.Proofs.Ytaofambmajlhmaa
open Go Go.RowKit

theorem law_mldq {bs : List Int} (hb : ∀ z ∈ bs, 0 ≤ z ∧ z ≤ 255) {v : Value} {w : World} (h : SB w (fun _ => True) v bs) :
    Calls Try.prog 19 #[.string ⟨#[109, 108, 100, 49, 113, 117, 101, 114, 121]⟩, v] w fun e w' => e = .returned (.bool true) ∧ Below w.heap.size w w' :=
  law_c (specOf_mldq hb) (fun h4 r hr _ => by cases hr; exact impl_mldq hb (by omega)) alive_c h
end Go.Proofs.Ytaofambmajlhmaa
