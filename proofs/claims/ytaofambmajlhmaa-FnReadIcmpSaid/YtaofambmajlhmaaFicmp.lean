/-
  laws.read of icmp6.
-/
import Derived.Test.YtaofambmajlhmaaAlive
import Derived.Test.YtaofambmajlhmaaRicmp
import Derived.Test.YtaofambmajlhmaaSicmp
namespace Go.Proofs.Ytaofambmajlhmaa
open Go Go.RowKit

theorem law_icmp {bs : List Int} (hb : ∀ z ∈ bs, 0 ≤ z ∧ z ≤ 255) {v : Value} {w : World} (h : SB w (fun _ => True) v bs) :
    Calls Try.prog 19 #[.string ⟨#[105, 99, 109, 112, 54]⟩, v] w fun e w' => e = .returned (.bool true) ∧ Below w.heap.size w w' :=
  law_c (specOf_icmp hb) (fun h4 r hr _ => by cases hr; exact impl_icmp hb (by omega)) alive_c h
end Go.Proofs.Ytaofambmajlhmaa
