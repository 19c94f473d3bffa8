/-
  laws.read of modbus.
-/
import Derived.Test.YtaofambmajlhmaaAlive
import Derived.Test.YtaofambmajlhmaaRmodbus
import Derived.Test.YtaofambmajlhmaaSmodbus
namespace Go.Proofs.Ytaofambmajlhmaa
open Go Go.RowKit

theorem law_modbus {bs : List Int} (hb : ∀ z ∈ bs, 0 ≤ z ∧ z ≤ 255) {v : Value} {w : World} (h : SB w (fun _ => True) v bs) :
    Calls Try.prog 19 #[.string ⟨#[109, 111, 100, 98, 117, 115]⟩, v] w fun e w' => e = .returned (.bool true) ∧ Below w.heap.size w w' :=
  law_c (specOf_modbus hb) (fun h4 r hr _ => by obtain ⟨rfl, hT⟩ := sModbus_ok hr; exact impl_modbus hb (by omega) hT) alive_c h
end Go.Proofs.Ytaofambmajlhmaa
