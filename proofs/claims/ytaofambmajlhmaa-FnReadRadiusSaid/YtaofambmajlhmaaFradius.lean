/-
  laws.read of radius.
-/
import Derived.Test.YtaofambmajlhmaaAlive
import Derived.Test.YtaofambmajlhmaaRradius
namespace Go.Proofs.Ytaofambmajlhmaa
open Go Go.RowKit

theorem m_pay_radius (k : Nat) (a : Addr) (w : World) : (method (k + 1) 120 (.pointer (some a)) "LayerPayload").run Try.prog w = .ok (94, .pointer (some a)) w := by kernel_rfl

theorem impl_radius {bs : List Int} {r : Option Lay} (hb : ∀ z ∈ bs, 0 ≤ z ∧ z ≤ 255) (hl : bs.length ≤ 2000) (hs : sRadius bs = some r) : ImplOf (.string ⟨#[114, 97, 100, 105, 117, 115]⟩) bs r := by
  refine read_c hl (decOf_radius hb hl hs) (fun _ _ _ _ _ k h => isRadius_below k h) (fun l h X pl w hi => told_radius hi ?_) (fun _ _ _ _ h => isRadius_pl h) m_pay_radius
  obtain ⟨_, _, _, _, _, _, pay, rfl, _, _, _, _, _, _, _, _, _, _, _, _, _, h⟩ := hi
  show pay.length ≤ _
  omega

theorem law_radius {bs : List Int} (hb : ∀ z ∈ bs, 0 ≤ z ∧ z ≤ 255) {v : Value} {w : World} (h : SB w (fun _ => True) v bs) (hlim : bs.length ≤ 2147483648) :
    Calls Try.prog 19 #[.string ⟨#[114, 97, 100, 105, 117, 115]⟩, v] w fun e w' => e = .returned (.bool true) ∧ Below w.heap.size w w' :=
  law_c (specOf_radius (fun h => sRadius_short h) (fun h => helpOf_radius hb hlim h)) (fun h4 r hr _ => impl_radius hb (by omega) hr) alive_c h
end Go.Proofs.Ytaofambmajlhmaa
