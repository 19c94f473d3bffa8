/-
  laws.read of routing6.
-/
import Derived.Test.YtaofambmajlhmaaAlive
import Derived.Test.YtaofambmajlhmaaRrouting
import Derived.Test.YtaofambmajlhmaaS2routing
namespace Go.Proofs.Ytaofambmajlhmaa
open Go Go.RowKit

theorem m_pay_routing (k : Nat) (a : Addr) (w : World) : (method (k + 1) 73 (.pointer (some a)) "LayerPayload").run Try.prog w = .ok (94, .pointer (some a)) w := by kernel_rfl

theorem impl_routing {bs : List Int} (hb : ∀ z ∈ bs, 0 ≤ z ∧ z ≤ 255) (hl : bs.length ≤ 2000) : ImplOf (.string ⟨#[114, 111, 117, 116, 105, 110, 103, 54]⟩) bs (dRouting bs) := by
  refine read_c hl (decOf_routing hb) (fun _ _ _ _ _ k h => isRouting_below k h) (fun l h X pl w hi => told_routing hi ?_) (fun _ _ _ _ h => isRouting_pl h) m_pay_routing
  unfold dRouting at h
  split at h
  · split at h
    · obtain rfl := Option.some.inj h
      simp at hl ⊢
      omega
    · cases h
  · cases h

theorem law_routing {bs : List Int} (hb : ∀ z ∈ bs, 0 ≤ z ∧ z ≤ 255) {v : Value} {w : World} (h : SB w (fun _ => True) v bs) :
    Calls Try.prog 19 #[.string ⟨#[114, 111, 117, 116, 105, 110, 103, 54]⟩, v] w fun e w' => e = .returned (.bool true) ∧ Below w.heap.size w w' :=
  law_c (specOf_routing (fun h => by rw [dRouting_short h]) (fun h => helpOf_routing hb h)) (fun h4 r hr _ => by cases hr; exact impl_routing hb (by omega)) alive_c h
end Go.Proofs.Ytaofambmajlhmaa
