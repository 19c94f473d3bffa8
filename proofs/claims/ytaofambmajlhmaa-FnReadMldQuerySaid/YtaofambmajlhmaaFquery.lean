/-
  laws.read of mldquery2.
-/
import Derived.Test.YtaofambmajlhmaaAlive
import Derived.Test.YtaofambmajlhmaaRquery
import Derived.Test.YtaofambmajlhmaaSquery
namespace Go.Proofs.Ytaofambmajlhmaa
open Go Go.RowKit

theorem m_pay_query (k : Nat) (a : Addr) (w : World) : (method (k + 1) 101 (.pointer (some a)) "LayerPayload").run Try.prog w = .ok (94, .pointer (some a)) w := by kernel_rfl

theorem impl_query {bs : List Int} (hb : ∀ z ∈ bs, 0 ≤ z ∧ z ≤ 255) (hl : bs.length ≤ 2000) : ImplOf (.string ⟨#[109, 108, 100, 113, 117, 101, 114, 121, 50]⟩) bs (dQuery bs) := by
  refine read_c hl (decOf_query hb) (fun _ _ _ _ _ k h => isQuery_below k h) (fun l h X pl w hi => told_query hi ?_) (fun _ _ _ _ h => isQuery_pl h) m_pay_query
  unfold dQuery at h
  split at h
  · split at h
    · obtain rfl := Option.some.inj h
      simp
    · cases h
  · cases h

theorem law_query {bs : List Int} (hb : ∀ z ∈ bs, 0 ≤ z ∧ z ≤ 255) {v : Value} {w : World} (h : SB w (fun _ => True) v bs) :
    Calls Try.prog 19 #[.string ⟨#[109, 108, 100, 113, 117, 101, 114, 121, 50]⟩, v] w fun e w' => e = .returned (.bool true) ∧ Below w.heap.size w w' :=
  law_c (specOf_query (fun h => by rw [dQuery_short h]) (fun h => helpOf_query hb h)) (fun h4 r hr _ => by cases hr; exact impl_query hb (by omega)) alive_c h
end Go.Proofs.Ytaofambmajlhmaa
