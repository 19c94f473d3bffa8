/-
  laws.read of mldreport2.
-/
import Derived.Test.YtaofambmajlhmaaAlive
import Derived.Test.YtaofambmajlhmaaRreport
import Derived.Test.YtaofambmajlhmaaS2report
import Derived.Test.YtaofambmajlhmaaHelp
namespace Go.Proofs.Ytaofambmajlhmaa
open Go Go.RowKit

theorem m_pay_report (k : Nat) (a : Addr) (w : World) : (method (k + 1) 104 (.pointer (some a)) "LayerPayload").run Try.prog w = .ok (94, .pointer (some a)) w := by kernel_rfl

theorem dReport_pay {bs : List Int} {l : Lay} (h : dReport bs = some l) : l.payload.length ≤ bs.length := by
  unfold dReport at h
  split at h
  · cases hr : dRecs _ _ with
    | none => rw [hr] at h; cases h
    | some q => rw [hr] at h; obtain rfl := Option.some.inj h; simp
  · cases h

theorem impl_report {bs : List Int} (hb : ∀ z ∈ bs, 0 ≤ z ∧ z ≤ 255) (hl : bs.length ≤ 2000) : ImplOf (.string ⟨#[109, 108, 100, 114, 101, 112, 111, 114, 116, 50]⟩) bs (dReport bs) := by
  refine read_c hl (decOf_report hb (by omega)) (fun _ _ _ _ _ k h => isReport_below k h) (fun l h X pl w hi => told_report hi ?_) (fun _ _ _ _ h => isReport_pl h) m_pay_report
  have := dReport_pay h
  omega

theorem law_report {bs : List Int} (hb : ∀ z ∈ bs, 0 ≤ z ∧ z ≤ 255) {v : Value} {w : World} (h : SB w (fun _ => True) v bs) (hlim : bs.length ≤ 2147483648) :
    Calls Try.prog 19 #[.string ⟨#[109, 108, 100, 114, 101, 112, 111, 114, 116, 50]⟩, v] w fun e w' => e = .returned (.bool true) ∧ Below w.heap.size w w' :=
  law_c (specOf_report (fun h => by rw [dReport_short h]) (fun h => helpOf_report hb hlim h)) (fun h4 r hr _ => by cases hr; exact impl_report hb (by omega)) alive_c h
end Go.Proofs.Ytaofambmajlhmaa
