/-
  laws.read of tls.
-/
import Derived.Test.YtehdhnjimmplhaaAlive
import Derived.Test.YtehdhnjimmplhaaRtls
namespace Go.Proofs.Ytehdhnjimmplhaa
open Go Go.RowKit

theorem m_pay_tls (k : Nat) (a : Addr) (w : World) : (method (k + 1) 151 (.pointer (some a)) "LayerPayload").run Try.prog w = .ok (79, .pointer (some a)) w := by kernel_rfl

theorem impl_tls {bs : List Int} {r : Option Lay} (hb : ∀ z ∈ bs, 0 ≤ z ∧ z ≤ 255) (hl : bs.length ≤ 2000) (hs : sTls bs = some r) : ImplOf (.string ⟨#[116, 108, 115]⟩) bs r :=
  read_c hl (decOf_tls hb hl hs) (fun _ _ _ _ _ k h => isTls_below k h) (fun _ _ _ _ _ hi => told_tls hi) (fun _ _ _ _ h => isTls_pl h) m_pay_tls

theorem law_tls {bs : List Int} (hb : ∀ z ∈ bs, 0 ≤ z ∧ z ≤ 255) {v : Value} {w : World} (h : SB w (fun _ => True) v bs) (hlim : bs.length ≤ 2147483648) :
    Calls Try.prog 4 #[.string ⟨#[116, 108, 115]⟩, v] w fun e w' => e = .returned (.bool true) ∧ Below w.heap.size w w' :=
  law_c (specOf_tls (fun h => sTls_short h) (fun h => helpOf_tls hb hlim h)) (fun h4 r hr _ => impl_tls hb (by omega) hr) alive_c h
end Go.Proofs.Ytehdhnjimmplhaa
