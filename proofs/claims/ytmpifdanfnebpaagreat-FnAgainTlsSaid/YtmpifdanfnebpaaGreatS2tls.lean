/-
  spec.tls: what is said of all bytes.
-/
import Derived.Test.YtmpifdanfnebpaaGreatStls
import Derived.Test.YtmpifdanfnebpaaGreatLaw
namespace Go.Proofs.YtmpifdanfnebpaaGreat
open Go Go.RowKit

/-- What is said of the bytes. -/
def sTls (bs : List Int) : Option (Option Lay) := if bs.length < 5 then some none else (dTls bs).map (Option.map (fun rs => (⟨[], [], tAll rs, []⟩ : Lay)))
theorem sTls_short {bs : List Int} (h : bs.length < 5) : sTls bs = some none := if_pos h
theorem sTls_long {bs : List Int} (h : 5 ≤ bs.length) : sTls bs = (dTls bs).map (Option.map (fun rs => (⟨[], [], tAll rs, []⟩ : Lay))) := if_neg (by omega)

theorem layOn_zlay4 (w : World) (ok : Nat → Prop) : LayOn w ok zlay ⟨[], [], [], []⟩ := ⟨_, _, _, _, rfl, SN.nil _ _, SD.nil _ _, SP.nil _ _, SB.nil _ _⟩

theorem helpOf_tls {bs : List Int} (hb : ∀ z ∈ bs, 0 ≤ z ∧ z ≤ 255) (hlim : bs.length ≤ 2147483648) (h5 : 5 ≤ bs.length) : HelpOf 21 bs (sTls bs) := by
  intro R v w hR h
  obtain ⟨p, c, rfl, hnc, hc, hp, hr⟩ := h
  rcases hr with h | ⟨b, o, rfl, g1, g2, g3⟩
  · have := congrArg List.length h
    rw [List.length_map, List.length_nil] at this
    omega
  · rw [sTls_long h5]
    refine (tls_walk rfl hnc hc hlim g1 h5 hb hR (.inr ⟨b, o, rfl, g1, g2, g3⟩)).mono ?_
    rintro e w' ⟨⟨h1, h2⟩ | ⟨h1, h2⟩ | ⟨rs, v, h1, h2, h3⟩, hbel⟩
    · exact ⟨hbel, _, _, layOn_zlay4 _ _, .inl ⟨by rw [h1]; rfl, _, h2⟩⟩
    · exact ⟨hbel, _, _, layOn_zlay4 _ _, .inr (.inl ⟨by rw [h1]; rfl, h2⟩)⟩
    · exact ⟨hbel, v, _, h3, .inr (.inr ⟨by rw [h1]; rfl, h2⟩)⟩
end Go.Proofs.YtmpifdanfnebpaaGreat
