/-
  spec.Read of mldreport2.
-/
import Derived.Test.YtmpifdanfnebpaaGreatSreport
import Derived.Test.YtmpifdanfnebpaaGreatD2report
namespace Go.Proofs.YtmpifdanfnebpaaGreat
open Go Go.RowKit

theorem helpOf_report {bs : List Int} (hb : ∀ z ∈ bs, 0 ≤ z ∧ z ≤ 255) (hlim : bs.length ≤ 2147483648) (h4 : 4 ≤ bs.length) : HelpOf 17 bs (some (dReport bs)) := by
  intro R v w hR h
  obtain ⟨p, c, rfl, hnc, hc, hp, hr⟩ := h
  obtain ⟨x0, x1, x2, x3, rest, rfl⟩ := four h4
  rcases hr with h | ⟨b, o, rfl, g1, g2, g3⟩
  · simp at h
  · have hb' : ∀ z ∈ [x0, x1, x2, x3], 0 ≤ z ∧ z ≤ 255 := fun z hz => hb z (List.mem_append_left rest hz)
    have hr' : RowAt w (fun b => b ≠ R) (some ⟨b, o, none⟩) ((x0 :: x1 :: x2 :: x3 :: rest).map (.int .u8)) := .inr ⟨b, o, rfl, g1, g2, g3⟩
    have h2 := hb x2 (by simp)
    have h3 := hb x3 (by simp)
    refine (report_walk x0 x1 x2 x3 (rest := rest) (M := (x2 * 256 + x3).toNat) (by simp) hnc hc hlim (by omega) g1 rfl hb hb' hR hr').mono ?_
    rintro e w' ⟨⟨h1, h2⟩ | ⟨ps, v, h1, h2, h3⟩, hbel⟩
    · exact ⟨hbel, _, _, (⟨_, _, _, _, rfl, SN.nil _ _, SD.nil _ _, SP.nil _ _, SB.nil _ _⟩ : LayOn w' (fun b => b ≠ R) zlay ⟨[], [], [], []⟩), .inr (.inl ⟨by simp only [dReport]; rw [h1]; rfl, h2⟩)⟩
    · exact ⟨hbel, v, _, h3, .inr (.inr ⟨by simp only [dReport]; rw [h1]; rfl, h2⟩)⟩
end Go.Proofs.YtmpifdanfnebpaaGreat
