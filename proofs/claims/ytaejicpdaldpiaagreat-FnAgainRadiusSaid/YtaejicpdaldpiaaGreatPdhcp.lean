/-
  spec.Plain of dhcpv6, radius.
-/
import Derived.Test.YtaejicpdaldpiaaGreatKind
import Derived.Test.YtaejicpdaldpiaaGreatSpec
namespace Go.Proofs.YtaejicpdaldpiaaGreat
open Go Go.RowKit

set_option maxRecDepth 100000 in
set_option maxHeartbeats 2000000 in
theorem plain_dhcp {bs : List Int} (h0 : bs ≠ []) (h34 : bs.headD 0 = 12 ∨ bs.headD 0 = 13 → 34 ≤ bs.length) : PlainOf (.string ⟨#[100, 104, 99, 112, 118, 54]⟩) bs true := by
  intro v w h
  obtain ⟨p, c, rfl, hnc, hc, hp, hr⟩ := h
  rcases hr with h | ⟨g, o, rfl, -, hg, hcell⟩
  · simp at h; exact absurd h h0
  match bs, h0, h34, hnc, hcell with
  | x0 :: rest, _, h34, hnc, hcell =>
    have c0 := hcell 0 _ (by simp; rfl)
    rw [Nat.add_zero] at c0
    simp only [List.headD_cons, List.length_cons] at h34 ⊢
    generalize rest.length = n at *
    have hcase : (x0 == 12) = true ∨ ((x0 == 12) = false ∧ (x0 == 13) = true) ∨ ((x0 == 12) = false ∧ (x0 == 13) = false) := by
      cases (x0 == 12) <;> cases (x0 == 13) <;> simp
    have h34' : (x0 == 12) = true ∨ (x0 == 13) = true → (34 : Int) ≤ ((n + 1 : Nat) : Int) := by
      intro h
      have := h34 (by simpa using h)
      omega
    clear hnc hc hp hcell h34
    go_enter Tryz.func18, Tryz.ntmps18
    rcases hcase with h12 | ⟨h12, h13⟩ | ⟨h12, h13⟩
    · have h34 := h34' (.inl h12)
      have e12 : (x0 != 12) = false := by rw [bne, h12]; rfl
      have d34 : decide ((34 : Int) ≤ (n : Int) + 1) = true := decide_eq_true (by omega)
      clear h34'
      go_wp2_with fail
      go_ret
      exact ⟨rfl, Below.refl _ _⟩
    · have h34 := h34' (.inr h13)
      have e12 : (x0 != 12) = true := by rw [bne, h12]; rfl
      have e13 : (x0 != 13) = false := by rw [bne, h13]; rfl
      have d34 : decide ((34 : Int) ≤ (n : Int) + 1) = true := decide_eq_true (by omega)
      clear h34'
      go_wp2_with fail
      go_ret
      exact ⟨rfl, Below.refl _ _⟩
    · have e12 : (x0 != 12) = true := by rw [bne, h12]; rfl
      have e13 : (x0 != 13) = true := by rw [bne, h13]; rfl
      clear h34'
      go_wp2_with fail
      go_ret
      exact ⟨rfl, Below.refl _ _⟩

set_option maxRecDepth 100000 in
set_option maxHeartbeats 2000000 in
theorem plain_radius {bs : List Int} : PlainOf (.string ⟨#[114, 97, 100, 105, 117, 115]⟩) bs true := by
  intro v w h
  obtain ⟨p, c, rfl, hnc, hc, hp, hr⟩ := h
  clear hnc hc hp hr
  go_enter Tryz.func18, Tryz.ntmps18
  go_wp2_with fail
  go_ret
  exact ⟨rfl, Below.refl _ _⟩
end Go.Proofs.YtaejicpdaldpiaaGreat
