/-
  spec.Plain of mldquery2.
-/
import Derived.Test.YtaejicpdaldpiaaGreatKind
import Derived.Test.YtaejicpdaldpiaaGreatZero
namespace Go.Proofs.YtaejicpdaldpiaaGreat
open Go Go.RowKit

set_option maxRecDepth 100000 in
set_option maxHeartbeats 2000000 in
theorem plain_query {x0 x1 x2 x3 x4 x5 x6 x7 x8 x9 x10 x11 x12 x13 x14 x15 x16 x17 x18 x19 x20 x21 x22 x23 : Int} {rest : List Int} (h20 : 0 ≤ x20 ∧ x20 ≤ 255) (h22 : 0 ≤ x22 ∧ x22 ≤ 255) (h23 : 0 ≤ x23 ∧ x23 ≤ 255) (hl : rest.length ≤ 400) : PlainOf (.string ⟨#[109, 108, 100, 113, 117, 101, 114, 121, 50]⟩) (x0 :: x1 :: x2 :: x3 :: x4 :: x5 :: x6 :: x7 :: x8 :: x9 :: x10 :: x11 :: x12 :: x13 :: x14 :: x15 :: x16 :: x17 :: x18 :: x19 :: x20 :: x21 :: x22 :: x23 :: rest) ((x2 == 0 && x3 == 0) && (decide (x20 < 16) && ((((x0 :: x1 :: x2 :: x3 :: x4 :: x5 :: x6 :: x7 :: x8 :: x9 :: x10 :: x11 :: x12 :: x13 :: x14 :: x15 :: x16 :: x17 :: x18 :: x19 :: x20 :: x21 :: x22 :: x23 :: rest).length : Nat) : Int) == 24 + 16 * (x22 * 256 + x23)))) := by
  intro v w h
  obtain ⟨p, c, rfl, hnc, hc, hp, hr⟩ := h
  rcases hr with h | ⟨g, o, rfl, -, hg, hcell⟩
  · simp at h
  have c2 := hcell 2 _ (by simp; rfl)
  have c3 := hcell 3 _ (by simp; rfl)
  have c20 := hcell 20 _ (by simp; rfl)
  have c22 := hcell 22 _ (by simp; rfl)
  have c23 := hcell 23 _ (by simp; rfl)
  have n4 : (4 : Int) ≤ (c : Int) := by simp only [List.length_cons] at hnc; omega
  have n24 : (24 : Int) ≤ (c : Int) := by simp only [List.length_cons] at hnc; omega
  have m2 : ¬ c = 2 := by omega
  have m22 : ¬ c = 22 := by omega
  simp only [List.length_cons]
  generalize rest.length = n at *
  have l20 : (20 : Int) < ((n + 1 + 1 + 1 + 1 + 1 + 1 + 1 + 1 + 1 + 1 + 1 + 1 + 1 + 1 + 1 + 1 + 1 + 1 + 1 + 1 + 1 + 1 + 1 + 1 : Nat) : Int) := by omega
  clear hnc hc hp hcell
  go_enter Tryz.func18, Tryz.ntmps18
  cases hz : (x2 == 0 && x3 == 0) with
  | false =>
    go_wp2_with fail
    refine (zero2_c x2 x3 (by go_simp) (by go_simp)).mono ?_
    rintro e w' ⟨rfl, rfl⟩
    rw [hz]
    go_wp2_with fail
    go_ret
    exact ⟨by simp, Below.refl _ _⟩
  | true =>
    by_cases hq : x20 < 16
    · have hq' : decide (x20 < 16) = true := by simpa using hq
      cases he : (((n + 1 + 1 + 1 + 1 + 1 + 1 + 1 + 1 + 1 + 1 + 1 + 1 + 1 + 1 + 1 + 1 + 1 + 1 + 1 + 1 + 1 + 1 + 1 + 1 : Nat) : Int) == 24 + 16 * (x22 * 256 + x23)) with
      | true =>
        go_wp2_with fail
        refine (zero2_c x2 x3 (by go_simp) (by go_simp)).mono ?_
        rintro e w' ⟨rfl, rfl⟩
        rw [hz]
        go_wp2_with fail
        refine (number2_c x22 x23 h22 h23 (by go_simp) (by go_simp)).mono ?_
        rintro e w' ⟨rfl, rfl⟩
        go_wp2_with fail
        go_ret
        rw [beq_iff_eq] at he
        exact ⟨by simp [hq] <;> omega, Below.refl _ _⟩
      | false =>
        go_wp2_with fail
        refine (zero2_c x2 x3 (by go_simp) (by go_simp)).mono ?_
        rintro e w' ⟨rfl, rfl⟩
        rw [hz]
        go_wp2_with fail
        refine (number2_c x22 x23 h22 h23 (by go_simp) (by go_simp)).mono ?_
        rintro e w' ⟨rfl, rfl⟩
        go_wp2_with fail
        go_ret
        rw [beq_eq_false_iff_ne] at he
        exact ⟨by simp <;> omega, Below.refl _ _⟩
    · have hq' : decide (x20 < 16) = false := by simpa using hq
      go_wp2_with fail
      refine (zero2_c x2 x3 (by go_simp) (by go_simp)).mono ?_
      rintro e w' ⟨rfl, rfl⟩
      rw [hz]
      go_wp2_with fail
      go_ret
      exact ⟨by simp <;> omega, Below.refl _ _⟩

end Go.Proofs.YtaejicpdaldpiaaGreat
