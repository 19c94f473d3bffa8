/-
  spec.Plain of mldq.
-/
import Derived.Test.YtaejicpdaldpiaaGreatKind
import Derived.Test.YtaejicpdaldpiaaGreatZero
import Derived.Test.YtaejicpdaldpiaaGreatSpec
namespace Go.Proofs.YtaejicpdaldpiaaGreat
open Go Go.RowKit

set_option maxRecDepth 100000 in
set_option maxHeartbeats 2000000 in
theorem plain_mldq {x0 x1 x2 x3 x4 x5 x6 x7 x8 x9 x10 x11 x12 x13 x14 x15 x16 x17 x18 x19 : Int} {rest : List Int} : PlainOf (.string ⟨#[109, 108, 100, 49, 113, 117, 101, 114, 121]⟩) (x0 :: x1 :: x2 :: x3 :: x4 :: x5 :: x6 :: x7 :: x8 :: x9 :: x10 :: x11 :: x12 :: x13 :: x14 :: x15 :: x16 :: x17 :: x18 :: x19 :: rest) ((x2 == 0 && x3 == 0)) := by
  intro v w h
  obtain ⟨p, c, rfl, hnc, hc, hp, hr⟩ := h
  rcases hr with h | ⟨g, o, rfl, -, hg, hcell⟩
  · simp at h
  have c2 := hcell 2 _ (by simp; rfl)
  have c3 := hcell 3 _ (by simp; rfl)
  have n4 : (4 : Int) ≤ (c : Int) := by simp only [List.length_cons] at hnc; omega
  have m4 : 4 ≤ c := by omega
  have m2 : ¬ c = 2 := by omega
  simp only [List.length_cons]
  generalize rest.length = n
  clear hnc hc hp hcell
  go_enter Tryz.func18, Tryz.ntmps18
  cases hz : (x2 == 0 && x3 == 0) with
  | false =>
    go_wp2_with (go_at_call 33; refine (zero2_c x2 x3 (by go_simp) (by go_simp)).mono ?_; rintro e w' ⟨rfl, rfl⟩; rw [hz])
    go_ret
    exact ⟨rfl, Below.refl _ _⟩
  | true =>
    go_wp2_with (go_at_call 33; refine (zero2_c x2 x3 (by go_simp) (by go_simp)).mono ?_; rintro e w' ⟨rfl, rfl⟩; rw [hz])
    go_ret
    exact ⟨rfl, Below.refl _ _⟩
end Go.Proofs.YtaejicpdaldpiaaGreat
