/-
  spec.Plain of asf.
-/
import Derived.Test.YtaejicpdaldpiaaGreatKind
import Derived.Test.YtaejicpdaldpiaaGreatSpec
namespace Go.Proofs.YtaejicpdaldpiaaGreat
open Go Go.RowKit

set_option maxRecDepth 100000 in
set_option maxHeartbeats 2000000 in
theorem plain_asf {x0 x1 x2 x3 x4 x5 x6 x7 : Int} {rest : List Int} : PlainOf (.string ⟨#[97, 115, 102]⟩) (x0 :: x1 :: x2 :: x3 :: x4 :: x5 :: x6 :: x7 :: rest) (x6 == 0) := by
  intro v w h
  obtain ⟨p, c, rfl, hnc, hc, hp, hr⟩ := h
  rcases hr with h | ⟨g, o, rfl, -, hg, hcell⟩
  · simp at h
  have c6 := hcell 6 _ (by simp; rfl)
  simp only [List.length_cons]
  generalize rest.length = n
  have n6 : (6 : Int) < ((n + 1 + 1 + 1 + 1 + 1 + 1 + 1 + 1 : Nat) : Int) := by omega
  clear hnc hc hp hcell
  go_enter Tryz.func18, Tryz.ntmps18
  go_wp2_with fail
  go_ret
  exact ⟨rfl, Below.refl _ _⟩
end Go.Proofs.YtaejicpdaldpiaaGreat
