/-
  spec.Plain of icmp.
-/
import Derived.Test.YtaejicpdaldpiaaGreatKind
import Derived.Test.YtaejicpdaldpiaaGreatSpec
namespace Go.Proofs.YtaejicpdaldpiaaGreat
open Go Go.RowKit

set_option maxRecDepth 100000 in
set_option maxHeartbeats 2000000 in
theorem plain_icmp {x0 x1 x2 x3 : Int} {rest : List Int} : PlainOf (.string ⟨#[105, 99, 109, 112, 54]⟩) (x0 :: x1 :: x2 :: x3 :: rest) (true) := by
  intro v w h
  obtain ⟨p, c, rfl, hnc, hc, hp, hr⟩ := h
  rcases hr with h | ⟨g, o, rfl, -, hg, hcell⟩
  · simp at h
  simp only [List.length_cons]
  generalize rest.length = n
  clear hnc hc hp hcell hg
  go_enter Tryz.func18, Tryz.ntmps18
  go_wp2_with fail
  go_ret
  exact ⟨rfl, Below.refl _ _⟩
end Go.Proofs.YtaejicpdaldpiaaGreat
