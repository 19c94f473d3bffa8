/-
  spec.Plain of rmcp.
-/
import Derived.Test.YtaejicpdaldpiaaGreatKind
import Derived.Test.YtaejicpdaldpiaaGreatSpec
namespace Go.Proofs.YtaejicpdaldpiaaGreat
open Go Go.RowKit

set_option maxRecDepth 100000 in
set_option maxHeartbeats 2000000 in
theorem plain_rmcp {x0 x1 x2 x3 : Int} {rest : List Int} : PlainOf (.string ⟨#[114, 109, 99, 112]⟩) (x0 :: x1 :: x2 :: x3 :: rest) (x1 == 0 && bits .and .u8 x3 112 == 0) := by
  intro v w h
  obtain ⟨p, c, rfl, hnc, hc, hp, hr⟩ := h
  rcases hr with h | ⟨g, o, rfl, -, hg, hcell⟩
  · simp at h
  have c1 := hcell 1 _ (by simp; rfl)
  have c3 := hcell 3 _ (by simp; rfl)
  simp only [List.length_cons]
  generalize rest.length = n
  have n1 : (1 : Int) < ((n + 1 + 1 + 1 + 1 : Nat) : Int) := by omega
  have n3 : (3 : Int) < ((n + 1 + 1 + 1 + 1 : Nat) : Int) := by omega
  clear hnc hc hp hcell
  go_enter Tryz.func18, Tryz.ntmps18
  cases h1 : (x1 == 0) with
  | false =>
    go_wp2_with fail
    go_ret
    exact ⟨rfl, Below.refl _ _⟩
  | true =>
    go_wp2_with fail
    go_ret
    exact ⟨rfl, Below.refl _ _⟩
end Go.Proofs.YtaejicpdaldpiaaGreat
