/-
  spec.Plain of echo.
-/
import Derived.Test.YtaejicpdaldpiaaGreatKind
import Derived.Test.YtaejicpdaldpiaaGreatSpec
namespace Go.Proofs.YtaejicpdaldpiaaGreat
open Go Go.RowKit

set_option maxRecDepth 100000 in
set_option maxHeartbeats 2000000 in
theorem plain_echo {x0 x1 x2 x3 : Int} {rest : List Int} : PlainOf (.string ⟨#[101, 99, 104, 111, 54]⟩) (x0 :: x1 :: x2 :: x3 :: rest) (rest.isEmpty) := by
  intro v w h
  obtain ⟨p, c, rfl, hnc, hc, hp, hr⟩ := h
  rcases hr with h | ⟨g, o, rfl, -, hg, hcell⟩
  · simp at h
  cases rest with
  | nil =>
    clear hnc hc hp hcell hg
    simp only [List.length_cons, List.length_nil]
    go_enter Tryz.func18, Tryz.ntmps18
    go_wp2_with fail
    go_ret
    exact ⟨rfl, Below.refl _ _⟩
  | cons y r =>
    clear hnc hc hp hcell hg
    simp only [List.length_cons]
    generalize r.length = n
    have n1 : ¬ ((n + 1 + 1 + 1 + 1 + 1 : Nat) : Int) = 4 := by omega
    have n2 : (((n + 1 + 1 + 1 + 1 + 1 : Nat) : Int) == 4) = false := by simp; omega
    go_enter Tryz.func18, Tryz.ntmps18
    go_wp2_with fail
    go_ret
    exact ⟨rfl, Below.refl _ _⟩
end Go.Proofs.YtaejicpdaldpiaaGreat
