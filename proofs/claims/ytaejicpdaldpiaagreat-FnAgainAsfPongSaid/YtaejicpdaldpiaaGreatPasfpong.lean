/-
  spec.Plain of asfpong.
-/
import Derived.Test.YtaejicpdaldpiaaGreatKind
import Derived.Test.YtaejicpdaldpiaaGreatZero
import Derived.Test.YtaejicpdaldpiaaGreatSpec
namespace Go.Proofs.YtaejicpdaldpiaaGreat
open Go Go.RowKit

set_option maxRecDepth 100000 in
set_option maxHeartbeats 2000000 in
theorem plain_asfpong {x0 x1 x2 x3 x4 x5 x6 x7 x8 x9 x10 x11 x12 x13 x14 x15 : Int} {rest : List Int} : PlainOf (.string ⟨#[97, 115, 102, 112, 111, 110, 103]⟩) (x0 :: x1 :: x2 :: x3 :: x4 :: x5 :: x6 :: x7 :: x8 :: x9 :: x10 :: x11 :: x12 :: x13 :: x14 :: x15 :: rest) (bits .and .u8 x8 126 == 0 && bits .and .u8 x9 95 == 0 && [x10, x11, x12, x13, x14, x15].all (· == 0)) := by
  intro v w h
  obtain ⟨p, c, rfl, hnc, hc, hp, hr⟩ := h
  rcases hr with h | ⟨g, o, rfl, -, hg, hcell⟩
  · simp at h
  have c8 := hcell 8 _ (by simp; rfl)
  have c9 := hcell 9 _ (by simp; rfl)
  have HZ := Lib.hid (show ∀ j (h : j < [x10, x11, x12, x13, x14, x15].length), w.cell? ⟨g, o + (10 + j), none⟩ = some (.int .u8 [x10, x11, x12, x13, x14, x15][j]) from fun j hj => hcell (10 + j) _ (by
    rw [List.getElem?_map]
    match j, hj with
    | 0, _ => rfl
    | 1, _ => rfl
    | 2, _ => rfl
    | 3, _ => rfl
    | 4, _ => rfl
    | 5, _ => rfl))
  have n16 : (16 : Int) ≤ (c : Int) := by simp only [List.length_cons] at hnc; omega
  have m16 : 16 ≤ c := by omega
  have m10 : ¬ c = 10 := by omega
  simp only [List.length_cons]
  generalize rest.length = n
  have l8 : (8 : Int) < ((n + 1 + 1 + 1 + 1 + 1 + 1 + 1 + 1 + 1 + 1 + 1 + 1 + 1 + 1 + 1 + 1 : Nat) : Int) := by omega
  have l9 : (9 : Int) < ((n + 1 + 1 + 1 + 1 + 1 + 1 + 1 + 1 + 1 + 1 + 1 + 1 + 1 + 1 + 1 + 1 : Nat) : Int) := by omega
  clear hnc hc hp hcell
  go_enter Tryz.func18, Tryz.ntmps18
  cases h8 : (bits .and .u8 x8 126 == 0) with
  | false =>
    go_wp2_with fail
    go_ret
    exact ⟨rfl, Below.refl _ _⟩
  | true =>
    cases h9 : (bits .and .u8 x9 95 == 0) with
    | false =>
      go_wp2_with fail
      go_ret
      exact ⟨rfl, Below.refl _ _⟩
    | true =>
      go_wp2_with fail
      refine (zero_c [x10, x11, x12, x13, x14, x15] rfl (by simp) (fun j hj => by have := HZ.out j hj; rwa [Nat.add_assoc])).mono ?_
      rintro e w' ⟨rfl, rfl⟩
      go_wp2_with fail
      go_ret
      exact ⟨by simp, Below.refl _ _⟩
end Go.Proofs.YtaejicpdaldpiaaGreat
