/-
  laws.alive, laws.read of any kind whose two readers are known.
-/
import Derived.Test.YtmpifdanfnebpaaGreatRead
import Derived.Test.YtmpifdanfnebpaaGreatSame
namespace Go.Proofs.YtmpifdanfnebpaaGreat
open Go Go.RowKit

/-- What spec.Read makes of bytes: D = none: nothing is said; some none: there is no such layer. -/
def SpecOf (K : Value) (bs : List Int) (D : Option (Option Lay)) : Prop :=
  ∀ (v : Value) (w : World), SB w (fun _ => True) v bs → Calls Tryz.prog 6 #[K, v] w fun e w' =>
    Below w.heap.size w w' ∧ ∃ u l, LayIs w' u l ∧ ((D = none ∧ ∃ ok, e = .returned (.tuple #[u, .bool ok, .bool false])) ∨ (D = some none ∧ e = .returned (.tuple #[u, .bool false, .bool true])) ∨
      (D = some (some l) ∧ e = .returned (.tuple #[u, .bool true, .bool true])))

def AliveOf : Prop := ∀ w : World, Calls Tryz.prog 10 #[] w fun e w' => e = .returned (.bool true) ∧ Below w.heap.size w w'

theorem b01_top {x : Int} (h : 0 ≤ x ∧ x ≤ 255) : b01 (decide (128 ≤ x)) = x / 128 := by
  by_cases h1 : 128 ≤ x
  · rw [decide_eq_true h1]
    simp only [b01]
    omega
  · rw [decide_eq_false h1]
    simp only [b01]
    omega

theorem layIs_zlay (w : World) : LayIs w zlay ⟨[], [], [], []⟩ := ⟨_, _, _, _, rfl, SN.nil _ _, SD.nil _ _, SP.nil _ _, SB.nil _ _⟩

theorem below_next {B : Nat} {a w w' : World} (h : Below B a w) (k : Below w.heap.size w w') (hB : B ≤ w.heap.size) : Below B a w' := h.trans (k.mono hB)

end Go.Proofs.YtmpifdanfnebpaaGreat
