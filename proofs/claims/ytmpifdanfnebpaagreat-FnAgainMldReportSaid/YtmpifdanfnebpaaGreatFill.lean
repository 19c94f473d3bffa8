/-
  A walk that appends to a list in a cell of a struct.
-/
import Derived.Test.YtmpifdanfnebpaaGreatParts
namespace Go.Proofs.YtmpifdanfnebpaaGreat
open Go Go.RowKit

/-- The state of a walk that appends to the list in cell J of a struct at L: all but that cell is as in W. -/
structure GFills {α : Type} (E : Elem α) (T : TypeId) (J : Nat) (W wr : World) (L base : Nat) (ok : Nat → Prop) (v : Value) (ps : List α) : Prop where
  lt : L < base
  le : base ≤ wr.heap.size
  parts : wr.cell? ⟨L, J, none⟩ = some v
  froz : ∀ j, wr.frozen? ⟨L, j, none⟩ = false
  other : ∀ j u, j ≠ J → W.cell? ⟨L, j, none⟩ = some u → wr.cell? ⟨L, j, none⟩ = some u
  rows : Rows E wr base ok T v ps
  keep : Keeps (fun b => b < base ∧ b ≠ L) W wr
  below : ∀ B w0, B ≤ L → Below B w0 W → Below B w0 wr

theorem GFills.start {α : Type} {E : Elem α} {T : TypeId} {J : Nat} {W : World} {L base : Nat} {ok : Nat → Prop} (hL : L < base) (hb : base ≤ W.heap.size) (hc : W.cell? ⟨L, J, none⟩ = some (.slice none 0 0)) (hf : ∀ j, W.frozen? ⟨L, j, none⟩ = false) : GFills E T J W W L base ok (.slice none 0 0) [] :=
  ⟨hL, hb, hc, hf, fun _ _ _ h => h, Rows.nil _ _ _ _ _, Keeps.refl _ _, fun _ _ _ h => h⟩

/-- One more part: what lies between leaves all old blocks as they were, the append turns the row alone, then the parts of L are written. -/
theorem GFills.step {α : Type} {E : Elem α} {T : TypeId} {J : Nat} {W wr w4 w5 : World} {L base : Nat} {ok : Nat → Prop} {v v' : Value} {ps : List α} {p : α} (h : GFills E T J W wr L base ok v ps) (hok : ∀ b, ok b → b ≠ L) (h4 : Below wr.heap.size wr w4)
    (hr : Rows E w5 base ok T v' (ps ++ [p])) (hs : w4.heap.size ≤ w5.heap.size) (hk : Keeps (fun b => b < base) w4 w5) (hb : ∀ B w0, B ≤ base → Below B w0 w4 → Below B w0 w5) :
    GFills E T J W (w5.setCell ⟨L, J, none⟩ v') L base ok v' (ps ++ [p]) := by
  have hL : L < wr.heap.size := Nat.lt_of_lt_of_le h.lt h.le
  have k4 : Keeps (fun b => b < base) wr w5 := (Keeps.of_below h4).trans hk
  have hc : w5.cell? ⟨L, J, none⟩ = some v := k4.cell h.lt h.parts
  refine ⟨h.lt, ?_, ?_, ?_, ?_, hr.keeps ?_, ?_, ?_⟩
  · simp
    exact Nat.le_trans h.le (Nat.le_trans h4.size hs)
  · rw [World.cell?_setCell_same _ _ _ hc]
  · intro j
    rw [World.frozen?_setCell]
    exact k4.frozen h.lt hL (h.froz j)
  · intro j u hj hu
    rw [World.cell?_setCell_other _ _ _ _ (by simp)]
    exact k4.cell h.lt (h.other j u hj hu)
  · refine (Keeps.refl _ _).setCell ?_ _
    rintro (h1 | h1)
    · exact hok _ h1 rfl
    · exact absurd h.lt (Nat.not_lt.2 h1)
  · refine Keeps.setCell (h.keep.trans (k4.imp fun b hb => hb.1)) ?_ _
    exact fun h1 => h1.2 rfl
  · intro B w0 hB hw
    exact (hb B w0 (Nat.le_trans hB (Nat.le_of_lt h.lt)) ((h.below B w0 hB hw).trans (h4.mono (Nat.le_trans hB (Nat.le_of_lt hL))))).setCell hB _
end Go.Proofs.YtmpifdanfnebpaaGreat
