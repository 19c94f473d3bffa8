/-
  What a buffer leaves as it was: all blocks but its own and that of its bytes.
-/
import Derived.Test.YtmpifdanfnebpaaGreatPut
import Derived.Test.YtmpifdanfnebpaaGreatMake
import Derived.Test.YtmpifdanfnebpaaGreatWmld
namespace Go.Proofs.YtmpifdanfnebpaaGreat
open Go Go.RowKit

/-- A block that is neither a buffer's own nor that of its bytes. -/
def Off (w : World) (B b : Nat) : Prop := b < w.heap.size ∧ b ≠ B ∧ ∀ n c, w.cell? ⟨B, 0, none⟩ ≠ some (.slice (some ⟨b, 0, none⟩) n c)
def KeepsOff (w w' : World) (B : Nat) : Prop := ∀ b, Off w B b → Off w' B b ∧ w'.heap[b]? = w.heap[b]?
theorem KeepsOff.refl (w : World) (B : Nat) : KeepsOff w w B := fun _ h => ⟨h, rfl⟩
theorem KeepsOff.trans {a b c : World} {B : Nat} (h : KeepsOff a b B) (k : KeepsOff b c B) : KeepsOff a c B := fun x hx => ⟨(k x (h x hx).1).1, (k x (h x hx).1).2.trans (h x hx).2⟩
theorem koff_below {w w' : World} {B : Nat} (hB : B < w.heap.size) (h : Below w.heap.size w w') : KeepsOff w w' B := fun b ⟨h1, h2, h3⟩ =>
  ⟨⟨Nat.lt_of_lt_of_le h1 h.size, h2, fun n c hc => h3 n c ((h.cell (p := ⟨B, 0, none⟩) hB).symm.trans hc)⟩, h.block b h1⟩
theorem koff_holds {w w' : World} {B D s : Nat} {ys : List Int} (hk : Keeps (fun b => b ≠ B) w w') (hh : Holds w' B D s ys) (hD : w.heap.size ≤ D ∨ ∃ s0 bs, Holds w B D s0 bs) : KeepsOff w w' B := fun b ⟨h1, h2, h3⟩ => by
  refine ⟨⟨Nat.lt_of_lt_of_le h1 hk.size, h2, fun n c hc => ?_⟩, hk.block b h2 h1⟩
  rw [hh.data] at hc
  have e : D = b := by injection hc with e; injection e with e; injection e with e; injection e
  rcases hD with h | ⟨s0, bs, h⟩
  · omega
  · exact h3 _ _ (e ▸ h.data)
theorem koff_bare {w w' : World} {B : Nat} (hk : Keeps (fun b => b ≠ B) w w') (hh : Bare w' B) : KeepsOff w w' B := fun b ⟨h1, h2, h3⟩ => by
  refine ⟨⟨Nat.lt_of_lt_of_le h1 hk.size, h2, fun n c hc => ?_⟩, hk.block b h2 h1⟩
  rw [hh.data] at hc
  cases hc
theorem koff_setCells {w : World} {B D s : Nat} {bs : List Int} (hh : Holds w B D s bs) (k : Nat) (vs : List Value) : KeepsOff w (w.setCells D k vs) B := fun b ⟨h1, h2, h3⟩ => by
  have e : b ≠ D := fun e => h3 _ _ (e ▸ hh.data)
  refine ⟨⟨by rw [size_setCells]; exact h1, h2, fun n c hc => h3 n c ?_⟩, (keeps_setCells (ok := fun b => b ≠ D) (by simp) vs k (Keeps.refl _ w)).block b e h1⟩
  rw [cell_setCells (by have := hh.lt; omega)] at hc
  exact hc
theorem koff_setCell {w : World} {B D s k : Nat} {bs : List Int} (hh : Holds w B D s bs) (v : Value) : KeepsOff w (w.setCell ⟨D, k, none⟩ v) B := fun b ⟨h1, h2, h3⟩ => by
  have e : b ≠ D := fun e => h3 _ _ (e ▸ hh.data)
  refine ⟨⟨by simpa using h1, h2, fun n c hc => h3 n c ?_⟩, ((Keeps.refl (fun b => b ≠ D) w).setCell (by simp) v).block b e h1⟩
  rw [World.cell?_setCell_other _ _ _ _ (by have := hh.lt; intro e; injection e with e; omega)] at hc
  exact hc
theorem KeepsOff.cell {w w' : World} {B b : Nat} (h : KeepsOff w w' B) (hb : Off w B b) (j : Nat) : w'.cell? ⟨b, j, none⟩ = w.cell? ⟨b, j, none⟩ := World.cell?_of_block (w := w) (h b hb).2
/-- A new block is off a buffer that stood. -/
theorem off_new {w w' : World} {B : Nat} {bs : List Int} (h : Buf w B bs) (k : Below w.heap.size w w') {b : Nat} (h1 : w.heap.size ≤ b) (h2 : b < w'.heap.size) : Off w' B b := by
  have lB := h.lt
  refine ⟨h2, by omega, fun n c hc => ?_⟩
  rw [k.cell (p := ⟨B, 0, none⟩) lB] at hc
  rcases h with ⟨-, h⟩ | ⟨D, s, h⟩
  · rw [h.data] at hc; cases hc
  · rw [h.data] at hc
    have e : D = b := by injection hc with e; injection e with e; injection e with e; injection e
    have := h.ltD
    omega
/-- A block that lies below the buffer is off it. -/
theorem off_old {w : World} {B b : Nat} {bs : List Int} (h : Buf w B bs) (hb : b < B) : Off w B b := by
  have lB := h.lt
  refine ⟨by omega, by omega, fun n c hc => ?_⟩
  rcases h with ⟨-, h⟩ | ⟨D, s, h⟩
  · rw [h.data] at hc; cases hc
  · rw [h.data] at hc
    have e : D = b := by injection hc with e; injection e with e; injection e with e; injection e
    have := h.lt
    omega
end Go.Proofs.YtmpifdanfnebpaaGreat
