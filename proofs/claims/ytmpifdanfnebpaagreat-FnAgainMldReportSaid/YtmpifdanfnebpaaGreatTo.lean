/-
  A region that draws its order, where cells of new blocks are written on the way.
-/
import Derived.Test.YtmpifdanfnebpaaGreatBits
namespace Go.Proofs.YtmpifdanfnebpaaGreat
open Go Go.RowKit

/-- Of the blocks below B every cell reads as it did. -/
def SameTo (B : Nat) (W w' : World) : Prop := B ≤ w'.heap.size ∧ ∀ b o, b < B → w'.cell? ⟨b, o, none⟩ = W.cell? ⟨b, o, none⟩
theorem SameTo.refl {B : Nat} {W : World} (h : B ≤ W.heap.size) : SameTo B W W := ⟨h, fun _ _ _ => rfl⟩
theorem SameTo.drew {B : Nat} {W w : World} (h : SameTo B W w) : SameTo B W w.drew := h
theorem SameTo.alloc {B : Nat} {W w : World} (h : SameTo B W w) (o : Obj) : SameTo B W (w.alloc o) :=
  ⟨by rw [World.size_alloc]; exact Nat.le_succ_of_le h.1, fun b j hb => (World.cell?_alloc_lt w o ⟨b, j, none⟩ (Nat.lt_of_lt_of_le hb h.1)).trans (h.2 b j hb)⟩
theorem SameTo.setCell {B : Nat} {W w : World} (h : SameTo B W w) {p : Addr} (hp : B ≤ p.block) (u : Value) : SameTo B W (w.setCell p u) :=
  ⟨by simpa using h.1, fun b j hb => (World.cell?_of_block (Below.heap_setCell _ _ _ _ (by simp; omega))).trans (h.2 b j hb)⟩
theorem SameTo.below {B : Nat} {W w w' : World} (h : SameTo B W w) (k : Below w.heap.size w w') : SameTo B W w' :=
  ⟨Nat.le_trans h.1 k.size, fun b j hb => (k.cell (p := ⟨b, j, none⟩) (Nat.lt_of_lt_of_le hb h.1)).trans (h.2 b j hb)⟩
theorem wp_region_to {P : Program} {Q : Exit → Act → World → Prop} {id : Nat} {a : Act} {w : World} {l : List Oper} (B : Nat) (hB : B ≤ w.heap.size) (ns : List Nat) (t : Ord) {t' : OrdO} (hm : P.follows .mixedOrders = true)
    (hk : (Region.noSelect l.toArray && t.within l.toArray.size && lexOK .any l.toArray ns l.toArray.size true t (Array.replicate l.toArray.size false)) = true)
    (hQ : ∀ c a d v w, Q (.panic c) (Act.put a d v) w → Q (.panic c) a w) (ht : t.fill l = t') (h : SameTo B w w.drew → wpLexO P l.toArray (SameTo B w) Q ns t' a w.drew) : (Code.region id l.toArray true).wp P Q a w :=
  wp_region_lex (SameTo B w) ns t hm hk hQ ht (SameTo.refl hB) (h (SameTo.refl hB))
end Go.Proofs.YtmpifdanfnebpaaGreat
