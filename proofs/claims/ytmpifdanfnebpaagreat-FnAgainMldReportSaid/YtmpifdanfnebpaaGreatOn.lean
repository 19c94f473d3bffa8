/-
  A region that draws its order, where the cells of some blocks stay as they are; append, with what it leaves.
-/
import Derived.Test.YtmpifdanfnebpaaGreatParts
namespace Go.Proofs.YtmpifdanfnebpaaGreat
open Go Go.RowKit

/-- Of the blocks of which ok holds every cell reads as it did. -/
def SameOn (ok : Nat → Prop) (W w' : World) : Prop := (∀ b, ok b → b < w'.heap.size) ∧ ∀ b o, ok b → w'.cell? ⟨b, o, none⟩ = W.cell? ⟨b, o, none⟩
theorem SameOn.refl {ok : Nat → Prop} {W : World} (h : ∀ b, ok b → b < W.heap.size) : SameOn ok W W := ⟨h, fun _ _ _ => rfl⟩
theorem SameOn.drew {ok : Nat → Prop} {W w : World} (h : SameOn ok W w) : SameOn ok W w.drew := h
theorem SameOn.alloc {ok : Nat → Prop} {W w : World} (h : SameOn ok W w) (o : Obj) : SameOn ok W (w.alloc o) :=
  ⟨fun b hb => by rw [World.size_alloc]; exact Nat.lt_succ_of_lt (h.1 b hb), fun b j hb => (World.cell?_alloc_lt w o ⟨b, j, none⟩ (h.1 b hb)).trans (h.2 b j hb)⟩
theorem SameOn.below {ok : Nat → Prop} {W w w' : World} (h : SameOn ok W w) (k : Below w.heap.size w w') : SameOn ok W w' :=
  ⟨fun b hb => Nat.lt_of_lt_of_le (h.1 b hb) k.size, fun b j hb => (k.cell (p := ⟨b, j, none⟩) (h.1 b hb)).trans (h.2 b j hb)⟩
theorem SameOn.keeps {ok ok' : Nat → Prop} {W w w' : World} (h : SameOn ok W w) (k : Keeps ok' w w') (hi : ∀ b, ok b → ok' b) : SameOn ok W w' :=
  ⟨fun b hb => Nat.lt_of_lt_of_le (h.1 b hb) k.size, fun b j hb => (World.cell?_of_block (w := w) (k.block b (hi b hb) (h.1 b hb))).trans (h.2 b j hb)⟩
theorem wp_region_on {P : Program} {Q : Exit → Act → World → Prop} {id : Nat} {a : Act} {w : World} {l : List Oper} (ok : Nat → Prop) (hB : ∀ b, ok b → b < w.heap.size) (ns : List Nat) (t : Ord) {t' : OrdO} (hm : P.follows .mixedOrders = true)
    (hk : (Region.noSelect l.toArray && t.within l.toArray.size && lexOK .any l.toArray ns l.toArray.size true t (Array.replicate l.toArray.size false)) = true)
    (hQ : ∀ c a d v w, Q (.panic c) (Act.put a d v) w → Q (.panic c) a w) (ht : t.fill l = t') (h : SameOn ok w w.drew → wpLexO P l.toArray (SameOn ok w) Q ns t' a w.drew) : (Code.region id l.toArray true).wp P Q a w :=
  wp_region_lex (SameOn ok w) ns t hm hk hQ ht (SameOn.refl hB) (h (SameOn.refl hB))

theorem wp_append_N2 {α : Type} {E : Elem α} {o : Oper} {a : Act} {w : World} {K : Act → World → Prop} {Q : Exit → Act → World → Prop} (s x : Operand) (t e : TypeId) (z : Value) (bytes : Nat)
    (ho : o.op = .call { callee := .builtin .append, args := #[s, x], argTypes := #[t, t] }) (ht : Tryz.prog.underlying t = some (.slice e))
    (hi : (Tryz.prog.info? e).map (fun i => (i.zero, i.size, i.bytes)) = some (some z, E.size, bytes)) (hz : z.cells.size = E.size) (hs0 : 0 < E.size) (hby : bytes ≤ 1000)
    {base : Nat} {ok : Nat → Prop} {v : Value} {xs : List α} (h : Rows E w base ok e v xs) (N : Nat) (hN : ∀ k, v.ownBlock = some k → k < N) (hs : a.eval s = v) {g c : Nat} (hx : a.eval x = .slice (some ⟨g, 0, none⟩) 1 c) {cs : List Value} {y : α}
    (hcs : ∀ j u, cs[j]? = some u → w.cell? ⟨g, j, none⟩ = some u) (hR : E.R w (fun b => ok b ∧ (b < base ∨ N ≤ b)) cs y) (hlen : xs.length ≤ 2147483648) (hbase : base ≤ w.heap.size)
    (hK : ∀ q c w', Rows E w' base ok e (.slice (some ⟨q, 0, none⟩) (xs.length + 1) c) (xs ++ [y]) → w.heap.size ≤ w'.heap.size → Keeps (fun b => b < base ∨ N ≤ b) w w' → (∀ B w0, B ≤ base → Below B w0 w → Below B w0 w') → K (a.put o.dst (.slice (some ⟨q, 0, none⟩) (xs.length + 1) c)) w') :
    o.wp Tryz.prog a w K Q := by
  refine wp_append_rows s x t e z bytes ho ht hi hz hs0 hby hs h hx hcs (E.imp _ _ _ _ _ (fun b _ hb => ⟨hb.1, fun he => ?_⟩) hR) hlen hbase (fun q c w' r g _ b => hK q c w' r g.size (Keeps.of_grown g fun b hb he => ?_) b)
  · have h1 := hN b he.symm
    have h2 := (h.own b he.symm).1
    rcases hb.2 with h3 | h3 <;> omega
  · have h1 := hN b he.symm
    have h2 := (h.own b he.symm).1
    rcases hb with h3 | h3 <;> omega
end Go.Proofs.YtmpifdanfnebpaaGreat
