/-
  append of one element to a list that a walk builds.
-/
import Derived.Test.YtmpifdanfnebpaaGreatList
import Derived.Test.YtmpifdanfnebpaaGreatTo
import Derived.Test.YtmpifdanfnebpaaGreatSpec
namespace Go.Proofs.YtmpifdanfnebpaaGreat
open Go Go.RowKit

theorem Keeps.cell {ok : Nat → Prop} {w w' : World} (k : Keeps ok w w') {b j : Nat} (ho : ok b) {u : Value} (h : w.cell? ⟨b, j, none⟩ = some u) : w'.cell? ⟨b, j, none⟩ = some u :=
  (World.cell?_of_block (w := w) (k.block b ho (World.block_lt_of_cell? _ _ h))).trans h
theorem Keeps.frozen {ok : Nat → Prop} {w w' : World} (k : Keeps ok w w') {b j : Nat} (ho : ok b) (hb : b < w.heap.size) (h : w.frozen? ⟨b, j, none⟩ = false) : w'.frozen? ⟨b, j, none⟩ = false :=
  (World.frozen?_of_block (w := w) (k.block b ho hb)).trans h

theorem Rows.own {α : Type} {E : Elem α} {w : World} {base : Nat} {ok : Nat → Prop} {e : TypeId} {v : Value} {xs : List α} (h : Rows E w base ok e v xs) : ∀ k, v.ownBlock = some k → base ≤ k ∧ k < w.heap.size := by
  obtain ⟨css, _, h2, _⟩ := h
  exact h2.lt

theorem wp_append_N {α : Type} {E : Elem α} {o : Oper} {a : Act} {w : World} {K : Act → World → Prop} {Q : Exit → Act → World → Prop} (s x : Operand) (t e : TypeId) (z : Value) (bytes : Nat)
    (ho : o.op = .call { callee := .builtin .append, args := #[s, x], argTypes := #[t, t] }) (ht : Tryz.prog.underlying t = some (.slice e))
    (hi : (Tryz.prog.info? e).map (fun i => (i.zero, i.size, i.bytes)) = some (some z, E.size, bytes)) (hz : z.cells.size = E.size) (hs0 : 0 < E.size) (hby : bytes ≤ 1000)
    {base : Nat} {ok : Nat → Prop} {v : Value} {xs : List α} (h : Rows E w base ok e v xs) (N : Nat) (hN : ∀ k, v.ownBlock = some k → k < N) (hs : a.eval s = v) {g c : Nat} (hx : a.eval x = .slice (some ⟨g, 0, none⟩) 1 c) {cs : List Value} {y : α}
    (hcs : ∀ j u, cs[j]? = some u → w.cell? ⟨g, j, none⟩ = some u) (hR : E.R w (fun b => ok b ∧ (b < base ∨ N ≤ b)) cs y) (hlen : xs.length ≤ 2147483648) (hbase : base ≤ w.heap.size)
    (hK : ∀ q c w', Rows E w' base ok e (.slice (some ⟨q, 0, none⟩) (xs.length + 1) c) (xs ++ [y]) → w.heap.size ≤ w'.heap.size → Keeps (fun b => b < base) w w' → (∀ B w0, B ≤ base → Below B w0 w → Below B w0 w') → K (a.put o.dst (.slice (some ⟨q, 0, none⟩) (xs.length + 1) c)) w') :
    o.wp Tryz.prog a w K Q := by
  refine wp_append_rows s x t e z bytes ho ht hi hz hs0 hby hs h hx hcs (E.imp _ _ _ _ _ (fun b _ hb => ⟨hb.1, fun he => ?_⟩) hR) hlen hbase (fun q c w' r g k b => hK q c w' r g.size k b)
  have h1 := hN b he.symm
  have h2 := (h.own b he.symm).1
  rcases hb.2 with h3 | h3 <;> omega

theorem infoPart : (Tryz.prog.info? 44).map (fun i => (i.zero, i.size, i.bytes)) = some (some (.agg #[.slice none 0 0, .slice none 0 0]), 2, 48) := by kernel_rfl
theorem infoIP : (Tryz.prog.info? 84).map (fun i => (i.zero, i.size, i.bytes)) = some (some (.slice none 0 0), 1, 24) := by kernel_rfl

/-- The state of a walk that appends to the parts of a layer at L: all but its parts is as in W. -/
structure Fills (W wr : World) (L base : Nat) (ok : Nat → Prop) (v : Value) (ps : List (List Int × List Int)) : Prop where
  lt : L < base
  le : base ≤ wr.heap.size
  parts : wr.cell? ⟨L, 2, none⟩ = some v
  froz : ∀ j, wr.frozen? ⟨L, j, none⟩ = false
  other : ∀ j u, j ≠ 2 → W.cell? ⟨L, j, none⟩ = some u → wr.cell? ⟨L, j, none⟩ = some u
  rows : Rows eP wr base ok 44 v ps
  keep : Keeps (fun b => b < base ∧ b ≠ L) W wr
  below : ∀ B w0, B ≤ L → Below B w0 W → Below B w0 wr

theorem Fills.start {W : World} {L base : Nat} {ok : Nat → Prop} (hL : L < base) (hb : base ≤ W.heap.size) (hc : W.cell? ⟨L, 2, none⟩ = some (.slice none 0 0)) (hf : ∀ j, W.frozen? ⟨L, j, none⟩ = false) : Fills W W L base ok (.slice none 0 0) [] :=
  ⟨hL, hb, hc, hf, fun _ _ _ h => h, Rows.nil _ _ _ _ _, Keeps.refl _ _, fun _ _ _ h => h⟩

/-- One more part: what lies between leaves all old blocks as they were, the append turns the row alone, then the parts of L are written. -/
theorem Fills.step {W wr w4 w5 : World} {L base : Nat} {ok : Nat → Prop} {v v' : Value} {ps : List (List Int × List Int)} {p : List Int × List Int} (h : Fills W wr L base ok v ps) (hok : ∀ b, ok b → b ≠ L) (h4 : Below wr.heap.size wr w4)
    (hr : Rows eP w5 base ok 44 v' (ps ++ [p])) (hs : w4.heap.size ≤ w5.heap.size) (hk : Keeps (fun b => b < base) w4 w5) (hb : ∀ B w0, B ≤ base → Below B w0 w4 → Below B w0 w5) :
    Fills W (w5.setCell ⟨L, 2, none⟩ v') L base ok v' (ps ++ [p]) := by
  have hL : L < wr.heap.size := Nat.lt_of_lt_of_le h.lt h.le
  have k4 : Keeps (fun b => b < base) wr w5 := (Keeps.of_below h4).trans hk
  have hc : w5.cell? ⟨L, 2, none⟩ = some v := k4.cell h.lt h.parts
  refine ⟨h.lt, ?_, ?_, ?_, ?_, hr.keeps ?_, ?_, ?_⟩
  · simp
    exact Nat.le_trans h.le (Nat.le_trans h4.size hs)
  · rw [World.cell?_setCell_same _ _ _ hc]
  · intro j
    rw [World.frozen?_setCell]
    exact k4.frozen h.lt hL (h.froz j)
  · intro j u hj hu
    rw [World.cell?_setCell_other _ _ _ _ (by simp)]
    exact k4.cell h.lt (h.other j u hj hu)
  · refine (Keeps.refl _ _).setCell ?_ _
    rintro (h1 | h1)
    · exact hok _ h1 rfl
    · exact absurd h.lt (Nat.not_lt.2 h1)
  · refine Keeps.setCell (h.keep.trans (k4.imp fun b hb => hb.1)) ?_ _
    exact fun h1 => h1.2 rfl
  · intro B w0 hB hw
    exact (hb B w0 (Nat.le_trans hB (Nat.le_of_lt h.lt)) ((h.below B w0 hB hw).trans (h4.mono (Nat.le_trans hB (Nat.le_of_lt hL))))).setCell hB _

theorem Fills.lay {W wr : World} {L base : Nat} {ok ok2 ok' : Nat → Prop} {v nv dv pv : Value} {ps : List (List Int × List Int)} {nums : List Int} {data : List (List Int)} {pay : List Int} (h : Fills W wr L base ok v ps) (hB : base = W.heap.size)
    (hn : SN W ok2 nv nums) (hd : SD W ok2 dv data) (hp : SB W ok2 pv pay) (hL : ∀ b, ok2 b → b ≠ L) (h1 : ∀ b, base ≤ b → ok' b) (h2 : ∀ b, ok b → ok' b) (h3 : ∀ b, ok2 b → ok' b) : LayOn wr ok' (.agg #[nv, dv, v, pv]) ⟨nums, data, ps, pay⟩ := by
  have hi : ∀ b, b < W.heap.size → ok2 b → (b < base ∧ b ≠ L) ∧ ok2 b := fun b hb ho => ⟨⟨hB ▸ hb, hL b ho⟩, ho⟩
  have hk : Keeps (fun b => (b < base ∧ b ≠ L) ∧ ok2 b) W wr := h.keep.imp fun b hb => hb.1
  exact ⟨nv, dv, v, pv, rfl, ((hn.imp hi).keeps hk).imp fun b _ hb => h3 b hb.2, ((hd.imp hi).keeps hk).imp fun b _ hb => h3 b hb.2, h.rows.sp (fun b _ hb => h1 b hb) (fun b _ hb => h2 b hb), ((hp.imp hi).keeps hk).imp fun b _ hb => h3 b hb.2⟩

theorem SameTo.keeps {B : Nat} {W w w' : World} (h : SameTo B W w) (k : Keeps (fun b => b < B) w w') : SameTo B W w' :=
  ⟨Nat.le_trans h.1 k.size, fun b j hb => (World.cell?_of_block (w := w) (k.block b hb (Nat.lt_of_lt_of_le hb h.1))).trans (h.2 b j hb)⟩
theorem range_snoc {α : Type} (f : Nat → α) (k : Nat) : (List.range k).map f ++ [f k] = (List.range (k + 1)).map f := by simp [List.range_succ]

/-- The world ahead of a piece of code, known by some facts alone. -/
theorem wp_gen {P : Program} {c : Code} {Q : Exit → Act → World → Prop} {a : Act} {w : World} (F : World → Prop) (h : F w) (hP : ∀ W, F W → c.wp P Q a W) : c.wp P Q a w := hP w h
end Go.Proofs.YtmpifdanfnebpaaGreat
