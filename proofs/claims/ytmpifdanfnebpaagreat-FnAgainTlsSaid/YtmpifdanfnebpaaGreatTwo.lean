/-
  A walk that appends to two lists of a struct: parts, and bytes; an append, with all that it leaves.
-/
import Derived.Test.YtmpifdanfnebpaaGreatApp
import Derived.Test.YtmpifdanfnebpaaGreatOn
namespace Go.Proofs.YtmpifdanfnebpaaGreat
open Go Go.RowKit

theorem Rows.keeps2 {α : Type} {E : Elem α} {w w' : World} {base : Nat} {ok : Nat → Prop} {e : TypeId} {v : Value} {xs : List α} (h : Rows E w base ok e v xs) (k : Keeps (fun b => ok b ∨ v.ownBlock = some b) w w') : Rows E w' base ok e v xs := by
  obtain ⟨css, h1, h2, h3⟩ := h
  exact ⟨css, h1, ownsRow_keeps h2 k (fun b hb => .inr hb), fun j cs x hc hx => E.keeps _ _ _ _ _ (k.imp fun b hb => .inl hb.1) (h3 j cs x hc hx)⟩

/-- append of one element: all that it leaves. -/
theorem wp_append_all {α : Type} {E : Elem α} {o : Oper} {a : Act} {w : World} {K : Act → World → Prop} {Q : Exit → Act → World → Prop} (s x : Operand) (t e : TypeId) (z : Value) (bytes : Nat)
    (ho : o.op = .call { callee := .builtin .append, args := #[s, x], argTypes := #[t, t] }) (ht : Tryz.prog.underlying t = some (.slice e))
    (hi : (Tryz.prog.info? e).map (fun i => (i.zero, i.size, i.bytes)) = some (some z, E.size, bytes)) (hz : z.cells.size = E.size) (hs0 : 0 < E.size) (hby : bytes ≤ 1000)
    {base : Nat} {ok : Nat → Prop} {v : Value} {xs : List α} (hs : a.eval s = v) (h : Rows E w base ok e v xs) {g c : Nat} (hx : a.eval x = .slice (some ⟨g, 0, none⟩) 1 c) {cs : List Value} {y : α}
    (hcs : ∀ j u, cs[j]? = some u → w.cell? ⟨g, j, none⟩ = some u) (hR : E.R w (fun b => ok b ∧ some b ≠ v.ownBlock) cs y) (hlen : xs.length ≤ 2147483648) (hbase : base ≤ w.heap.size)
    (hK : ∀ q c w', Rows E w' base ok e (.slice (some ⟨q, 0, none⟩) (xs.length + 1) c) (xs ++ [y]) → w.grownBy w' v.ownBlock → ((Value.slice (some ⟨q, 0, none⟩) (xs.length + 1) c).ownBlock = v.ownBlock ∨ (Value.slice (some ⟨q, 0, none⟩) (xs.length + 1) c).ownBlock = some w.heap.size) → K (a.put o.dst (.slice (some ⟨q, 0, none⟩) (xs.length + 1) c)) w') :
    o.wp Tryz.prog a w K Q := by
  obtain ⟨i0, hi0, hz0, hz1, hz2⟩ := info_parts hi
  obtain ⟨css, h1, h2, h3⟩ := h
  have hnb : (xs.length + 1) * bytes ≤ 140737488355328 := Nat.le_trans (Nat.mul_le_mul (by omega : xs.length + 1 ≤ 2147483649) hby) (by decide)
  have hnews : ∀ j u, cs[j]? = some u → w.cell? ((⟨g, 0, none⟩ : Addr).add j) = some u := by
    intro j u hu
    have := hcs j u hu
    unfold Addr.add
    split
    · rename_i hj; subst hj; exact this
    · simpa using this
  obtain ⟨v', w', hr, ho', hg, hnil, ha⟩ := run_append_own_at (P := Tryz.prog) w base t o.type e i0 z E.size bytes ht hi0 hz0 hz1 hz2 hz hs0 v xs.length css.flatten h2 ⟨g, 0, none⟩ 1 c cs (by rw [E.len _ _ _ _ hR]; omega) hnews (E.one _ _ _ _ hR) (by unfold maxLen; omega) hnb hbase
  have hS := Rows.snoc h1 h3 hR ho' hg ha
  have hf : ∃ q c, v' = .slice (some ⟨q, 0, none⟩) (xs.length + 1) c := by
    rcases ho'.2 with ⟨_, h0⟩ | ⟨q, cap, cur, rfl, _⟩
    · omega
    · exact ⟨_, _, rfl⟩
  obtain ⟨q, c', rfl⟩ := hf
  unfold Oper.wp execOp
  simp only [ho, resolve, invoke, builtin, Sem.run_bind, Sem.run_pure, Result.andThen_ok, List.map_toArray, List.map_cons, List.map_nil, hs, hx, hr]
  exact hK q c' w' hS hg ha

/-- The state of a walk that appends to the parts and to the payload of a layer at L: all but these is as in W. -/
structure Fills2 (W wr : World) (L base : Nat) (ok : Nat → Prop) (v : Value) (ps : List (List Int × List Int)) (pv : Value) (ds : List Int) : Prop where
  lt : L < base
  le : base ≤ wr.heap.size
  parts : wr.cell? ⟨L, 2, none⟩ = some v
  pay : wr.cell? ⟨L, 3, none⟩ = some pv
  froz : ∀ j, wr.frozen? ⟨L, j, none⟩ = false
  other : ∀ j u, j ≠ 2 → j ≠ 3 → W.cell? ⟨L, j, none⟩ = some u → wr.cell? ⟨L, j, none⟩ = some u
  rows : Rows eP wr base (fun b => ok b ∧ pv.ownBlock ≠ some b) 44 v ps
  own : wr.ownsRow base 5 1 pv ds.length (ds.map (.int .u8))
  ne : ∀ k, pv.ownBlock = some k → v.ownBlock ≠ some k
  keep : Keeps (fun b => b < base ∧ b ≠ L) W wr
  below : ∀ B w0, B ≤ L → Below B w0 W → Below B w0 wr

theorem Fills2.start {W : World} {L base : Nat} {ok : Nat → Prop} (hL : L < base) (hb : base ≤ W.heap.size) (hc : W.cell? ⟨L, 2, none⟩ = some (.slice none 0 0)) (hp : W.cell? ⟨L, 3, none⟩ = some (.slice none 0 0)) (hf : ∀ j, W.frozen? ⟨L, j, none⟩ = false) :
    Fills2 W W L base ok (.slice none 0 0) [] (.slice none 0 0) [] :=
  ⟨hL, hb, hc, hp, hf, fun _ _ _ _ h => h, Rows.nil _ _ _ _ _, World.ownsRow_nil _ _ _ _, fun k h => (by cases h), Keeps.refl _ _, fun _ _ _ h => h⟩

theorem grown_keeps {w w' : World} {v : Value} {N : Nat} (h : w.grownBy w' v.ownBlock) (hv : ∀ k, v.ownBlock = some k → N ≤ k) : Keeps (fun b => b < N) w w' :=
  Keeps.of_grown h fun b hb he => by have := hv b he.symm; omega

theorem Fills2.step {W wr w4 w5 : World} {L base : Nat} {ok : Nat → Prop} {v v' pv : Value} {ps : List (List Int × List Int)} {ds : List Int} {p : List Int × List Int} (h : Fills2 W wr L base ok v ps pv ds) (hok : ∀ b, ok b → b ≠ L) (h4 : Below wr.heap.size wr w4)
    (hr : Rows eP w5 base (fun b => ok b ∧ pv.ownBlock ≠ some b) 44 v' (ps ++ [p])) (hg : w4.grownBy w5 v.ownBlock) (ha : v'.ownBlock = v.ownBlock ∨ v'.ownBlock = some w4.heap.size) :
    Fills2 W (w5.setCell ⟨L, 2, none⟩ v') L base ok v' (ps ++ [p]) pv ds := by
  have hL : L < wr.heap.size := Nat.lt_of_lt_of_le h.lt h.le
  have hvo := h.rows.own
  have hpo := h.own.lt
  have hs := hg.size
  have k4 : Keeps (fun b => b < base) wr w5 := (Keeps.of_below h4).trans (grown_keeps hg fun k hk => (hvo k hk).1)
  have hc : w5.cell? ⟨L, 2, none⟩ = some v := k4.cell h.lt h.parts
  have kp : Keeps (fun b => pv.ownBlock = some b) wr w5 := (Keeps.of_below h4).trans (Keeps.of_grown hg fun b hb he => h.ne b hb he.symm)
  have kset : Keeps (fun b => b ≠ L) w5 (w5.setCell ⟨L, 2, none⟩ v') := (Keeps.refl _ _).setCell (by simp) _
  refine ⟨h.lt, ?_, ?_, ?_, ?_, ?_, hr.keeps2 ?_, ?_, ?_, ?_, ?_⟩
  · simp
    exact Nat.le_trans h.le (Nat.le_trans h4.size hs)
  · rw [World.cell?_setCell_same _ _ _ hc]
  · rw [World.cell?_setCell_other _ _ _ _ (by simp)]
    exact k4.cell h.lt h.pay
  · intro j
    rw [World.frozen?_setCell]
    exact k4.frozen h.lt hL (h.froz j)
  · intro j u hj hj3 hu
    rw [World.cell?_setCell_other _ _ _ _ (by simp)]
    exact k4.cell h.lt (h.other j u hj hj3 hu)
  · refine kset.imp fun b hb => ?_
    rcases hb with hb | hb
    · exact hok b hb.1
    · have := (hr.own b hb).1
      have := h.lt
      omega
  · exact ownsRow_keeps (ownsRow_keeps h.own kp fun b hb => hb) kset fun b hb => by have := (hpo b hb).1; have := h.lt; omega
  · intro k hk
    rcases ha with ha | ha
    · rw [ha]; exact h.ne k hk
    · rw [ha]
      intro e
      have := (hpo k hk).2
      have := h4.size
      simp at e
      omega
  · exact (h.keep.trans (k4.imp fun b hb => hb.1)).setCell (fun h1 => h1.2 rfl) _
  · intro B w0 hB hw
    have h1 : Below B w0 w4 := (h.below B w0 hB hw).trans (h4.mono (Nat.le_trans hB (Nat.le_of_lt hL)))
    exact (h1.grown hg (by have := h4.size; omega) (fun k hk => by have := (hvo k hk).1; have := h.lt; omega)).setCell hB _

theorem Fills2.more {W wr w4 w5 : World} {L base : Nat} {ok : Nat → Prop} {v pv pv' : Value} {ps : List (List Int × List Int)} {ds d : List Int} (h : Fills2 W wr L base ok v ps pv ds) (hok : ∀ b, ok b → b ≠ L) (h4 : Below wr.heap.size wr w4)
    (hr : w5.ownsRow base 5 1 pv' (ds ++ d).length ((ds ++ d).map (.int .u8))) (hg : w4.grownBy w5 pv.ownBlock) (ha : pv'.ownBlock = pv.ownBlock ∨ pv'.ownBlock = some w4.heap.size) :
    Fills2 W (w5.setCell ⟨L, 3, none⟩ pv') L base ok v ps pv' (ds ++ d) := by
  have hL : L < wr.heap.size := Nat.lt_of_lt_of_le h.lt h.le
  have hvo := h.rows.own
  have hpo := h.own.lt
  have hs := hg.size
  have k4 : Keeps (fun b => b < base) wr w5 := (Keeps.of_below h4).trans (grown_keeps hg fun k hk => (hpo k hk).1)
  have hc : w5.cell? ⟨L, 3, none⟩ = some pv := k4.cell h.lt h.pay
  have kset : Keeps (fun b => b ≠ L) w5 (w5.setCell ⟨L, 3, none⟩ pv') := (Keeps.refl _ _).setCell (by simp) _
  have r4 : Rows eP w4 base (fun b => (ok b ∧ pv.ownBlock ≠ some b) ∧ b < w4.heap.size) 44 v ps := (h.rows.keeps2 (Keeps.of_below h4)).imp (Nat.le_refl _) (fun b hl hb => ⟨hb, hl⟩)
  have r5 : Rows eP w5 base (fun b => (ok b ∧ pv.ownBlock ≠ some b) ∧ b < w4.heap.size) 44 v ps := by
    refine r4.keeps2 (Keeps.of_grown hg fun b hb he => ?_)
    rcases hb with hb | hb
    · exact hb.1.2 he.symm
    · exact h.ne b he.symm hb
  have hsep : ∀ b, b < w4.heap.size → pv.ownBlock ≠ some b → pv'.ownBlock ≠ some b := by
    intro b hb hn
    rcases ha with ha | ha
    · rw [ha]; exact hn
    · rw [ha]
      intro e
      simp at e
      omega
  have r6 : Rows eP w5 base (fun b => ok b ∧ pv'.ownBlock ≠ some b) 44 v ps := r5.imp (Nat.le_refl _) (fun b _ hb => ⟨hb.1.1, hsep b hb.2 hb.1.2⟩)
  refine ⟨h.lt, ?_, ?_, ?_, ?_, ?_, r6.keeps2 ?_, ?_, ?_, ?_, ?_⟩
  · simp
    exact Nat.le_trans h.le (Nat.le_trans h4.size hs)
  · rw [World.cell?_setCell_other _ _ _ _ (by simp)]
    exact k4.cell h.lt h.parts
  · rw [World.cell?_setCell_same _ _ _ hc]
  · intro j
    rw [World.frozen?_setCell]
    exact k4.frozen h.lt hL (h.froz j)
  · intro j u hj hj3 hu
    rw [World.cell?_setCell_other _ _ _ _ (by simp)]
    exact k4.cell h.lt (h.other j u hj hj3 hu)
  · refine kset.imp fun b hb => ?_
    rcases hb with hb | hb
    · exact hok b hb.1
    · have := (hvo b hb).1
      have := h.lt
      omega
  · exact ownsRow_keeps hr kset fun b hb => by
      rcases ha with ha | ha
      · have := (hpo b (ha ▸ hb)).1
        have := h.lt
        omega
      · rw [ha] at hb
        simp at hb
        have := h4.size
        omega
  · intro k hk hv
    rcases ha with ha | ha
    · exact h.ne k (ha ▸ hk) hv
    · rw [ha] at hk
      have := (hvo k hv).2
      have := h4.size
      simp at hk
      omega
  · exact (h.keep.trans (k4.imp fun b hb => hb.1)).setCell (fun h1 => h1.2 rfl) _
  · intro B w0 hB hw
    have h1 : Below B w0 w4 := (h.below B w0 hB hw).trans (h4.mono (Nat.le_trans hB (Nat.le_of_lt hL)))
    exact (h1.grown hg (by have := h4.size; omega) (fun k hk => by have := (hpo k hk).1; have := h.lt; omega)).setCell hB _

theorem Fills2.lay {W wr : World} {L base : Nat} {ok ok2 ok' : Nat → Prop} {v nv dv pv : Value} {ps : List (List Int × List Int)} {nums : List Int} {data : List (List Int)} {ds : List Int} (h : Fills2 W wr L base ok v ps pv ds) (hB : base = W.heap.size)
    (hn : SN W ok2 nv nums) (hd : SD W ok2 dv data) (hL : ∀ b, ok2 b → b ≠ L) (h1 : ∀ b, base ≤ b → ok' b) (h2 : ∀ b, ok b → ok' b) (h3 : ∀ b, ok2 b → ok' b) : LayOn wr ok' (.agg #[nv, dv, v, pv]) ⟨nums, data, ps, ds⟩ := by
  have hi : ∀ b, b < W.heap.size → ok2 b → (b < base ∧ b ≠ L) ∧ ok2 b := fun b hb ho => ⟨⟨hB ▸ hb, hL b ho⟩, ho⟩
  have hk : Keeps (fun b => (b < base ∧ b ≠ L) ∧ ok2 b) W wr := h.keep.imp fun b hb => hb.1
  exact ⟨nv, dv, v, pv, rfl, ((hn.imp hi).keeps hk).imp fun b _ hb => h3 b hb.2, ((hd.imp hi).keeps hk).imp fun b _ hb => h3 b hb.2, h.rows.sp (fun b _ hb => h1 b hb) (fun b _ hb => h2 b hb.1), (SB.own h.own).imp fun b _ hb => h1 b hb.1⟩
end Go.Proofs.YtmpifdanfnebpaaGreat
