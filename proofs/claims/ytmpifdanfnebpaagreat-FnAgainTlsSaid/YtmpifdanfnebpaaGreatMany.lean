/-
  append of one element as the next operation of a list; of numbers; of a whole list of parts.
-/
import Derived.Test.YtmpifdanfnebpaaGreatMulti
import Derived.Test.YtmpifdanfnebpaaGreatTls
namespace Go.Proofs.YtmpifdanfnebpaaGreat
open Go Go.RowKit

theorem wpList_append_all {α : Type} {E : Elem α} {ops : Array Oper} {rest : List Oper} {o : Oper} {a : Act} {w : World} {Q : Exit → Act → World → Prop} (hgd : o.guard = none) (s x : Operand) (t e : TypeId) (z : Value) (bytes : Nat)
    (ho : o.op = .call { callee := .builtin .append, args := #[s, x], argTypes := #[t, t] }) (ht : Tryz.prog.underlying t = some (.slice e))
    (hi : (Tryz.prog.info? e).map (fun i => (i.zero, i.size, i.bytes)) = some (some z, E.size, bytes)) (hz : z.cells.size = E.size) (hs0 : 0 < E.size) (hby : bytes ≤ 1000)
    {base : Nat} {ok : Nat → Prop} {v : Value} {xs : List α} (hs : a.eval s = v) (h : Rows E w base ok e v xs) {g c : Nat} (hx : a.eval x = .slice (some ⟨g, 0, none⟩) 1 c) {cs : List Value} {y : α}
    (hcs : ∀ j u, cs[j]? = some u → w.cell? ⟨g, j, none⟩ = some u) (hR : E.R w (fun b => ok b ∧ some b ≠ v.ownBlock) cs y) (hlen : xs.length ≤ 2147483648) (hbase : base ≤ w.heap.size)
    (hK : ∀ q c w', Hid (Rows E w' base ok e (.slice (some ⟨q, 0, none⟩) (xs.length + 1) c) (xs ++ [y])) → Hid (w.grownBy w' v.ownBlock) → Hid ((Value.slice (some ⟨q, 0, none⟩) (xs.length + 1) c).ownBlock = v.ownBlock ∨ (Value.slice (some ⟨q, 0, none⟩) (xs.length + 1) c).ownBlock = some w.heap.size) →
      wpList Tryz.prog ops Q rest (a.put o.dst (.slice (some ⟨q, 0, none⟩) (xs.length + 1) c)) w') : wpList Tryz.prog ops Q (o :: rest) a w :=
  wpList_plain hgd fun _ hK' => wp_append_all s x t e z bytes ho ht hi hz hs0 hby hs h hx hcs hR hlen hbase fun q c w' r g k => hK' _ _ (hK q c w' (Lib.hid r) (Lib.hid g) (Lib.hid k))

theorem info64 : (Tryz.prog.info? 39).map (fun i => (i.zero, i.size, i.bytes)) = some (some (.int .u64 0), 1, 8) := by kernel_rfl

/-- append of numbers, as one operation. -/
theorem wp_append_nums {o : Oper} {a : Act} {w : World} {K : Act → World → Prop} {Q : Exit → Act → World → Prop} (s x : Operand)
    (ho : o.op = .call { callee := .builtin .append, args := #[s, x], argTypes := #[25, 25] })
    {base : Nat} {v : Value} {n : Nat} {xs : List Value} (hs : a.eval s = v) (hown : w.ownsRow base 39 1 v n xs) {g m c : Nat} (hx : a.eval x = .slice (some ⟨g, 0, none⟩) m c) {ys : List Value} (hm : ys.length = m)
    (hcs : ∀ j u, ys[j]? = some u → w.cell? ⟨g, j, none⟩ = some u) (h1 : ∀ u ∈ ys, u.oneCell' = true) (hlen : n + m ≤ 1000) (hbase : base ≤ w.heap.size)
    (hK : ∀ p' c' w', Hid (w'.ownsRow base 39 1 (.slice p' (n + m) c') (n + m) (xs ++ ys)) → Hid (w.grownBy w' v.ownBlock) → Hid ((Value.slice p' (n + m) c').ownBlock = v.ownBlock ∨ (Value.slice p' (n + m) c').ownBlock = some w.heap.size) → K (a.put o.dst (.slice p' (n + m) c')) w') :
    o.wp Tryz.prog a w K Q := by
  obtain ⟨i0, hi, hz0, hz1, hz2⟩ := info_parts info64
  have hnews : ∀ j u, ys[j]? = some u → w.cell? ((⟨g, 0, none⟩ : Addr).add j) = some u := by
    intro j u hu
    have := hcs j u hu
    unfold Addr.add
    split
    · rename_i hj; subst hj; exact this
    · simpa using this
  obtain ⟨v', w', hr, ho', hg, hnil, ha⟩ := run_append_own_at (P := Tryz.prog) w base 25 o.type 39 i0 (.int .u64 0) 1 8 Tryz.underlying25 hi hz0 hz1 hz2 rfl (by decide) v n xs hown ⟨g, 0, none⟩ m c ys (by omega) hnews h1 (by unfold maxLen; omega) (by omega) hbase
  have hf : ∃ p c, v' = .slice p (n + m) c := by
    rcases ho'.2 with ⟨rfl, h0⟩ | ⟨q, cap, cur, rfl, _⟩
    · exact ⟨none, 0, by rw [h0]⟩
    · exact ⟨_, _, rfl⟩
  obtain ⟨p', c', rfl⟩ := hf
  unfold Oper.wp execOp
  simp only [ho, resolve, invoke, builtin, Sem.run_bind, Sem.run_pure, Result.andThen_ok, List.map_toArray, List.map_cons, List.map_nil, hs, hx, hr]
  exact hK p' c' w' (Lib.hid ho') (Lib.hid hg) (Lib.hid ha)
theorem wpList_append_nums {ops : Array Oper} {rest : List Oper} {o : Oper} {a : Act} {w : World} {Q : Exit → Act → World → Prop} (hgd : o.guard = none) (s x : Operand)
    (ho : o.op = .call { callee := .builtin .append, args := #[s, x], argTypes := #[25, 25] })
    {base : Nat} {v : Value} {n : Nat} {xs : List Value} (hs : a.eval s = v) (hown : w.ownsRow base 39 1 v n xs) {g m c : Nat} (hx : a.eval x = .slice (some ⟨g, 0, none⟩) m c) {ys : List Value} (hm : ys.length = m)
    (hcs : ∀ j u, ys[j]? = some u → w.cell? ⟨g, j, none⟩ = some u) (h1 : ∀ u ∈ ys, u.oneCell' = true) (hlen : n + m ≤ 1000) (hbase : base ≤ w.heap.size)
    (hK : ∀ p' c' w', Hid (w'.ownsRow base 39 1 (.slice p' (n + m) c') (n + m) (xs ++ ys)) → Hid (w.grownBy w' v.ownBlock) → Hid ((Value.slice p' (n + m) c').ownBlock = v.ownBlock ∨ (Value.slice p' (n + m) c').ownBlock = some w.heap.size) → wpList Tryz.prog ops Q rest (a.put o.dst (.slice p' (n + m) c')) w') :
    wpList Tryz.prog ops Q (o :: rest) a w :=
  wpList_plain hgd fun _ hK' => wp_append_nums s x ho hs hown hx hm hcs h1 hlen hbase fun p' c' w' r g k => hK' _ _ (hK p' c' w' r g k)

/-- A slice of numbers in a block of its own, as a row. -/
theorem owns_block {w : World} {base b : Nat} {cs : Array Value} {n : Nat} (h : w.heap[b]? = some (.cells cs 39 (0, 0))) (hb : base ≤ b) (hn : cs.size = n) (hm : n ≤ 1000) : w.ownsRow base 39 1 (.slice (some ⟨b, 0, none⟩) n n) n cs.toList :=
  ⟨by simp [hn], .inr ⟨b, n, cs, rfl, hb, h, Nat.le_refl _, by unfold maxLen; omega, by omega, by rw [Nat.mul_one, ← hn, List.take_of_length_le (by simp)]⟩⟩

/-- A row and the elements of another. -/
theorem Rows.append {α : Type} {E : Elem α} {w w' : World} {base : Nat} {ok : Nat → Prop} {e : TypeId} {v v' : Value} {xs ys : List α} {css dss : List (List Value)} (h1 : css.length = xs.length) (g1 : dss.length = ys.length)
    (h3 : ∀ (j : Nat) cs x, css[j]? = some cs → xs[j]? = some x → E.R w (fun b => ok b ∧ some b ≠ v.ownBlock) cs x) (g3 : ∀ (j : Nat) cs x, dss[j]? = some cs → ys[j]? = some x → E.R w (fun b => ok b ∧ some b ≠ v.ownBlock) cs x)
    (ho : w'.ownsRow base e E.size v' (xs.length + ys.length) (css.flatten ++ dss.flatten)) (hg : w.grownBy w' v.ownBlock) (ha : v'.ownBlock = v.ownBlock ∨ v'.ownBlock = some w.heap.size) : Rows E w' base ok e v' (xs ++ ys) := by
  have hm : ∀ cs x, E.R w (fun b => ok b ∧ some b ≠ v.ownBlock) cs x → E.R w' (fun b => ok b ∧ some b ≠ v'.ownBlock) cs x := by
    intro cs x h
    have h' := E.imp _ _ (fun b => (ok b ∧ some b ≠ v'.ownBlock) ∧ some b ≠ v.ownBlock) _ _ (fun b hb hx => ⟨⟨hx.1, ?_⟩, hx.2⟩) h
    · exact E.imp _ _ _ _ _ (fun b _ hb => hb.1) (E.keeps _ _ _ _ _ (Keeps.of_grown hg (fun b hb => hb.2)) h')
    · rcases ha with ha | ha
      · rw [ha]; exact hx.2
      · rw [ha]; intro he; simp at he; omega
  refine ⟨css ++ dss, by simp [h1, g1], by simpa using ho, fun j c x hc hx => ?_⟩
  by_cases hj : j < css.length
  · rw [List.getElem?_append_left hj] at hc
    rw [List.getElem?_append_left (by omega)] at hx
    exact hm _ _ (h3 j c x hc hx)
  · rw [List.getElem?_append_right (by omega)] at hc hx
    rw [h1] at hc
    exact hm _ _ (g3 _ c x hc hx)

/-- append of a whole list, as the next operation of a list. -/
theorem wpList_append_rows2 {α : Type} {E : Elem α} {ops : Array Oper} {rest : List Oper} {o : Oper} {a : Act} {w : World} {Q : Exit → Act → World → Prop} (hgd : o.guard = none) (s x : Operand) (t e : TypeId) (z : Value) (bytes : Nat)
    (ho : o.op = .call { callee := .builtin .append, args := #[s, x], argTypes := #[t, t] }) (ht : Tryz.prog.underlying t = some (.slice e))
    (hi : (Tryz.prog.info? e).map (fun i => (i.zero, i.size, i.bytes)) = some (some z, E.size, bytes)) (hz : z.cells.size = E.size) (hs0 : 0 < E.size) (hby : bytes ≤ 1000)
    {base base2 : Nat} {ok : Nat → Prop} {v u : Value} {xs ys : List α} (hs : a.eval s = v) (h : Rows E w base ok e v xs) (hx : a.eval x = u) (h2 : Rows E w base2 (fun b => ok b ∧ some b ≠ v.ownBlock) e u ys)
    (hlen : xs.length + ys.length ≤ 2147483648) (hbase : base ≤ w.heap.size)
    (hK : ∀ p c w', Hid (Rows E w' base ok e (.slice p (xs.length + ys.length) c) (xs ++ ys)) → Hid (w.grownBy w' v.ownBlock) → Hid ((Value.slice p (xs.length + ys.length) c).ownBlock = v.ownBlock ∨ (Value.slice p (xs.length + ys.length) c).ownBlock = some w.heap.size) →
      wpList Tryz.prog ops Q rest (a.put o.dst (.slice p (xs.length + ys.length) c)) w') : wpList Tryz.prog ops Q (o :: rest) a w := by
  refine wpList_plain hgd fun K hK' => ?_
  obtain ⟨i0, hi0, hz0, hz1, hz2⟩ := info_parts hi
  obtain ⟨css, h1, ho1, h3⟩ := h
  obtain ⟨dss, g1, go1, g3⟩ := h2
  have g3' : ∀ (j : Nat) cs x, dss[j]? = some cs → ys[j]? = some x → E.R w (fun b => ok b ∧ some b ≠ v.ownBlock) cs x := fun j cs x hc hx => E.imp _ _ _ _ _ (fun b _ hb => hb.1) (g3 j cs x hc hx)
  have hnb : (xs.length + ys.length) * bytes ≤ 140737488355328 := Nat.le_trans (Nat.mul_le_mul hlen hby) (by decide)
  have hrun : ∃ v' w', (Builtin.append_ #[t, t] o.type #[v, u]).run Tryz.prog w = .ok v' w' ∧ w'.ownsRow base e E.size v' (xs.length + ys.length) (css.flatten ++ dss.flatten) ∧ w.grownBy w' v.ownBlock ∧ (v'.ownBlock = v.ownBlock ∨ v'.ownBlock = some w.heap.size) := by
    obtain ⟨gl, ⟨rfl, h0⟩ | ⟨g, cap, cur, rfl, hb, hg, hnc, hcm, hcs, ht2⟩⟩ := go1
    · have hys : ys = [] := List.eq_nil_of_length_eq_zero h0
      have hds : dss = [] := List.eq_nil_of_length_eq_zero (by omega)
      subst hys hds
      exact ⟨v, w, run_append_owned_none w base t o.type e i0 E.size ht hi0 _ _ _ ho1, by simpa using ho1, ⟨rfl, rfl, rfl, Nat.le_refl _, fun _ _ _ => rfl⟩, .inl rfl⟩
    · obtain ⟨v', w', hr, ho', hg', hnil, ha⟩ := run_append_own_at (P := Tryz.prog) w base t o.type e i0 z E.size bytes ht hi0 hz0 hz1 hz2 hz hs0 v xs.length css.flatten ho1 ⟨g, 0, none⟩ ys.length cap dss.flatten gl (fun j u hu => by
        have : w.cell? ⟨g, j, none⟩ = some u := by
          simp only [World.cell?, hg]
          rw [← ht2, List.getElem?_take] at hu
          split at hu
          · simpa using hu
          · cases hu
        unfold Addr.add
        split
        · rename_i hj; subst hj; exact this
        · simpa using this) (fun u hu => by
        obtain ⟨cs, hcs, hu⟩ := List.mem_flatten.1 hu
        obtain ⟨j, hj, rfl⟩ := List.getElem_of_mem hcs
        exact E.one _ _ _ _ (g3' j _ ys[j] (by simp [hj]) (by simp)) u hu) (by unfold maxLen; omega) hnb hbase
      exact ⟨v', w', hr, ho', hg', ha⟩
  obtain ⟨v', w', hr, ho', hg, ha⟩ := hrun
  have hS := Rows.append h1 g1 h3 g3' ho' hg ha
  have hf : ∃ q c, v' = .slice q (xs.length + ys.length) c := by
    rcases ho'.2 with ⟨rfl, h0⟩ | ⟨q, cap, cur, rfl, _⟩
    · exact ⟨none, 0, by rw [h0]⟩
    · exact ⟨_, _, rfl⟩
  obtain ⟨q, c', rfl⟩ := hf
  unfold Oper.wp execOp
  simp only [ho, resolve, invoke, builtin, Sem.run_bind, Sem.run_pure, Result.andThen_ok, List.map_toArray, List.map_cons, List.map_nil, hs, hx, hr]
  exact hK' _ _ (hK q c' w' (Lib.hid hS) (Lib.hid hg) (Lib.hid ha))

/-- More parts at once: the append turns the row alone, then the parts of L are written. -/
theorem Fills.many {W wr w5 : World} {L base : Nat} {ok : Nat → Prop} {v v' : Value} {ps qs : List (List Int × List Int)} (h : Fills W wr L base ok v ps) (hok : ∀ b, ok b → b ≠ L)
    (hr : Rows eP w5 base ok 44 v' (ps ++ qs)) (hg : wr.grownBy w5 v.ownBlock) : Fills W (w5.setCell ⟨L, 2, none⟩ v') L base ok v' (ps ++ qs) := by
  have hL : L < wr.heap.size := Nat.lt_of_lt_of_le h.lt h.le
  have hvo := h.rows.own
  have k4 : Keeps (fun b => b < base) wr w5 := grown_keeps hg fun k hk => (hvo k hk).1
  have hc : w5.cell? ⟨L, 2, none⟩ = some v := k4.cell h.lt h.parts
  have kset : Keeps (fun b => b ≠ L) w5 (w5.setCell ⟨L, 2, none⟩ v') := (Keeps.refl _ _).setCell (by simp) _
  refine ⟨h.lt, ?_, ?_, ?_, ?_, hr.keeps2 (kset.imp fun b hb => ?_), ?_, ?_⟩
  · simpa using Nat.le_trans h.le hg.size
  · rw [World.cell?_setCell_same _ _ _ hc]
  · intro j
    rw [World.frozen?_setCell]
    exact k4.frozen h.lt hL (h.froz j)
  · intro j u hj hu
    rw [World.cell?_setCell_other _ _ _ _ (by simp)]
    exact k4.cell h.lt (h.other j u hj hu)
  · rcases hb with hb | hb
    · exact hok b hb
    · have := (hr.own b hb).1
      have := h.lt
      omega
  · exact (h.keep.trans (k4.imp fun b hb => hb.1)).setCell (fun h1 => h1.2 rfl) _
  · intro B w0 hB hw
    have h1 := h.below B w0 hB hw
    exact (h1.grown hg (by omega) (fun k hk => by have := (hvo k hk).1; have := h.lt; omega)).setCell hB _

theorem tOf_upd (rs : List (Nat × (List Int × List Int))) (i : Nat) (p : List Int × List Int) : (fun j => tOf j (rs ++ [(i, p)])) = upd (fun j => tOf j rs) i (tOf i rs ++ [p]) := by
  funext j
  by_cases h : j = i
  · subst h
    rw [upd_same, tOf_snoc_same]
  · rw [upd_other _ _ h, tOf_snoc_other (fun e => h e.symm)]
end Go.Proofs.YtmpifdanfnebpaaGreat
