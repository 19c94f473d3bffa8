/-
  append of bytes to a row of the walk's own; the state of a part that is filled so.
-/
import Derived.Test.YtmpifdanfnebpaaGreatParts
import Derived.Maps.AppendAt
namespace Go.Proofs.YtmpifdanfnebpaaGreat
open Go Go.RowKit

theorem append_types {P : Program} {w : World} {t t2 ty e e2 : TypeId} {b : Option Addr} {n c : Nat} {u : Value} (ht : P.underlying t = some (.slice e)) (ht2 : P.underlying t2 = some (.slice e2)) :
    (Builtin.append_ #[t, t2] ty #[.slice b n c, u]).run P w = (Builtin.append_ #[t, t] ty #[.slice b n c, u]).run P w := by
  simp only [Builtin.append_, List.getElem?_toArray, List.getElem?_cons_zero, List.getElem?_cons_succ, Sem.run_bind, Sem.run_pure, Result.andThen_ok, run_underlying ht, run_underlying ht2]

theorem ownsRow_mono {w : World} {base base' : Nat} {e : TypeId} {size n : Nat} {v : Value} {xs : List Value} (h : w.ownsRow base e size v n xs) (hb : base' ≤ base) : w.ownsRow base' e size v n xs := by
  obtain ⟨hl, h2⟩ := h
  refine ⟨hl, ?_⟩
  rcases h2 with h2 | ⟨g, cap, cur, rfl, hg, r⟩
  · exact .inl h2
  · exact .inr ⟨g, cap, cur, rfl, Nat.le_trans hb hg, r⟩
theorem ownsRow_keeps {w w' : World} {base : Nat} {e : TypeId} {size n : Nat} {v : Value} {xs : List Value} {ok : Nat → Prop} (h : w.ownsRow base e size v n xs) (k : Keeps ok w w') (ho : ∀ b, v.ownBlock = some b → ok b) : w'.ownsRow base e size v n xs := by
  obtain ⟨hl, h2⟩ := h
  refine ⟨hl, ?_⟩
  rcases h2 with h2 | ⟨g, cap, cur, rfl, hb, hg, r⟩
  · exact .inl h2
  · exact .inr ⟨g, cap, cur, rfl, hb, (k.block g (ho g rfl) (Array.getElem?_eq_some_iff.1 hg).1).trans hg, r⟩

/-- append of bytes, as one operation. -/
theorem wp_append_bytes {o : Oper} {a : Act} {w : World} {K : Act → World → Prop} {Q : Exit → Act → World → Prop} (s x : Operand) (t t2 : TypeId)
    (ho : o.op = .call { callee := .builtin .append, args := #[s, x], argTypes := #[t, t2] }) (ht : Tryz.prog.underlying t = some (.slice 5)) (ht2 : Tryz.prog.underlying t2 = some (.slice 5))
    {base : Nat} {v : Value} {ds : List Int} (hs : a.eval s = v) (hown : w.ownsRow base 5 1 v ds.length (ds.map (.int .u8))) {ok : Nat → Prop} {u : Value} {d : List Int} (hx : a.eval x = u) (hd : SB w ok u d)
    (hlen : ds.length + d.length ≤ 140737488355328) (hbase : base ≤ w.heap.size)
    (hK : ∀ p' c' n' w', Hid (w'.ownsRow base 5 1 (.slice p' n' c') (ds ++ d).length ((ds ++ d).map (.int .u8))) → Hid (w.grownBy w' v.ownBlock) → Hid ((Value.slice p' n' c').ownBlock = v.ownBlock ∨ (Value.slice p' n' c').ownBlock = some w.heap.size) → K (a.put o.dst (.slice p' n' c')) w') :
    o.wp Tryz.prog a w K Q := by
  obtain ⟨i0, hi, hz0, hz1, hz2⟩ := info_parts Tryz.infoB
  obtain ⟨p, c, rfl, hnc, hc, hp, hr⟩ := hd
  have hrun : ∃ v' w', (Builtin.append_ #[t, t2] o.type #[v, .slice p d.length c]).run Tryz.prog w = .ok v' w' ∧ w'.ownsRow base 5 1 v' (ds ++ d).length ((ds ++ d).map (.int .u8)) ∧ w.grownBy w' v.ownBlock ∧ (v'.ownBlock = v.ownBlock ∨ v'.ownBlock = some w.heap.size) := by
    obtain ⟨vb, vn, vc, rfl⟩ : ∃ b n c, v = .slice b n c := by
      obtain ⟨_, ⟨rfl, _⟩ | ⟨g, cap, cur, rfl, _⟩⟩ := hown
      · exact ⟨_, _, _, rfl⟩
      · exact ⟨_, _, _, rfl⟩
    rw [append_types ht ht2]
    cases p with
    | none =>
      obtain rfl := hp rfl
      have hd0 : d.length = 0 := by omega
      obtain rfl := List.eq_nil_of_length_eq_zero hd0
      refine ⟨_, w, run_append_owned_none w base t o.type 5 i0 1 ht hi _ ds.length _ hown, by simpa using hown, ⟨rfl, rfl, rfl, Nat.le_refl _, fun _ _ _ => rfl⟩, .inl rfl⟩
    | some ad =>
      obtain ⟨v', w', h1, h2, h3, h4, h5⟩ := run_append_own_at (P := Tryz.prog) w base t o.type 5 i0 (.int .u8 0) 1 1 ht hi hz0 hz1 hz2 rfl (by decide) _ ds.length (ds.map (.int .u8)) hown ad d.length c (d.map (.int .u8)) (by simp) (by
        intro j u hu
        rcases hr with h0 | ⟨b, o, he, _, _, hcell⟩
        · rw [h0] at hu; simp at hu
        · simp only [Option.some.injEq] at he
          subst he
          have := hcell j u hu
          unfold Addr.add
          split
          · rename_i hj; subst hj; exact this
          · exact this) (ints_oneCell .u8 d) (by unfold maxLen; omega) (by omega) hbase
      exact ⟨v', w', h1, by simpa using h2, h3, h5⟩
  obtain ⟨v', w', hr', h2, h3, h4⟩ := hrun
  unfold Oper.wp execOp
  simp only [ho, resolve, invoke, builtin, Sem.run_bind, Sem.run_pure, Result.andThen_ok, List.map_toArray, List.map_cons, List.map_nil, hs, hx, hr']
  have hf : ∃ p' c', v' = .slice p' (ds ++ d).length c' := by
    obtain ⟨_, ⟨rfl, h0⟩ | ⟨g, cap, cur, rfl, _⟩⟩ := id h2
    · exact ⟨none, 0, by rw [h0]⟩
    · exact ⟨_, _, rfl⟩
  obtain ⟨p', c', rfl⟩ := hf
  exact hK p' c' _ w' (Lib.hid h2) (Lib.hid h3) (Lib.hid h4)
theorem wpList_append_bytes {ops : Array Oper} {rest : List Oper} {o : Oper} {a : Act} {w : World} {Q : Exit → Act → World → Prop} (hgd : o.guard = none) (s x : Operand) (t t2 : TypeId)
    (ho : o.op = .call { callee := .builtin .append, args := #[s, x], argTypes := #[t, t2] }) (ht : Tryz.prog.underlying t = some (.slice 5)) (ht2 : Tryz.prog.underlying t2 = some (.slice 5))
    {base : Nat} {v : Value} {ds : List Int} (hs : a.eval s = v) (hown : w.ownsRow base 5 1 v ds.length (ds.map (.int .u8))) {ok : Nat → Prop} {u : Value} {d : List Int} (hx : a.eval x = u) (hd : SB w ok u d)
    (hlen : ds.length + d.length ≤ 140737488355328) (hbase : base ≤ w.heap.size)
    (hK : ∀ p' c' n' w', Hid (w'.ownsRow base 5 1 (.slice p' n' c') (ds ++ d).length ((ds ++ d).map (.int .u8))) → Hid (w.grownBy w' v.ownBlock) → Hid ((Value.slice p' n' c').ownBlock = v.ownBlock ∨ (Value.slice p' n' c').ownBlock = some w.heap.size) → wpList Tryz.prog ops Q rest (a.put o.dst (.slice p' n' c')) w') :
    wpList Tryz.prog ops Q (o :: rest) a w :=
  wpList_plain hgd fun _ hK' => wp_append_bytes s x t t2 ho ht ht2 hs hown hx hd hlen hbase fun p' c' n' w' h1 h2 h3 => hK' _ _ (hK p' c' n' w' h1 h2 h3)

/-- A part at P, its numbers in the block NB, its bytes in a row of its own: all made behind the world wr and its block B that holds cp. -/
structure PartAt (wr wx : World) (cp : Obj) (P NB : Nat) (nums : List Int) (v : Value) (ds : List Int) : Prop where
  lP : wr.heap.size < P
  lN : wr.heap.size < NB
  ne : P ≠ NB
  below : Below wr.heap.size wr wx
  copy : wx.heap[wr.heap.size]? = some cp
  nb : wx.heap[NB]? = some (.cells (nums.map (.int .u64)).toArray 39 (0, 0))
  c0 : wx.cell? ⟨P, 0, none⟩ = some (.slice (some ⟨NB, 0, none⟩) nums.length nums.length)
  c1 : wx.cell? ⟨P, 1, none⟩ = some v
  fr : ∀ j, wx.frozen? ⟨P, j, none⟩ = false
  own : wx.ownsRow (wr.heap.size + 1) 5 1 v ds.length (ds.map (.int .u8))
  off : ∀ k, v.ownBlock = some k → k ≠ P ∧ k ≠ NB

theorem PartAt.step {wr wx w' : World} {cp : Obj} {P NB : Nat} {nums : List Int} {v v' : Value} {ds ds' : List Int} (h : PartAt wr wx cp P NB nums v ds)
    (ho : w'.ownsRow (wr.heap.size + 1) 5 1 v' ds'.length (ds'.map (.int .u8))) (hg : wx.grownBy w' v.ownBlock) (ha : v'.ownBlock = v.ownBlock ∨ v'.ownBlock = some wx.heap.size) :
    PartAt wr (w'.setCell ⟨P, 1, none⟩ v') cp P NB nums v' ds' := by
  have hr := h.own.lt
  have lPx : P < wx.heap.size := World.block_lt_of_cell? _ _ h.c0
  have lNx : NB < wx.heap.size := (Array.getElem?_eq_some_iff.1 h.nb).1
  have k1 : Keeps (fun b => b ≠ v.ownBlock.getD wx.heap.size) wx w' := Keeps.of_grown hg fun b hb he => hb (by rw [← he]; rfl)
  have oP : P ≠ v.ownBlock.getD wx.heap.size := by
    cases hv : v.ownBlock with
    | none => simp; omega
    | some k => have := h.off k hv; simp; omega
  have oN : NB ≠ v.ownBlock.getD wx.heap.size := by
    cases hv : v.ownBlock with
    | none => simp; omega
    | some k => have := h.off k hv; simp; omega
  have oC : wr.heap.size ≠ v.ownBlock.getD wx.heap.size := by
    cases hv : v.ownBlock with
    | none => have := h.lP; simp; omega
    | some k => have := hr k hv; simp; omega
  have c1' := k1.cell oP h.c1
  have off' : ∀ k, v'.ownBlock = some k → k ≠ P ∧ k ≠ NB := by
    intro k hk
    rcases ha with ha | ha
    · exact h.off k (ha ▸ hk)
    · rw [ha] at hk; simp at hk; omega
  have kset : Keeps (fun b => b ≠ P) w' (w'.setCell ⟨P, 1, none⟩ v') := (Keeps.refl _ _).setCell (by simp) _
  refine ⟨h.lP, h.lN, h.ne, ?_, ?_, ?_, ?_, ?_, ?_, ?_, off'⟩
  · exact (h.below.grown hg h.below.size (fun k hk => by have := hr k hk; omega)).setCell (by have := h.lP; exact Nat.le_of_lt this) _
  · exact (kset.block _ (by have := h.lP; omega) (Nat.lt_of_lt_of_le (Nat.lt_trans h.lP lPx) hg.size)).trans ((k1.block _ oC (Nat.lt_trans h.lP lPx)).trans h.copy)
  · exact (kset.block _ (fun e => h.ne e.symm) (Nat.lt_of_lt_of_le lNx hg.size)).trans ((k1.block _ oN lNx).trans h.nb)
  · rw [World.cell?_setCell_other _ _ _ _ (by simp)]
    exact k1.cell oP h.c0
  · rw [World.cell?_setCell_same _ _ _ c1']
  · intro j
    rw [World.frozen?_setCell]
    exact k1.frozen oP lPx (h.fr j)
  · exact ownsRow_keeps ho kset fun b hb => (off' b hb).1

theorem PartAt.grown {wr wx w' : World} {cp : Obj} {P NB : Nat} {nums : List Int} {v : Value} {ds : List Int} (h : PartAt wr wx cp P NB nums v ds) (hg : wx.grownBy w' v.ownBlock) :
    w'.cell? ⟨P, 1, none⟩ = some v ∧ w'.frozen? ⟨P, 1, none⟩ = false ∧ P < w'.heap.size := by
  have lPx : P < wx.heap.size := World.block_lt_of_cell? _ _ h.c0
  have hb : w'.heap[P]? = wx.heap[P]? := hg.block P lPx fun e => (h.off P e.symm).1 rfl
  exact ⟨(World.cell?_of_block (w := wx) hb).trans h.c1, (World.frozen?_of_block (w := wx) hb).trans (h.fr 1), Nat.lt_of_lt_of_le lPx hg.size⟩

/-- The element number j of a list of slices of bytes. -/
theorem SD.get {w : World} {ok : Nat → Prop} {p : Option Addr} {n c : Nat} {ds : List (List Int)} (h : SD w ok (.slice p n c) ds) {j : Nat} (hj : j < ds.length) :
    ∃ b o q m cq d, p = some ⟨b, o, none⟩ ∧ b < w.heap.size ∧ ok b ∧ ds[j]? = some d ∧ m = d.length ∧ w.cell? ⟨b, o + j, none⟩ = some (.slice q m cq) ∧ SB w ok (.slice q m cq) d := by
  obtain ⟨vs, h1, ⟨p', c', he, -, -, -, hr⟩, h3⟩ := h
  simp only [Value.slice.injEq] at he
  obtain ⟨rfl, -, rfl⟩ := he
  have hv : vs[j]? = some vs[j] := by simp [h1, hj]
  rcases hr with rfl | ⟨b, o, rfl, hb, hl, hc⟩
  · simp at h1; omega
  · have hs := h3 j _ ds[j] hv (by simp [hj])
    obtain ⟨q, cq, hq, hrest⟩ := id hs
    have hcj := hc j _ hv
    rw [hq] at hcj hs
    exact ⟨b, o, q, _, cq, ds[j], rfl, hl, hb, by simp [hj], rfl, hcj, hs⟩

theorem SB.own {w : World} {base : Nat} {v : Value} {ds : List Int} (h : w.ownsRow base 5 1 v ds.length (ds.map (.int .u8))) : SB w (fun b => base ≤ b ∧ v.ownBlock = some b) v ds := IsSl.owned h
theorem flat_snoc {α : Type} {ps : List (List α)} {k : Nat} {d : List α} (h : ps[k]? = some d) : (ps.take k).flatten ++ d = (ps.take (k + 1)).flatten := by
  rw [List.take_add_one, h]
  simp
theorem take_snoc4 {α : Type} {l : List α} {k : Nat} {x : α} (h : l[k]? = some x) : l.take k ++ [x] = l.take (k + 1) := by
  rw [List.take_add_one, h]
  rfl
theorem flat_le {ps : List (List Int)} (h : ∀ d ∈ ps, d.length ≤ 1000) : ∀ k, (ps.take k).flatten.length ≤ 1000 * k := by
  intro k
  induction k with
  | zero => simp
  | succ k ih =>
    rw [List.take_add_one]
    cases hk : ps[k]? with
    | none => simp; simp at ih; omega
    | some d =>
      have := h d (List.mem_of_getElem? hk)
      simp at ih ⊢
      omega
theorem cellsAt {w : World} {b : Nat} {cs : Array Value} {e : TypeId} {f : Nat × Nat} (h : w.heap[b]? = some (.cells cs e f)) (j : Nat) : w.cell? ⟨b, j, none⟩ = cs[j]? := by simp [World.cell?, h]
end Go.Proofs.YtmpifdanfnebpaaGreat
