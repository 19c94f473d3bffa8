/-
  Lists that a walk builds by append: what each element's cells stand for.
-/
import Derived.Test.YtmpifdanfnebpaaGreatVoc
import Derived.Maps.AppendAt
namespace Go.Proofs.YtmpifdanfnebpaaGreat
open Go Go.RowKit

/-- A kind of element of a list: which cells stand for what. -/
structure Elem (α : Type) where
  size : Nat
  R : World → (Nat → Prop) → List Value → α → Prop
  len : ∀ w ok cs x, R w ok cs x → cs.length = size
  one : ∀ w ok cs x, R w ok cs x → ∀ u ∈ cs, u.oneCell' = true
  keeps : ∀ w w' ok cs x, Keeps ok w w' → R w ok cs x → R w' ok cs x
  imp : ∀ w (ok ok' : Nat → Prop) cs x, (∀ b, b < w.heap.size → ok b → ok' b) → R w ok cs x → R w ok' cs x

/-- v is a row of the walk's own, of elements that stand for xs. -/
def Rows {α : Type} (E : Elem α) (w : World) (base : Nat) (ok : Nat → Prop) (e : TypeId) (v : Value) (xs : List α) : Prop :=
  ∃ css : List (List Value), css.length = xs.length ∧ w.ownsRow base e E.size v xs.length css.flatten ∧
    ∀ (j : Nat) cs x, css[j]? = some cs → xs[j]? = some x → E.R w (fun b => ok b ∧ some b ≠ v.ownBlock) cs x

theorem Rows.nil {α : Type} (E : Elem α) (w : World) (base : Nat) (ok : Nat → Prop) (e : TypeId) : Rows E w base ok e (.slice none 0 0) ([] : List α) :=
  ⟨[], rfl, World.ownsRow_nil _ _ _ _, fun j cs x h => by simp at h⟩

theorem Rows.form {α : Type} {E : Elem α} {w : World} {base : Nat} {ok : Nat → Prop} {e : TypeId} {v : Value} {xs : List α} (h : Rows E w base ok e v xs) : ∃ p c, v = .slice p xs.length c := by
  obtain ⟨css, _, ⟨_, ⟨rfl, h0⟩ | ⟨g, cap, cur, rfl, _⟩⟩, _⟩ := h
  · exact ⟨none, 0, by rw [h0]⟩
  · exact ⟨_, _, rfl⟩

theorem Rows.keeps {α : Type} {E : Elem α} {w w' : World} {base : Nat} {ok : Nat → Prop} {e : TypeId} {v : Value} {xs : List α} (h : Rows E w base ok e v xs) (k : Keeps (fun b => ok b ∨ base ≤ b) w w') : Rows E w' base ok e v xs := by
  obtain ⟨css, h1, ⟨hl, h2⟩, h3⟩ := h
  refine ⟨css, h1, ⟨hl, ?_⟩, fun j cs x hc hx => E.keeps _ _ _ _ _ (k.imp fun b hb => .inl hb.1) (h3 j cs x hc hx)⟩
  rcases h2 with h2 | ⟨g, cap, cur, rfl, hb, hg, r⟩
  · exact .inl h2
  · exact .inr ⟨g, cap, cur, rfl, hb, (k.block g (.inr hb) (Array.getElem?_eq_some_iff.1 hg).1).trans hg, r⟩

theorem Rows.imp {α : Type} {E : Elem α} {w : World} {base base' : Nat} {ok ok' : Nat → Prop} {e : TypeId} {v : Value} {xs : List α} (h : Rows E w base ok e v xs) (hb : base' ≤ base) (hi : ∀ b, b < w.heap.size → ok b → ok' b) : Rows E w base' ok' e v xs := by
  obtain ⟨css, h1, ⟨hl, h2⟩, h3⟩ := h
  refine ⟨css, h1, ⟨hl, ?_⟩, fun j cs x hc hx => E.imp _ _ _ _ _ (fun b hb h => ⟨hi b hb h.1, h.2⟩) (h3 j cs x hc hx)⟩
  rcases h2 with h2 | ⟨g, cap, cur, rfl, hb', r⟩
  · exact .inl h2
  · exact .inr ⟨g, cap, cur, rfl, Nat.le_trans hb hb', r⟩

theorem flat_get {α : Type} {s : Nat} : ∀ (css : List (List α)), (∀ cs ∈ css, cs.length = s) → ∀ j cs, css[j]? = some cs → ∀ i u, cs[i]? = some u → css.flatten[j * s + i]? = some u
  | [], _, j, cs, h, i, u, hu => by simp at h
  | c :: css, hs, 0, cs, h, i, u, hu => by
    simp at h
    subst h
    have hi : i < c.length := (List.getElem?_eq_some_iff.1 hu).1
    rw [List.flatten_cons, Nat.zero_mul, Nat.zero_add, List.getElem?_append_left hi]
    exact hu
  | c :: css, hs, j + 1, cs, h, i, u, hu => by
    have hc := hs c (by simp)
    have ih := flat_get css (fun cs hcs => hs cs (by simp [hcs])) j cs (by simpa using h) i u hu
    have he : (j + 1) * s + i = c.length + (j * s + i) := by rw [Nat.succ_mul, hc]; omega
    rw [List.flatten_cons, he, List.getElem?_append_right (by omega)]
    simpa using ih

theorem Rows.lens {α : Type} {E : Elem α} {w : World} {ok : Nat → Prop} {css : List (List Value)} {xs : List α} (h1 : css.length = xs.length) (h3 : ∀ (j : Nat) cs x, css[j]? = some cs → xs[j]? = some x → E.R w ok cs x) : ∀ cs ∈ css, cs.length = E.size := by
  intro cs hc
  obtain ⟨j, hj, rfl⟩ := List.getElem_of_mem hc
  exact E.len _ _ _ _ (h3 j _ xs[j] (by simp [hj]) (by simp))

/-- The cells of the element number j. -/
theorem Rows.get {α : Type} {E : Elem α} {w : World} {base : Nat} {ok : Nat → Prop} {e : TypeId} {v : Value} {xs : List α} (h : Rows E w base ok e v xs) {j : Nat} (hj : j < xs.length) :
    ∃ g c cs x, v = .slice (some ⟨g, 0, none⟩) xs.length c ∧ g < w.heap.size ∧ base ≤ g ∧ xs[j]? = some x ∧ (∀ i u, cs[i]? = some u → w.cell? ⟨g, j * E.size + i, none⟩ = some u) ∧ E.R w ok cs x := by
  obtain ⟨css, h1, ⟨hl, h2⟩, h3⟩ := h
  rcases h2 with ⟨_, h0⟩ | ⟨g, cap, cur, rfl, hb, hg, hnc, hcm, hcs, ht⟩
  · omega
  · have hs := Rows.lens h1 h3
    obtain ⟨cs, hcs'⟩ : ∃ cs, css[j]? = some cs := ⟨css[j]'(by omega), by simp⟩
    refine ⟨g, cap, cs, xs[j], rfl, (Array.getElem?_eq_some_iff.1 hg).1, hb, by simp [hj], fun i u hu => ?_, ?_⟩
    · have := flat_get css hs j cs hcs' i u hu
      simp only [World.cell?, hg]
      rw [← ht, List.getElem?_take] at this
      split at this
      · simpa using this
      · cases this
    · exact E.imp _ _ _ _ _ (fun b _ hb => hb.1) (h3 j cs xs[j] hcs' (by simp [hj]))

theorem Rows.snoc {α : Type} {E : Elem α} {w w' : World} {base : Nat} {ok : Nat → Prop} {e : TypeId} {v v' : Value} {xs : List α} {css : List (List Value)} {cs : List Value} {y : α} (h1 : css.length = xs.length)
    (h3 : ∀ (j : Nat) cs x, css[j]? = some cs → xs[j]? = some x → E.R w (fun b => ok b ∧ some b ≠ v.ownBlock) cs x) (hR : E.R w (fun b => ok b ∧ some b ≠ v.ownBlock) cs y)
    (ho : w'.ownsRow base e E.size v' (xs.length + 1) (css.flatten ++ cs)) (hg : w.grownBy w' v.ownBlock) (ha : v'.ownBlock = v.ownBlock ∨ v'.ownBlock = some w.heap.size) : Rows E w' base ok e v' (xs ++ [y]) := by
  have hm : ∀ cs x, E.R w (fun b => ok b ∧ some b ≠ v.ownBlock) cs x → E.R w' (fun b => ok b ∧ some b ≠ v'.ownBlock) cs x := by
    intro cs x h
    have h' := E.imp _ _ (fun b => (ok b ∧ some b ≠ v'.ownBlock) ∧ some b ≠ v.ownBlock) _ _ (fun b hb hx => ⟨⟨hx.1, ?_⟩, hx.2⟩) h
    · exact E.imp _ _ _ _ _ (fun b _ hb => hb.1) (E.keeps _ _ _ _ _ (Keeps.of_grown hg (fun b hb => hb.2)) h')
    · rcases ha with ha | ha
      · rw [ha]; exact hx.2
      · rw [ha]; intro he; simp at he; omega
  refine ⟨css ++ [cs], by simp [h1], by simpa using ho, fun j c x hc hx => ?_⟩
  by_cases hj : j < css.length
  · rw [List.getElem?_append_left hj] at hc
    rw [List.getElem?_append_left (by omega)] at hx
    exact hm _ _ (h3 j c x hc hx)
  · rw [List.getElem?_append_right (by omega)] at hc hx
    have hj0 : j - css.length = 0 := by
      have := (List.getElem?_eq_some_iff.1 hc).1
      simp at this
      omega
    rw [hj0] at hc
    rw [show j - xs.length = 0 by omega] at hx
    simp at hc hx
    subst hc hx
    exact hm _ _ hR

/-- append of one element, as one operation. -/
theorem wp_append_rows {α : Type} {E : Elem α} {o : Oper} {a : Act} {w : World} {K : Act → World → Prop} {Q : Exit → Act → World → Prop} (s x : Operand) (t e : TypeId) (z : Value) (bytes : Nat)
    (ho : o.op = .call { callee := .builtin .append, args := #[s, x], argTypes := #[t, t] }) (ht : Tryz.prog.underlying t = some (.slice e))
    (hi : (Tryz.prog.info? e).map (fun i => (i.zero, i.size, i.bytes)) = some (some z, E.size, bytes)) (hz : z.cells.size = E.size) (hs0 : 0 < E.size) (hby : bytes ≤ 1000)
    {base : Nat} {ok : Nat → Prop} {v : Value} {xs : List α} (hs : a.eval s = v) (h : Rows E w base ok e v xs) {g c : Nat} (hx : a.eval x = .slice (some ⟨g, 0, none⟩) 1 c) {cs : List Value} {y : α}
    (hcs : ∀ j u, cs[j]? = some u → w.cell? ⟨g, j, none⟩ = some u) (hR : E.R w (fun b => ok b ∧ some b ≠ v.ownBlock) cs y) (hlen : xs.length ≤ 2147483648) (hbase : base ≤ w.heap.size)
    (hK : ∀ q c w', Rows E w' base ok e (.slice (some ⟨q, 0, none⟩) (xs.length + 1) c) (xs ++ [y]) → w.grownBy w' v.ownBlock → Keeps (fun b => b < base) w w' → (∀ B w0, B ≤ base → Below B w0 w → Below B w0 w') → K (a.put o.dst (.slice (some ⟨q, 0, none⟩) (xs.length + 1) c)) w') :
    o.wp Tryz.prog a w K Q := by
  obtain ⟨i0, hi0, hz0, hz1, hz2⟩ := info_parts hi
  obtain ⟨css, h1, h2, h3⟩ := h
  have hnb : (xs.length + 1) * bytes ≤ 140737488355328 := Nat.le_trans (Nat.mul_le_mul (by omega : xs.length + 1 ≤ 2147483649) hby) (by decide)
  have hnews : ∀ j u, cs[j]? = some u → w.cell? ((⟨g, 0, none⟩ : Addr).add j) = some u := by
    intro j u hu
    have := hcs j u hu
    unfold Addr.add
    split
    · rename_i hj; subst hj; exact this
    · simpa using this
  obtain ⟨v', w', hr, ho', hg, hnil, ha⟩ := run_append_own_at (P := Tryz.prog) w base t o.type e i0 z E.size bytes ht hi0 hz0 hz1 hz2 hz hs0 v xs.length css.flatten h2 ⟨g, 0, none⟩ 1 c cs (by rw [E.len _ _ _ _ hR]; omega) hnews (E.one _ _ _ _ hR) (by unfold maxLen; omega) hnb hbase
  have hrow : ∀ k, v.ownBlock = some k → base ≤ k := fun k hk => (h2.lt k hk).1
  have hS := Rows.snoc h1 h3 hR ho' hg ha
  have hf : ∃ q c, v' = .slice (some ⟨q, 0, none⟩) (xs.length + 1) c := by
    rcases ho'.2 with ⟨_, h0⟩ | ⟨q, cap, cur, rfl, _⟩
    · omega
    · exact ⟨_, _, rfl⟩
  obtain ⟨q, c', rfl⟩ := hf
  unfold Oper.wp execOp
  simp only [ho, resolve, invoke, builtin, Sem.run_bind, Sem.run_pure, Result.andThen_ok, List.map_toArray, List.map_cons, List.map_nil, hs, hx, hr]
  exact hK q c' w' hS hg (Keeps.of_grown hg (fun b hb he => by have := hrow b he.symm; omega)) (fun B w0 hB hb => hb.grown hg (by have := hb.size; omega) (fun k hk => Nat.le_trans hB (hrow k hk)))

/-- The same as the next operation of a list. -/
theorem wpList_append_rows {α : Type} {E : Elem α} {ops : Array Oper} {rest : List Oper} {o : Oper} {a : Act} {w : World} {Q : Exit → Act → World → Prop} (hgd : o.guard = none) (s x : Operand) (t e : TypeId) (z : Value) (bytes : Nat)
    (ho : o.op = .call { callee := .builtin .append, args := #[s, x], argTypes := #[t, t] }) (ht : Tryz.prog.underlying t = some (.slice e))
    (hi : (Tryz.prog.info? e).map (fun i => (i.zero, i.size, i.bytes)) = some (some z, E.size, bytes)) (hz : z.cells.size = E.size) (hs0 : 0 < E.size) (hby : bytes ≤ 1000)
    {base : Nat} {ok : Nat → Prop} {v : Value} {xs : List α} (hs : a.eval s = v) (h : Rows E w base ok e v xs) {g c : Nat} (hx : a.eval x = .slice (some ⟨g, 0, none⟩) 1 c) {cs : List Value} {y : α}
    (hcs : ∀ j u, cs[j]? = some u → w.cell? ⟨g, j, none⟩ = some u) (hR : E.R w (fun b => ok b ∧ some b ≠ v.ownBlock) cs y) (hlen : xs.length ≤ 2147483648) (hbase : base ≤ w.heap.size)
    (hK : ∀ q c w', Rows E w' base ok e (.slice (some ⟨q, 0, none⟩) (xs.length + 1) c) (xs ++ [y]) → w.grownBy w' v.ownBlock → Keeps (fun b => b < base) w w' → (∀ B w0, B ≤ base → Below B w0 w → Below B w0 w') → wpList Tryz.prog ops Q rest (a.put o.dst (.slice (some ⟨q, 0, none⟩) (xs.length + 1) c)) w') :
    wpList Tryz.prog ops Q (o :: rest) a w :=
  wpList_plain hgd fun _ hK' => wp_append_rows s x t e z bytes ho ht hi hz hs0 hby hs h hx hcs hR hlen hbase fun q c w' r g k b => hK' _ _ (hK q c w' r g k b)

/-- Elements that are one slice of bytes. -/
def eB : Elem (List Int) where
  size := 1
  R w ok cs d := ∃ u, cs = [u] ∧ SB w ok u d
  len := by rintro w ok cs x ⟨u, rfl, _⟩; rfl
  one := by
    rintro w ok cs x ⟨u, rfl, p, c, rfl, _⟩ u hu
    simp at hu
    subst hu
    rfl
  keeps := by rintro w w' ok cs x k ⟨u, rfl, h⟩; exact ⟨u, rfl, h.keeps k⟩
  imp := by rintro w ok ok' cs x hi ⟨u, rfl, h⟩; exact ⟨u, rfl, h.imp hi⟩

/-- Parts: numbers and bytes. -/
def eP : Elem (List Int × List Int) where
  size := 2
  R w ok cs p := ∃ u v, cs = [u, v] ∧ SN w ok u p.1 ∧ SB w ok v p.2
  len := by rintro w ok cs x ⟨u, v, rfl, _⟩; rfl
  one := by
    rintro w ok cs x ⟨u, v, rfl, ⟨p, c, rfl, _⟩, ⟨q, d, rfl, _⟩⟩ u hu
    simp at hu
    rcases hu with rfl | rfl <;> rfl
  keeps := by rintro w w' ok cs x k ⟨u, v, rfl, h, g⟩; exact ⟨u, v, rfl, h.keeps k, g.keeps k⟩
  imp := by rintro w ok ok' cs x hi ⟨u, v, rfl, h, g⟩; exact ⟨u, v, rfl, h.imp hi, g.imp hi⟩

theorem Rows.sp {w : World} {base : Nat} {ok ok' : Nat → Prop} {e : TypeId} {v : Value} {ps : List (List Int × List Int)} (h : Rows eP w base ok e v ps) (hb : ∀ b, b < w.heap.size → base ≤ b → ok' b) (hi : ∀ b, b < w.heap.size → ok b → ok' b) : SP w ok' v ps := by
  obtain ⟨css, h1, h2, h3⟩ := h
  have hp : ∃ vs : List (Value × Value), vs.length = ps.length ∧ pcells vs = css.flatten ∧ ∀ (j : Nat) x p, vs[j]? = some x → ps[j]? = some p → SN w ok' x.1 p.1 ∧ SB w ok' x.2 p.2 := by
    clear h2
    induction css generalizing ps with
    | nil =>
      simp at h1
      exact ⟨[], h1, rfl, fun j x p h => by simp at h⟩
    | cons c css ih =>
      match ps, h1, h3 with
      | p :: ps, h1, h3 =>
        obtain ⟨vs, g1, g2, g3⟩ := ih (ps := ps) (by simpa using h1) (fun j cs x hc hx => h3 (j + 1) cs x (by simpa using hc) (by simpa using hx))
        obtain ⟨u, v, rfl, hu, hv⟩ := h3 0 c p (by simp) (by simp)
        refine ⟨(u, v) :: vs, by simp [g1], by simp [pcells] at g2 ⊢; exact g2, fun j x q hx hq => ?_⟩
        cases j with
        | zero =>
          simp at hx hq
          subst hx hq
          exact ⟨hu.imp (fun b hb h => hi b hb h.1), hv.imp (fun b hb h => hi b hb h.1)⟩
        | succ j => exact g3 j x q (by simpa using hx) (by simpa using hq)
  obtain ⟨vs, g1, g2, g3⟩ := hp
  refine ⟨vs, g1, ?_, g3⟩
  rw [g2]
  have hS := IsSl.owned h2
  exact IsSl.imp hS (fun b hb2 h => hb b hb2 h.1)
end Go.Proofs.YtmpifdanfnebpaaGreat
