/-
  copy of bytes into cells; a walk that appends bytes to a list in a cell of a struct.
-/
import Derived.Test.YtaejicpdaldpiaaGreatTwo
import Derived.Test.YtaejicpdaldpiaaGreatFill
import Derived.Test.YtaejicpdaldpiaaGreatCopy
namespace Go.Proofs.YtaejicpdaldpiaaGreat
open Go Go.RowKit

theorem szB : (Tryz.prog.info? 5).map (·.size) = some 1 := by kernel_rfl

theorem wp_copyB_none {o : Oper} {a : Act} {w : World} {K : Act → World → Prop} {Q : Exit → Act → World → Prop} (d s : Operand) (t t' e : TypeId)
    (ho : o.op = .call { callee := .builtin .copy, args := #[d, s], argTypes := #[t, t'] }) (ht : Tryz.prog.underlying t = some (.slice e)) (hsz : (Tryz.prog.info? e).map (·.size) = some 1)
    {p q : Option Addr} {dLen dCap sLen sCap : Nat} (hd : a.eval d = .slice p dLen dCap) (hs : a.eval s = .slice q sLen sCap) (hn : Nat.min sLen dLen = 0) (hK : K (a.put o.dst (goInt 0)) w) : o.wp Tryz.prog a w K Q := by
  have hrun := run_copy_none (P := Tryz.prog) w t t' o.type e p q dLen dCap sLen sCap ht hsz hn
  unfold Oper.wp
  simp [execOp, ho, resolve, invoke, builtin, hd, hs, hrun, Result.andThen]
  exact hK

theorem wp_copyB {o : Oper} {a : Act} {w : World} {K : Act → World → Prop} {Q : Exit → Act → World → Prop} (d s : Operand) (t t' : TypeId)
    (ho : o.op = .call { callee := .builtin .copy, args := #[d, s], argTypes := #[t, t'] }) (ht : Tryz.prog.underlying t = some (.slice 5))
    {A : Option Addr} {D k dLen dCap : Nat} {u : Value} {ok : Nat → Prop} {ds : List Int} (hd : a.eval d = .slice A dLen dCap) (hs : a.eval s = u) (hu : SB w ok u ds) (hlen : ds.length ≤ dLen) (hA : ds ≠ [] → A = some ⟨D, k, none⟩)
    (hc : ∀ j, j < ds.length → (w.cell? ⟨D, k + j, none⟩).isSome = true) (hf : ∀ j, j < ds.length → w.frozen? ⟨D, k + j, none⟩ = false)
    (hK : K (a.put o.dst (goInt ds.length)) (w.setCells D k (ds.map (.int .u8)))) : o.wp Tryz.prog a w K Q := by
  obtain ⟨p, c, rfl, -, -, -, hr⟩ := hu
  by_cases h0 : ds = []
  · subst h0
    exact wp_copyB_none d s t t' 5 ho ht szB hd hs (by simp) hK
  · rcases hr with hr | ⟨b, o', rfl, -, -, hcell⟩
    · exact absurd (by simpa using hr) h0
    · obtain rfl := hA h0
      refine wp_copy_cells d s t t' 5 ho ht szB (b := D) (off := k) (cs := ds.map (.int .u8)) hd hs (by rw [List.length_map]; show ds.length = min ds.length dLen; omega) (fun j v hv => ?_)
        (fun j hj => hc j (by simpa using hj)) (fun j hj => hf j (by simpa using hj)) (ints_oneCell .u8 ds) ?_
      · have := hcell j v hv
        unfold Addr.add
        split
        · rename_i h; subst h; exact this
        · exact this
      · rwa [List.length_map]

theorem setCells_size (b : Nat) : ∀ (vs : List Value) (o : Nat) (w : World), (w.setCells b o vs).heap.size = w.heap.size
  | [], _, _ => rfl
  | v :: r, o, w => by rw [World.setCells, setCells_size b r]; simp
theorem setCells_below {B b : Nat} (hb : B ≤ b) {a : World} : ∀ (vs : List Value) (o : Nat) {w : World}, Below B a w → Below B a (w.setCells b o vs)
  | [], _, _, h => h
  | v :: r, o, w, h => by rw [World.setCells]; exact setCells_below hb r (o + 1) (h.setCell hb v)
theorem setCells_keeps {ok : Nat → Prop} {b : Nat} (hb : ¬ ok b) {a : World} : ∀ (vs : List Value) (o : Nat) {w : World}, Keeps ok a w → Keeps ok a (w.setCells b o vs)
  | [], _, _, h => h
  | v :: r, o, w, h => by rw [World.setCells]; exact setCells_keeps hb r (o + 1) (h.setCell hb v)
theorem setCells_frozen {b : Nat} : ∀ (vs : List Value) (o : Nat) (w : World) (p : Addr), (w.setCells b o vs).frozen? p = w.frozen? p
  | [], _, _, _ => rfl
  | v :: r, o, w, p => by rw [World.setCells, setCells_frozen r, World.frozen?_setCell]
theorem setCells_out {b j o : Nat} (vs : List Value) (w : World) (h : j < o ∨ o + vs.length ≤ j) : (w.setCells b o vs).cell? ⟨b, j, none⟩ = w.cell? ⟨b, j, none⟩ := World.cell?_setCells_out b vs o w _ (fun _ _ => h)
theorem setCells_in {b o : Nat} {vs : List Value} {w : World} (hc : ∀ j, j < vs.length → (w.cell? ⟨b, o + j, none⟩).isSome = true) {i : Nat} {x : Value} (hx : vs[i]? = some x) : (w.setCells b o vs).cell? ⟨b, o + i, none⟩ = some x := by
  obtain ⟨hi, rfl⟩ := List.getElem?_eq_some_iff.1 hx
  exact World.cell?_setCells_in b vs o w hc i hi

/-- The state of a walk that appends bytes to the list in cell J of a struct at L: all but that cell is as in W. -/
structure BFills (J : Nat) (W wr : World) (L base : Nat) (pv : Value) (ds : List Int) : Prop where
  lt : L < base
  le : base ≤ wr.heap.size
  pay : wr.cell? ⟨L, J, none⟩ = some pv
  froz : ∀ j, wr.frozen? ⟨L, j, none⟩ = false
  other : ∀ j u, j ≠ J → W.cell? ⟨L, j, none⟩ = some u → wr.cell? ⟨L, j, none⟩ = some u
  own : wr.ownsRow base 5 1 pv ds.length (ds.map (.int .u8))
  keep : Keeps (fun b => b < base ∧ b ≠ L) W wr
  below : ∀ B w0, B ≤ L → Below B w0 W → Below B w0 wr

theorem BFills.start {J : Nat} {W : World} {L base : Nat} (hL : L < base) (hb : base ≤ W.heap.size) (hp : W.cell? ⟨L, J, none⟩ = some (.slice none 0 0)) (hf : ∀ j, W.frozen? ⟨L, j, none⟩ = false) : BFills J W W L base (.slice none 0 0) [] :=
  ⟨hL, hb, hp, hf, fun _ _ _ h => h, World.ownsRow_nil _ _ _ _, Keeps.refl _ _, fun _ _ _ h => h⟩

/-- Blocks that are new lie between. -/
theorem BFills.new {J : Nat} {W wr w4 : World} {L base : Nat} {pv : Value} {ds : List Int} (h : BFills J W wr L base pv ds) (h4 : Below wr.heap.size wr w4) : BFills J W w4 L base pv ds := by
  have hL : L < wr.heap.size := Nat.lt_of_lt_of_le h.lt h.le
  exact ⟨h.lt, Nat.le_trans h.le h4.size, (h4.cell (p := ⟨L, J, none⟩) hL).trans h.pay, fun j => (h4.frozen (p := ⟨L, j, none⟩) hL).trans (h.froz j), fun j u hj hu => (h4.cell (p := ⟨L, j, none⟩) hL).trans (h.other j u hj hu), ownsRow_keeps h.own (Keeps.of_below h4 (ok := fun _ => True)) (fun _ _ => trivial),
    h.keep.trans (Keeps.of_below h4), fun B w0 hB hw => (h.below B w0 hB hw).trans (h4.mono (Nat.le_trans hB (Nat.le_of_lt hL)))⟩

theorem BFills.more {J : Nat} {W wr w4 w5 : World} {L base : Nat} {pv pv' : Value} {ds d : List Int} (h : BFills J W wr L base pv ds) (h4 : Below wr.heap.size wr w4)
    (hr : w5.ownsRow base 5 1 pv' (ds ++ d).length ((ds ++ d).map (.int .u8))) (hg : w4.grownBy w5 pv.ownBlock) (ha : pv'.ownBlock = pv.ownBlock ∨ pv'.ownBlock = some w4.heap.size) :
    BFills J W (w5.setCell ⟨L, J, none⟩ pv') L base pv' (ds ++ d) := by
  have hL : L < wr.heap.size := Nat.lt_of_lt_of_le h.lt h.le
  have hpo := h.own.lt
  have hs := hg.size
  have k4 : Keeps (fun b => b < base) wr w5 := (Keeps.of_below h4).trans (grown_keeps hg fun k hk => (hpo k hk).1)
  have hc : w5.cell? ⟨L, J, none⟩ = some pv := k4.cell h.lt h.pay
  have kset : Keeps (fun b => b ≠ L) w5 (w5.setCell ⟨L, J, none⟩ pv') := (Keeps.refl _ _).setCell (by simp) _
  refine ⟨h.lt, ?_, ?_, ?_, ?_, ?_, ?_, ?_⟩
  · simp
    exact Nat.le_trans h.le (Nat.le_trans h4.size hs)
  · rw [World.cell?_setCell_same _ _ _ hc]
  · intro j
    rw [World.frozen?_setCell]
    exact k4.frozen h.lt hL (h.froz j)
  · intro j u hj hu
    rw [World.cell?_setCell_other _ _ _ _ (by simp)]
    exact k4.cell h.lt (h.other j u hj hu)
  · exact ownsRow_keeps hr kset fun b hb => by
      rcases ha with ha | ha
      · have := (hpo b (ha ▸ hb)).1
        have := h.lt
        omega
      · rw [ha] at hb
        simp at hb
        have := h4.size
        omega
  · exact (h.keep.trans (k4.imp fun b hb => hb.1)).setCell (fun h1 => h1.2 rfl) _
  · intro B w0 hB hw
    have h1 : Below B w0 w4 := (h.below B w0 hB hw).trans (h4.mono (Nat.le_trans hB (Nat.le_of_lt hL)))
    exact (h1.grown hg (by have := h4.size; omega) (fun k hk => by have := (hpo k hk).1; have := h.lt; omega)).setCell hB _

/-- Attributes of RADIUS: two numbers and bytes. -/
def eA : Elem (List Int × List Int) where
  size := 3
  R w ok cs p := ∃ a n u, cs = [.int .u8 a, .int .u8 n, u] ∧ p.1 = [a, n] ∧ SB w ok u p.2 ∧ (0 ≤ a ∧ a < 256) ∧ (0 ≤ n ∧ n < 256) ∧ p.2.length ≤ 256
  len := by rintro w ok cs x ⟨a, n, u, rfl, _⟩; rfl
  one := by
    rintro w ok cs x ⟨a, n, u, rfl, _, ⟨p, c, rfl, _⟩, _⟩ v hv
    simp at hv
    rcases hv with rfl | rfl | rfl <;> rfl
  keeps := by rintro w w' ok cs x k ⟨a, n, u, rfl, h1, h2, h3⟩; exact ⟨a, n, u, rfl, h1, h2.keeps k, h3⟩
  imp := by rintro w ok ok' cs x hi ⟨a, n, u, rfl, h1, h2, h3⟩; exact ⟨a, n, u, rfl, h1, h2.imp hi, h3⟩
theorem infoAttr : (Tryz.prog.info? 129).map (fun i => (i.zero, i.size, i.bytes)) = some (some (.agg #[.int .u8 0, .int .u8 0, .slice none 0 0]), 3, 32) := by kernel_rfl
end Go.Proofs.YtaejicpdaldpiaaGreat
