/-
  Four lists in four cells of a struct, to which a walk appends; append of a whole list.
-/
import Derived.Test.YtmpifdanfnebpaaGreatTwo
namespace Go.Proofs.YtmpifdanfnebpaaGreat
open Go Go.RowKit

def upd {β : Type} (f : Nat → β) (i : Nat) (x : β) : Nat → β := fun j => if j = i then x else f j
theorem upd_same {β : Type} (f : Nat → β) (i : Nat) (x : β) : upd f i x i = x := if_pos rfl
theorem upd_other {β : Type} (f : Nat → β) {i j : Nat} (x : β) (h : j ≠ i) : upd f i x j = f j := if_neg h

/-- The four lists of a struct at X, in its cells from J on: each has a row of its own. -/
structure Four {α : Type} (E : Nat → Elem α) (T : Nat → TypeId) (J : Nat) (w : World) (X base : Nat) (ok : Nat → Prop) (v : Nat → Value) (xs : Nat → List α) : Prop where
  lt : X < base
  le : base ≤ w.heap.size
  cells : ∀ i, i < 4 → w.cell? ⟨X, J + i, none⟩ = some (v i)
  froz : ∀ j, w.frozen? ⟨X, j, none⟩ = false
  rows : ∀ i, i < 4 → Rows (E i) w base (fun b => ok b ∧ ∀ j, j < 4 → (v j).ownBlock ≠ some b) (T i) (v i) (xs i)
  ne : ∀ i j k, i < 4 → j < 4 → i ≠ j → (v i).ownBlock = some k → (v j).ownBlock ≠ some k

theorem Four.start {α : Type} {E : Nat → Elem α} {T : Nat → TypeId} {J : Nat} {w : World} {X base : Nat} {ok : Nat → Prop} (hL : X < base) (hb : base ≤ w.heap.size) (hc : ∀ i, i < 4 → w.cell? ⟨X, J + i, none⟩ = some (.slice none 0 0)) (hf : ∀ j, w.frozen? ⟨X, j, none⟩ = false) :
    Four E T J w X base ok (fun _ => .slice none 0 0) (fun _ => []) :=
  ⟨hL, hb, hc, hf, fun i _ => Rows.nil _ _ _ _ _, fun i j k _ _ _ h => (by cases h)⟩

theorem Four.own {α : Type} {E : Nat → Elem α} {T : Nat → TypeId} {J : Nat} {w : World} {X base : Nat} {ok : Nat → Prop} {v : Nat → Value} {xs : Nat → List α} (h : Four E T J w X base ok v xs) {i k : Nat} (hi : i < 4) (hk : (v i).ownBlock = some k) : base ≤ k ∧ k < w.heap.size := (h.rows i hi).own k hk

theorem Four.below {α : Type} {E : Nat → Elem α} {T : Nat → TypeId} {J : Nat} {w w' : World} {X base : Nat} {ok : Nat → Prop} {v : Nat → Value} {xs : Nat → List α} (h : Four E T J w X base ok v xs) (k : Below w.heap.size w w') : Four E T J w' X base ok v xs := by
  have lX : X < w.heap.size := Nat.lt_of_lt_of_le h.lt h.le
  exact ⟨h.lt, Nat.le_trans h.le k.size, fun i hi => (k.cell (p := ⟨X, J + i, none⟩) lX).trans (h.cells i hi), fun j => (k.frozen (p := ⟨X, j, none⟩) lX).trans (h.froz j), fun i hi => (h.rows i hi).keeps2 (Keeps.of_below k), h.ne⟩

/-- Another cell of the struct is written. -/
theorem Four.other {α : Type} {E : Nat → Elem α} {T : Nat → TypeId} {J : Nat} {w : World} {X base : Nat} {ok : Nat → Prop} {v : Nat → Value} {xs : Nat → List α} (h : Four E T J w X base ok v xs) (hok : ∀ b, ok b → b ≠ X) {j : Nat} (hj : j < J ∨ J + 4 ≤ j) (u : Value) : Four E T J (w.setCell ⟨X, j, none⟩ u) X base ok v xs := by
  have kset : Keeps (fun b => b ≠ X) w (w.setCell ⟨X, j, none⟩ u) := (Keeps.refl _ _).setCell (by simp) _
  refine ⟨h.lt, by simpa using h.le, fun i hi => ?_, fun j => by rw [World.frozen?_setCell]; exact h.froz j, fun i hi => (h.rows i hi).keeps2 (kset.imp fun b hb => ?_), h.ne⟩
  · rw [World.cell?_setCell_other _ _ _ _ (by simp <;> omega)]
    exact h.cells i hi
  · rcases hb with hb | hb
    · exact hok b hb.1
    · have := (h.own hi hb).1
      have := h.lt
      omega

/-- What the next element may lie in, and the list ahead of the append. -/
theorem Four.row {α : Type} {E : Nat → Elem α} {T : Nat → TypeId} {J : Nat} {w : World} {X base : Nat} {ok : Nat → Prop} {v : Nat → Value} {xs : Nat → List α} (h : Four E T J w X base ok v xs) {i : Nat} (hi : i < 4) :
    Rows (E i) w base (fun b => (ok b ∧ ∀ j, j < 4 → (v j).ownBlock ≠ some b) ∧ b < w.heap.size) (T i) (v i) (xs i) := (h.rows i hi).imp (Nat.le_refl _) (fun _ hl hb => ⟨hb, hl⟩)

theorem Four.step {α : Type} {E : Nat → Elem α} {T : Nat → TypeId} {J : Nat} {w w5 : World} {X base : Nat} {ok : Nat → Prop} {v : Nat → Value} {xs : Nat → List α} (h : Four E T J w X base ok v xs) (hok : ∀ b, ok b → b ≠ X) {i : Nat} (hi : i < 4) {v' : Value} {ys : List α}
    (hr : Rows (E i) w5 base (fun b => (ok b ∧ ∀ j, j < 4 → (v j).ownBlock ≠ some b) ∧ b < w.heap.size) (T i) v' ys) (hg : w.grownBy w5 (v i).ownBlock) (ha : v'.ownBlock = (v i).ownBlock ∨ v'.ownBlock = some w.heap.size) :
    Four E T J (w5.setCell ⟨X, J + i, none⟩ v') X base ok (upd v i v') (upd xs i ys) := by
  have lX : X < w.heap.size := Nat.lt_of_lt_of_le h.lt h.le
  have k5 : Keeps (fun b => b < base) w w5 := grown_keeps hg fun k hk => (h.own hi hk).1
  have kset : Keeps (fun b => b ≠ X) w5 (w5.setCell ⟨X, J + i, none⟩ v') := (Keeps.refl _ _).setCell (by simp) _
  have hc : w5.cell? ⟨X, J + i, none⟩ = some (v i) := k5.cell h.lt (h.cells i hi)
  have hsep : ∀ b, b < w.heap.size → (∀ j, j < 4 → (v j).ownBlock ≠ some b) → ∀ j, j < 4 → (upd v i v' j).ownBlock ≠ some b := by
    intro b hb hn j hj
    by_cases hji : j = i
    · subst hji
      rw [upd_same]
      rcases ha with ha | ha
      · rw [ha]; exact hn j hj
      · rw [ha]; intro e; simp at e; omega
    · rw [upd_other _ _ hji]
      exact hn j hj
  refine ⟨h.lt, by simpa using Nat.le_trans h.le hg.size, fun j hj => ?_, fun j => by rw [World.frozen?_setCell]; exact k5.frozen h.lt lX (h.froz j), fun j hj => ?_, fun a c k ha' hc' hac hk => ?_⟩
  · by_cases hji : j = i
    · subst hji
      rw [upd_same, World.cell?_setCell_same _ _ _ hc]
    · rw [upd_other _ _ hji, World.cell?_setCell_other _ _ _ _ (by simp <;> omega)]
      exact k5.cell h.lt (h.cells j hj)
  · by_cases hji : j = i
    · subst hji
      rw [upd_same, upd_same]
      refine (hr.imp (Nat.le_refl _) (fun b _ hb => ⟨hb.1.1, hsep b hb.2 hb.1.2⟩)).keeps2 (kset.imp fun b hb => ?_)
      rcases hb with hb | hb
      · exact hok b hb.1
      · have := (hr.own b hb).1
        have := h.lt
        omega
    · rw [upd_other _ _ hji, upd_other _ _ hji]
      have r5 : Rows (E j) w5 base (fun b => (ok b ∧ ∀ j, j < 4 → (v j).ownBlock ≠ some b) ∧ b < w.heap.size) (T j) (v j) (xs j) := by
        refine (h.row hj).keeps2 (Keeps.of_grown hg fun b hb he => ?_)
        rcases hb with hb | hb
        · exact hb.1.2 i hi he.symm
        · exact h.ne j i b hj hi hji hb he.symm
      refine (r5.imp (Nat.le_refl _) (fun b _ hb => ⟨hb.1.1, hsep b hb.2 hb.1.2⟩)).keeps2 (kset.imp fun b hb => ?_)
      rcases hb with hb | hb
      · exact hok b hb.1
      · have := (h.own hj hb).1
        have := h.lt
        omega
  · by_cases h1 : a = i
    · subst h1
      rw [upd_same] at hk
      rw [upd_other _ _ (Ne.symm hac)]
      rcases ha with ha | ha
      · exact h.ne a c k ha' hc' hac (ha ▸ hk)
      · rw [ha] at hk
        intro e
        have := (h.own hc' e).2
        simp at hk
        omega
    · rw [upd_other _ _ h1] at hk
      by_cases h2 : c = i
      · subst h2
        rw [upd_same]
        rcases ha with ha | ha
        · rw [ha]; exact h.ne a c k ha' hc' hac hk
        · rw [ha]
          intro e
          have := (h.own ha' hk).2
          simp at e
          omega
      · rw [upd_other _ _ h2]
        exact h.ne a c k ha' hc' hac hk
end Go.Proofs.YtmpifdanfnebpaaGreat
