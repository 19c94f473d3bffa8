/-
  A region that draws its order, walked once in one given order: the operations that only read are taken as soon as they may come up, in every world that meets S; of the others only one may come up at a time.
-/
import Derived.WalkKit
import Derived.OrdersHeld
namespace Go.Proofs.YtmpifdanfnebpaaGreat
open Go

section
variable {P : Program} {ops : Array Oper} {Q : Exit → Act → World → Prop} {md : Region.Mode} {S : World → Prop}

/-- The orders that a region may take, as a tree: 'q i r': number i only reads and is taken first, then r; 'l i r m': number i is carried out, then r, or else one of m's; 'stop': no other may come up. -/
inductive Ord where
  | done
  | stop
  | q (i : Nat) (r : Ord)
  | l (i : Nat) (r m : Ord)

def Ord.alts : Ord → List Nat
  | .l i _ m => i :: m.alts
  | _ => []
/-- Nothing in it is taken first. -/
def Ord.loud : Ord → Bool
  | .q _ _ => false
  | .l _ r m => r.loud && m.loud
  | _ => true

/-- The walk over the tree. 'ns': the numbers behind which S need not be shown. -/
def wpLex (P : Program) (ops : Array Oper) (S : World → Prop) (Q : Exit → Act → World → Prop) (ns : List Nat) : Ord → Act → World → Prop
  | .done, a, w => Q .normal a w
  | .stop, _, _ => True
  | .q i r, a, w => ∃ o v, ops[i]? = some o ∧ YieldsIf P ops S o v a ∧ wpLex P ops S Q ns r (a.put o.dst v) w
  | .l i r m, a, w => wpOp P ops Q i (fun a' w' => (ns.contains i = false → S w') ∧ wpLex P ops S Q ns r a' w') a w ∧ wpLex P ops S Q ns m a w

/-- Whatever order: S is shown behind every operation but those of 'ns'. -/
def wpAnyN (P : Program) (md : Region.Mode) (ops : Array Oper) (Q : Exit → Act → World → Prop) (S : World → Prop) (ns : List Nat) : Nat → Array Bool → Act → World → Prop
  | 0, listed, a, w => Region.ready md ops listed = [] ∧ Q .normal a w
  | fuel + 1, listed, a, w =>
    (Region.ready md ops listed = [] → Q .normal a w) ∧
    ∀ i ∈ Region.ready md ops listed, wpOp P ops Q i (fun a' w' => (ns.contains i = false → S w') ∧ wpAnyN P md ops Q S ns fuel (listed.setIfInBounds i true) a' w') a w

theorem wpAny_of_N {ns : List Nat} : ∀ (fuel : Nat) (listed : Array Bool) (a : Act) (w : World), wpAnyN P md ops Q S ns fuel listed a w → wpAny P md ops Q fuel listed a w
  | 0, _, _, _, h => h
  | fuel + 1, _, _, _, h => ⟨h.1, fun i hi => wpOp_mono (fun a' w' h' => wpAny_of_N fuel _ a' w' h'.2) (h.2 i hi)⟩

/-- What is listed is closed under 'waits for'. -/
def Closed (md : Region.Mode) (ops : Array Oper) (listed : Array Bool) : Prop :=
  ∀ j oj, ops[j]? = some oj → listed.getD j false = true → ∀ e ∈ oj.after, Region.binds md e = true → listed.getD e.on false = true

/-- 'D' holds only i and what waits for something of D with a smaller number. -/
def descOK (md : Region.Mode) (ops : Array Oper) (i : Nat) (D : List Nat) : Bool :=
  D.all fun k => k == i || (match ops[k]? with
    | some ok => ok.after.any fun e => Region.binds md e && D.contains e.on && decide (e.on < k)
    | none => false)

theorem desc_unlisted {i : Nat} {D : List Nat} {listed : Array Bool} (hD : descOK md ops i D = true) (hc : Closed md ops listed) (hi : listed.getD i false = false) :
    ∀ k, k ∈ D → listed.getD k false = false := by
  intro k
  induction k using Nat.strongRecOn with
  | _ k ih =>
    intro hk
    have h := List.all_eq_true.1 hD k hk
    simp only [Bool.or_eq_true, beq_iff_eq] at h
    rcases h with rfl | h
    · exact hi
    · cases ho : ops[k]? with
      | none => simp [ho] at h
      | some ok =>
        simp only [ho] at h
        obtain ⟨e, he, hb⟩ := Array.any_eq_true'.1 h
        simp only [Bool.and_eq_true, decide_eq_true_eq, List.contains_iff_mem] at hb
        have hu := ih e.on hb.2 hb.1.2
        cases hl : listed.getD k false with
        | false => rfl
        | true =>
          have := hc k ok ho hl e he hb.1.1
          rw [hu] at this
          cases this

/-- Of D nothing but i may come up while i has not come up. -/
theorem desc_not_ready {i j : Nat} {D : List Nat} {listed : Array Bool} (hD : descOK md ops i D = true) (hc : Closed md ops listed) (hi : listed.getD i true = false) (hji : j ≠ i) (hj : j ∈ D) :
    j ∉ Region.ready md ops listed := by
  intro hr
  have hi' : listed.getD i false = false := by
    rcases Nat.lt_or_ge i listed.size with h' | h'
    · simp [h'] at hi ⊢; exact hi
    · simp [Array.getElem?_eq_none h']
  have h := List.all_eq_true.1 hD j hj
  simp only [Bool.or_eq_true, beq_iff_eq] at h
  rcases h with h | h
  · exact hji h
  · obtain ⟨_, oj, hoj, hall⟩ := mem_ready.1 hr
    simp only [hoj] at h
    obtain ⟨e, he, hb⟩ := Array.any_eq_true'.1 h
    simp only [Bool.and_eq_true, decide_eq_true_eq, List.contains_iff_mem] at hb
    have := hall e he hb.1.1
    rw [desc_unlisted hD hc hi' e.on hb.1.2] at this
    cases this

theorem Closed.set {i : Nat} {listed : Array Bool} (hc : Closed md ops listed) (hi : i ∈ Region.ready md ops listed) : Closed md ops (listed.setIfInBounds i true) := by
  obtain ⟨_, oi, hoi, hall⟩ := mem_ready.1 hi
  intro j oj hj hl e he hb
  by_cases hij : i = j
  · subst hij
    have : oj = oi := Option.some.inj (hj.symm.trans hoi)
    subst this
    exact getD_set_true (hall e he hb)
  · rw [getD_set_ne false hij] at hl
    exact getD_set_true (hc j oj hj hl e he hb)

theorem closed_none (n : Nat) : Closed md ops (Array.replicate n false) := by
  intro j oj _ hl
  rcases Nat.lt_or_ge j n with h | h <;> simp [h] at hl

/-- An operation that may come up and yields in every world that meets S may be taken first. -/
theorem wpAnyN_first {ns : List Nat} {i : Nat} {oi : Oper} {v : Value} {D : List Nat} (hi : ops[i]? = some oi) (hsel : ∀ (j : Nat) (o : Oper) cs b, ops[j]? = some o → o.op ≠ .select cs b)
    (hQ : ∀ c a w, Q (.panic c) (a.put oi.dst v) w → Q (.panic c) a w) (hD : descOK md ops i D = true) (hns : ∀ j ∈ ns, j ∈ D ∧ j ≠ i) :
    ∀ (fuel : Nat) (listed : Array Bool) (a : Act) (w : World), Closed md ops listed →
      (∀ j oj, ops[j]? = some oj → j ≠ i → listed.getD j true = false → (∀ e ∈ oj.after, Region.binds md e = true → e.on ≠ i) → oi.apart ops oj = true) →
      i ∈ Region.ready md ops listed → YieldsIf P ops S oi v a → S w →
      wpAnyN P md ops Q S ns fuel (listed.setIfInBounds i true) (a.put oi.dst v) w → wpAnyN P md ops Q S ns (fuel + 1) listed a w := by
  intro fuel
  induction fuel with
  | zero =>
    intro listed a w _ _ hr hy hS H
    refine ⟨fun h => (by rw [h] at hr; cases hr), fun j hj => ?_⟩
    by_cases hji : j = i
    · subst hji; exact hy.wpOp hi hS ⟨fun _ => hS, H⟩
    · have := ready_mono hj hji
      rw [H.1] at this
      cases this
  | succ fuel ih =>
    intro listed a w hc hfree hr hy hS H
    refine ⟨fun h => (by rw [h] at hr; cases hr), fun j hj => ?_⟩
    by_cases hji : j = i
    · subst hji; exact hy.wpOp hi hS ⟨fun _ => hS, H⟩
    · have h1 := H.2 j (ready_mono hj hji)
      obtain ⟨hjun, oj, hoj, hall⟩ := mem_ready.1 hj
      have hiun := (mem_ready.1 hr).1
      have hjns : ns.contains j = false := by
        cases hcj : ns.contains j with
        | false => rfl
        | true =>
          have hm := hns j (List.contains_iff_mem.1 hcj)
          exact absurd hj (desc_not_ready hD hc hiun hm.2 hm.1)
      have hnot : ∀ e ∈ oj.after, Region.binds md e = true → e.on ≠ i := fun e he hb heq => by
        have h1 := hall e he hb
        rw [heq] at h1
        rcases Nat.lt_or_ge i listed.size with h' | h'
        · simp [h'] at hiun h1; rw [hiun] at h1; cases h1
        · simp [Array.getElem?_eq_none h'] at h1
      have h2 := wpOp_putIf hoj (hfree j oj hoj hji hjun hnot) (fun cs b => hsel i oi cs b hi) (fun cs b => hsel j oj cs b hoj) hQ hy h1
      have hfree' : ∀ k ok, ops[k]? = some ok → k ≠ i → (listed.setIfInBounds j true).getD k true = false →
          (∀ e ∈ ok.after, Region.binds md e = true → e.on ≠ i) → oi.apart ops ok = true := fun k ok hk hki hun hno => by
        refine hfree k ok hk hki ?_ hno
        by_cases hjk : j = k
        · subst hjk; exact hjun
        · rw [getD_set_ne true hjk] at hun; exact hun
      refine wpOp_mono (fun a' w' h3 => ⟨fun _ => h3.2.1 hjns, ih (listed.setIfInBounds j true) a' w' (hc.set hj) hfree' (ready_mono hr (Ne.symm hji)) h3.1 (h3.2.1 hjns) ?_⟩) h2
      rw [Array.setIfInBounds_comm _ _ hji]
      exact h3.2.2

/-- What waits, at whatever remove, for number i (i itself among them). -/
def descs (md : Region.Mode) (ops : Array Oper) (i : Nat) : List Nat :=
  (List.range ops.size).foldl (fun D k => if k == i || (match ops[k]? with
    | some ok => ok.after.any fun e => Region.binds md e && D.contains e.on && decide (e.on < k)
    | none => false) then k :: D else D) []

/-- The tree holds all orders that the region's edges let. -/
def lexOK (md : Region.Mode) (ops : Array Oper) (ns : List Nat) : Nat → Bool → Ord → Array Bool → Bool
  | 0, true, .done, listed => (Region.ready md ops listed).isEmpty
  | _, false, .stop, _ => true
  | n + 1, true, .q i r, listed => Region.free md ops listed i && (Region.ready md ops listed).contains i &&
      (descOK md ops i (descs md ops i) && ns.all (fun j => (descs md ops i).contains j && j != i)) && lexOK md ops ns n true r (listed.setIfInBounds i true)
  | n + 1, h, .l i r m, listed => (!h || Region.ready md ops listed == i :: m.alts) && (Region.ready md ops listed).contains i && (!ns.contains i || r.loud) && lexOK md ops ns n true r (listed.setIfInBounds i true) &&
      lexOK md ops ns (n + 1) false m listed
  | _, _, _, _ => false

theorem wpAnyN_of_lex {ns : List Nat} (hs : Region.noSelect ops = true) (hQ : ∀ c a d v w, Q (.panic c) (Act.put a d v) w → Q (.panic c) a w) (t : Ord) :
    (∀ (n : Nat) (listed : Array Bool) (a : Act) (w : World), lexOK md ops ns n true t listed = true → Closed md ops listed → (S w ∨ t.loud = true) → wpLex P ops S Q ns t a w → wpAnyN P md ops Q S ns n listed a w) ∧
    (∀ (n : Nat) (listed : Array Bool) (a : Act) (w : World), lexOK md ops ns (n + 1) false t listed = true → Closed md ops listed → wpLex P ops S Q ns t a w →
      ∀ j ∈ t.alts, wpOp P ops Q j (fun a' w' => (ns.contains j = false → S w') ∧ wpAnyN P md ops Q S ns n (listed.setIfInBounds j true) a' w') a w) := by
  induction t with
  | done =>
    refine ⟨fun n listed a w hk _ _ h => ?_, fun n listed a w _ _ _ j hj => by simp [Ord.alts] at hj⟩
    cases n with
    | zero => exact ⟨by simpa [lexOK] using hk, h⟩
    | succ n => simp [lexOK] at hk
  | stop =>
    refine ⟨fun n listed a w hk _ _ h => ?_, fun n listed a w _ _ _ j hj => by simp [Ord.alts] at hj⟩
    cases n <;> simp [lexOK] at hk
  | q i r ih =>
    refine ⟨fun n listed a w hk hc hS h => ?_, fun n listed a w _ _ _ j hj => by simp [Ord.alts] at hj⟩
    cases n with
    | zero => simp [lexOK] at hk
    | succ n =>
      simp only [lexOK, Bool.and_eq_true] at hk
      obtain ⟨⟨⟨hf, hr⟩, hD, hall⟩, hrest⟩ := hk
      obtain ⟨o, v, ho, hy, h'⟩ := h
      have hSw : S w := by
        rcases hS with h1 | h1
        · exact h1
        · simp [Ord.loud] at h1
      have hri : i ∈ Region.ready md ops listed := by simpa using hr
      refine wpAnyN_first ho (Region.noSelect_spec hs) (fun c a w => hQ c a _ _ w) hD (fun j hj => ?_) n listed a w hc (Region.free_spec ho hf) hri hy hSw ?_
      · have := List.all_eq_true.1 hall j hj
        simp only [Bool.and_eq_true, List.contains_iff_mem, bne_iff_ne] at this
        exact this
      · exact ih.1 n _ _ w hrest (hc.set hri) (.inl hSw) h'
  | l i r m ihr ihm =>
    have two : ∀ (n : Nat) (b : Bool) (listed : Array Bool) (a : Act) (w : World), lexOK md ops ns (n + 1) b (.l i r m) listed = true → Closed md ops listed → wpLex P ops S Q ns (.l i r m) a w →
        ∀ j ∈ (Ord.l i r m).alts, wpOp P ops Q j (fun a' w' => (ns.contains j = false → S w') ∧ wpAnyN P md ops Q S ns n (listed.setIfInBounds j true) a' w') a w := by
      intro n b listed a w hk hc h j hj
      simp only [lexOK, Bool.and_eq_true] at hk
      obtain ⟨⟨⟨⟨_, hr⟩, hn⟩, hrest⟩, hm⟩ := hk
      have hri : i ∈ Region.ready md ops listed := by simpa using hr
      rcases List.mem_cons.1 hj with rfl | hj
      · refine wpOp_mono (fun a' w' h' => ⟨h'.1, ihr.1 n _ _ w' hrest (hc.set hri) ?_ h'.2⟩) h.1
        cases hcj : ns.contains j with
        | false => exact .inl (h'.1 hcj)
        | true =>
          rw [hcj] at hn
          exact .inr (by simpa using hn)
      · exact ihm.2 n listed a w hm hc h.2 j hj
    refine ⟨fun n listed a w hk hc _ h => ?_, fun n listed a w hk hc h => two n false listed a w hk hc h⟩
    cases n with
    | zero => simp [lexOK] at hk
    | succ n =>
      have hk' := hk
      simp only [lexOK, Bool.and_eq_true, Bool.not_true, Bool.false_or, beq_iff_eq] at hk'
      have hr := hk'.1.1.1.1
      refine ⟨fun h0 => (by rw [hr] at h0; cases h0), fun j hj => ?_⟩
      rw [hr] at hj
      exact two n true listed a w hk hc h j hj

/-- The numbers of a region's operations that are taken first: what only reads. -/
def quietOp : Op → Bool
  | .move _ | .assign _ | .pick _ _ _ | .load _ _ | .nilCheck _ | .binOp _ _ _ _ _ | .unOp _ _ _ | .convert _ _ _ | .slice _ _ _ _ _ | .fieldAddr _ _ _ | .field _ _ _
  | .indexAddr _ _ _ | .index _ _ _ | .extract _ _ | .build _ _ | .makeInterface _ _ => true
  | _ => false

/-- The tree with the operations in it. -/
inductive OrdO where
  | done
  | stop
  | q (i : Nat) (o : Oper) (r : OrdO)
  | l (i : Nat) (o : Oper) (r m : OrdO)

def nthOp : List Oper → Nat → Oper
  | [], _ => { dst := none, op := .ready 0, type := 0, pos := "", after := #[], guard := none }
  | o :: _, 0 => o
  | _ :: l, n + 1 => nthOp l n

theorem nthOp_spec : ∀ (l : List Oper) (i : Nat), i < l.length → l[i]? = some (nthOp l i)
  | [], i, h => by simp at h
  | o :: l, 0, _ => rfl
  | o :: l, i + 1, h => by
    rw [List.getElem?_cons_succ]
    exact nthOp_spec l i (by simpa using h)

def Ord.fill (l : List Oper) : Ord → OrdO
  | .done => .done
  | .stop => .stop
  | .q i r => .q i (nthOp l i) (r.fill l)
  | .l i r m => .l i (nthOp l i) (r.fill l) (m.fill l)
def Ord.within (n : Nat) : Ord → Bool
  | .q i r => decide (i < n) && r.within n
  | .l i r m => decide (i < n) && r.within n && m.within n
  | _ => true

def wpLexO (P : Program) (ops : Array Oper) (S : World → Prop) (Q : Exit → Act → World → Prop) (ns : List Nat) : OrdO → Act → World → Prop
  | .done, a, w => Q .normal a w
  | .stop, _, _ => True
  | .q _ o r, a, w => ∃ v, YieldsIf P ops S o v a ∧ wpLexO P ops S Q ns r (a.put o.dst v) w
  | .l i o r m, a, w => (if Region.wanted o (yielded ops a.tmps) then o.wp P a w (fun a' w' => (ns.contains i = false → S w') ∧ wpLexO P ops S Q ns r a' w') Q
      else ((ns.contains i = false → S w) ∧ wpLexO P ops S Q ns r (a.put o.dst undef) w)) ∧ wpLexO P ops S Q ns m a w

theorem wpLex_of_O {ns : List Nat} (t : Ord) : t.within ops.size = true → ∀ (a : Act) (w : World), wpLexO P ops S Q ns (t.fill ops.toList) a w → wpLex P ops S Q ns t a w := by
  have hop : ∀ i, i < ops.size → ops[i]? = some (nthOp ops.toList i) := fun i h => by
    rw [← Array.getElem?_toList]
    exact nthOp_spec _ _ (by simpa using h)
  induction t with
  | done => exact fun _ a w h => h
  | stop => exact fun _ a w h => h
  | q i r ih =>
    intro hb a w ⟨v, hy, h⟩
    simp only [Ord.within, Bool.and_eq_true, decide_eq_true_eq] at hb
    exact ⟨_, v, hop i hb.1, hy, ih hb.2 _ _ h⟩
  | l i r m ihr ihm =>
    intro hb a w ⟨h, hm⟩
    simp only [Ord.within, Bool.and_eq_true, decide_eq_true_eq] at hb
    refine ⟨?_, ihm hb.2 _ _ hm⟩
    simp only [wpOp, hop i hb.1.1]
    split at h
    · rename_i hg
      rw [if_pos hg]
      exact .inl (Oper.wp_mono (fun a' w' h' => ⟨h'.1, ihr hb.1.2 _ _ h'.2⟩) h)
    · rename_i hg
      rw [if_neg hg]
      exact ⟨h.1, ihr hb.1.2 _ _ h.2⟩

/-- A region that draws its order. -/
theorem wp_region_lex {id : Nat} {a : Act} {w : World} {l : List Oper} (S : World → Prop) (ns : List Nat) (t : Ord) {t' : OrdO} (hm : P.follows .mixedOrders = true)
    (hk : (Region.noSelect l.toArray && t.within l.toArray.size && lexOK .any l.toArray ns l.toArray.size true t (Array.replicate l.toArray.size false)) = true)
    (hQ : ∀ c a d v w, Q (.panic c) (Act.put a d v) w → Q (.panic c) a w) (ht : t.fill l = t') (hS : S w.drew) (h : wpLexO P l.toArray S Q ns t' a w.drew) : (Code.region id l.toArray true).wp P Q a w := by
  simp only [Bool.and_eq_true] at hk
  subst ht
  exact wp_region_any hm (wpAny_of_N _ _ _ _ ((wpAnyN_of_lex (md := .any) (S := S) hk.1.1 hQ t).1 _ _ a w.drew hk.2 (closed_none _) (.inl hS) (wpLex_of_O t hk.1.2 _ _ (by simpa using h))))

/-- Of the blocks that stand in W every cell reads as it did. -/
def SameAt (W w' : World) : Prop := W.heap.size ≤ w'.heap.size ∧ ∀ b o, b < W.heap.size → w'.cell? ⟨b, o, none⟩ = W.cell? ⟨b, o, none⟩
theorem SameAt.refl (W : World) : SameAt W W := ⟨Nat.le_refl _, fun _ _ _ => rfl⟩
theorem SameAt.drew {W w : World} (h : SameAt W w) : SameAt W w.drew := h
theorem SameAt.alloc {W w : World} (h : SameAt W w) (o : Obj) : SameAt W (w.alloc o) :=
  ⟨by rw [World.size_alloc]; exact Nat.le_succ_of_le h.1, fun b j hb => (World.cell?_alloc_lt w o ⟨b, j, none⟩ (Nat.lt_of_lt_of_le hb h.1)).trans (h.2 b j hb)⟩
theorem SameAt.below {W w w' : World} (h : SameAt W w) (k : RowKit.Below w.heap.size w w') : SameAt W w' :=
  ⟨Nat.le_trans h.1 k.size, fun b j hb => (k.cell (p := ⟨b, j, none⟩) (Nat.lt_of_lt_of_le hb h.1)).trans (h.2 b j hb)⟩

/-- The same, S being: the cells that stood at its start are as they were. -/
theorem wp_region_same {id : Nat} {a : Act} {w : World} {l : List Oper} (ns : List Nat) (t : Ord) {t' : OrdO} (hm : P.follows .mixedOrders = true)
    (hk : (Region.noSelect l.toArray && t.within l.toArray.size && lexOK .any l.toArray ns l.toArray.size true t (Array.replicate l.toArray.size false)) = true)
    (hQ : ∀ c a d v w, Q (.panic c) (Act.put a d v) w → Q (.panic c) a w) (ht : t.fill l = t') (h : SameAt w w.drew → wpLexO P l.toArray (SameAt w) Q ns t' a w.drew) : (Code.region id l.toArray true).wp P Q a w :=
  wp_region_lex (SameAt w) ns t hm hk hQ ht (SameAt.refl w) (h (SameAt.refl w))

theorem step_and {A S X : Prop} (hs : S) (h : S → X) : (A → S) ∧ X := ⟨fun _ => hs, h hs⟩
theorem step_last {A X : Prop} (ha : ¬ A) {S : Prop} (h : X) : (A → S) ∧ X := ⟨fun x => absurd x ha, h⟩

theorem lexO_take {ns : List Nat} {i : Nat} {r : OrdO} {a : Act} {w : World} {o : Oper} (v : Value) (hg : Region.wanted o (yielded ops a.tmps) = true)
    (hy : ∀ w, S w → (execOp a.eval o).run P w = .ok (.value v) w) (h : wpLexO P ops S Q ns r (a.put o.dst v) w) : wpLexO P ops S Q ns (.q i o r) a w :=
  ⟨v, .inl ⟨hg, hy⟩, h⟩

/-- An operation ends with a value, or it halts. -/
def Plain {α : Type} (f : α → Next) (r : Result Next) : Prop := (∃ u w, r = .ok (f u) w) ∨ ∃ h w, r = .halt h w

theorem plain_bind (s : Sem Value) (w : World) : Plain Next.value ((do pure (Next.value (← s)) : Sem Next).run P w) := by
  simp only [Sem.run_bind]
  cases s.run P w with
  | ok u w' => exact .inl ⟨u, w', rfl⟩
  | halt h w' => exact .inr ⟨h, w', rfl⟩

theorem quiet_next {o : Oper} (h : quietOp o.op = true) (ρ : Operand → Value) (w : World) : Plain Next.value ((execOp ρ o).run P w) := by
  obtain ⟨dst, op, type, pos, after, guard⟩ := o
  cases op <;> simp only [quietOp, Bool.false_eq_true] at h <;> simp only [execOp]
  case move => exact .inl ⟨_, _, rfl⟩
  case assign => exact .inl ⟨_, _, rfl⟩
  case pick c a b =>
    simp only [Sem.run_bind]
    cases (asBool (ρ c)).run P w with
    | ok u w' => exact .inl ⟨_, w', rfl⟩
    | halt h w' => exact .inr ⟨h, w', rfl⟩
  case nilCheck x =>
    split
    · exact .inr ⟨_, _, rfl⟩
    · exact .inr ⟨_, _, rfl⟩
    · exact .inr ⟨_, _, rfl⟩
    · split
      · exact .inr ⟨_, _, rfl⟩
      · simp only [Sem.run_bind]
        cases program.run P w with
        | halt h w' => exact .inr ⟨h, w', rfl⟩
        | ok p w' =>
          simp only [Result.andThen_ok]
          generalize (nilAhead _ _ _ _).run P w' = r
          cases r with
          | halt h w' => exact .inr ⟨h, w', rfl⟩
          | ok b w'' =>
            simp only [Result.andThen_ok]
            split
            · exact .inr ⟨_, _, rfl⟩
            · exact .inl ⟨_, _, rfl⟩
      · exact .inl ⟨_, _, rfl⟩
    · exact .inl ⟨_, _, rfl⟩
  all_goals exact plain_bind _ _

/-- The slot that it writes is one of the frame's. -/
def slotOK (o : Oper) (n : Nat) : Bool := match o.dst with | some d => decide (d < n) | none => false

/-- What only reads, carried out in whatever world meets S, before whatever follows: taken first. -/
theorem lexO_take2 {ns : List Nat} {i : Nat} {r : OrdO} {a : Act} {w : World} {o : Oper} (a' : Act) (hg : Region.wanted o (yielded ops a.tmps) = true) (hq : (quietOp o.op && slotOK o a.tmps.size) = true)
    (hS : S w) (hy : ∀ w, S w → ∀ (K : Act → World → Prop) (Q' : Exit → Act → World → Prop), K a' w → o.wp P a w K Q') (h : wpLexO P ops S Q ns r a' w) : wpLexO P ops S Q ns (.q i o r) a w := by
  simp only [Bool.and_eq_true] at hq
  have key : ∀ w, S w → ∃ u, (execOp a.eval o).run P w = .ok (.value u) w ∧ a.put o.dst u = a' := by
    intro w hw
    have h1 := hy w hw (fun a'' w'' => a'' = a' ∧ w'' = w) (fun _ _ _ => False) ⟨rfl, rfl⟩
    unfold Oper.wp at h1
    rcases quiet_next (P := P) hq.1 a.eval w with ⟨u, w', hr⟩ | ⟨x, w', hr⟩
    · rw [hr] at h1
      obtain ⟨ha, hw'⟩ := h1
      subst hw'
      exact ⟨u, hr, ha⟩
    · rw [hr] at h1
      cases x <;> exact absurd h1 id
  obtain ⟨v, hv, hva⟩ := key w hS
  refine ⟨v, .inl ⟨hg, fun w2 hw2 => ?_⟩, by rw [hva]; exact h⟩
  obtain ⟨u, hu, hua⟩ := key w2 hw2
  rw [hu]
  have huv : a.put o.dst u = a.put o.dst v := hua.trans hva.symm
  cases hd : o.dst with
  | none => simp [slotOK, hd] at hq
  | some d =>
    have hlt : d < a.tmps.size := by simpa [slotOK, hd] using hq.2
    rw [hd] at huv
    have h2 := congrArg (fun a : Act => a.tmps[d]?) huv
    simp [Act.put, hlt] at h2
    rw [h2]

theorem lexO_pass {ns : List Nat} {i : Nat} {r : OrdO} {a : Act} {w : World} {o : Oper} (hg : Region.wanted o (yielded ops a.tmps) = false)
    (h : wpLexO P ops S Q ns r (a.put o.dst undef) w) : wpLexO P ops S Q ns (.q i o r) a w :=
  ⟨undef, .inr ⟨hg, rfl⟩, h⟩

theorem lexO_do {ns : List Nat} {i : Nat} {r m : OrdO} {a : Act} {w : World} {o : Oper} (hg : Region.wanted o (yielded ops a.tmps) = true)
    (h : ∀ K : Act → World → Prop, (∀ a' w', ((ns.contains i = false → S w') ∧ wpLexO P ops S Q ns r a' w') → K a' w') → o.wp P a w K Q) (hm : wpLexO P ops S Q ns m a w) : wpLexO P ops S Q ns (.l i o r m) a w :=
  ⟨by rw [if_pos hg]; exact h _ fun _ _ h => h, hm⟩

theorem lexO_leave {ns : List Nat} {i : Nat} {r m : OrdO} {a : Act} {w : World} {o : Oper} (hg : Region.wanted o (yielded ops a.tmps) = false) (hS : S w)
    (h : wpLexO P ops S Q ns r (a.put o.dst undef) w) (hm : wpLexO P ops S Q ns m a w) : wpLexO P ops S Q ns (.l i o r m) a w :=
  ⟨by rw [if_neg (by rw [hg]; exact Bool.false_ne_true)]; exact ⟨fun _ => hS, h⟩, hm⟩

theorem lexO_done {ns : List Nat} {a : Act} {w : World} (h : Q .normal a w) : wpLexO P ops S Q ns .done a w := h
theorem lexO_stop {ns : List Nat} {a : Act} {w : World} : wpLexO P ops S Q ns .stop a w := trivial
end
end Go.Proofs.YtmpifdanfnebpaaGreat
