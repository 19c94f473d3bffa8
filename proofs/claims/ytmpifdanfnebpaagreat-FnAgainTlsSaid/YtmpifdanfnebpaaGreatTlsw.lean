/-
  The records of TLS that are written as they were, in plain Lean.
-/
import Derived.Test.YtmpifdanfnebpaaGreatTlsE
namespace Go.Proofs.YtmpifdanfnebpaaGreat
open Go Go.RowKit

theorem Four.ext2 {α : Type} {E : Nat → Elem α} {T : Nat → TypeId} {J : Nat} {w : World} {X base : Nat} {ok : Nat → Prop} {v : Nat → Value} {xs ys : Nat → List α} (h : Four E T J w X base ok v xs) (he : ∀ i, xs i = ys i) : Four E T J w X base ok v ys := by
  have : xs = ys := funext he
  exact this ▸ h

/-- Whether records are in order, and none is a handshake. -/
def pRecs : Nat → List (Nat × (List Int × List Int)) → Bool
  | _, [] => true
  | last, r :: rs => (decide (r.1 ≠ 1) && decide (last ≤ r.1)) && pRecs r.1 rs

/-- A part as bytes. -/
def tB (p : List Int × List Int) : List Int := match p.1 with
  | _ :: a :: v :: n :: r => a :: v / 256 :: v % 256 :: n / 256 :: n % 256 :: (r ++ p.2)
  | _ => []

def OkC (p : List Int × List Int) : Prop := ∃ v n m, p = ([0, 20, v, n, m], []) ∧ (0 ≤ v ∧ v ≤ 65535) ∧ (0 ≤ n ∧ n ≤ 65535) ∧ (0 ≤ m ∧ m ≤ 255)
def OkA (p : List Int × List Int) : Prop := ∃ v n d, p = ([2, 23, v, n], d) ∧ (0 ≤ v ∧ v ≤ 65535) ∧ (0 ≤ n ∧ n ≤ 65535) ∧ d.length ≤ 400
def OkL (p : List Int × List Int) : Prop := ∃ v n a b, p = ([3, 21, v, n, a, b], []) ∧ (0 ≤ v ∧ v ≤ 65535) ∧ (0 ≤ n ∧ n ≤ 65535) ∧ (0 ≤ a ∧ a ≤ 255) ∧ (0 ≤ b ∧ b ≤ 255)
/-- What a part is like: of the lists that are written. -/
def OkP (p : List Int × List Int) : Prop := OkC p ∨ OkA p ∨ OkL p
def OkR (r : Nat × (List Int × List Int)) : Prop := (r.1 = 0 ∧ OkC r.2) ∨ (r.1 = 2 ∧ OkA r.2) ∨ (r.1 = 3 ∧ OkL r.2)
theorem OkR.okP {r : Nat × (List Int × List Int)} (h : OkR r) : OkP r.2 := by
  rcases h with h | h | h
  · exact .inl h.2
  · exact .inr (.inl h.2)
  · exact .inr (.inr h.2)
theorem tB_len {p : List Int × List Int} (h : OkP p) : (tB p).length ≤ 407 := by
  rcases h with ⟨v, n, m, rfl, _⟩ | ⟨v, n, d, rfl, _, _, h⟩ | ⟨v, n, a, b, rfl, _⟩
  · simp [tB]
  · simp [tB]; omega
  · simp [tB]

/-- The parts of a list, by their first number. -/
def sel (i : Nat) (ps : List (List Int × List Int)) : List (List Int × List Int) := ps.filterMap fun p => if p.1.head? = some (i : Int) then some p else none
theorem sel_nil (i : Nat) : sel i [] = [] := rfl
theorem sel_same {ps : List (List Int × List Int)} {k i : Nat} {p : List Int × List Int} (h : ps[k]? = some p) (hp : p.1.head? = some (i : Int)) : sel i (ps.take (k + 1)) = sel i (ps.take k) ++ [p] := by
  rw [List.take_add_one, h]
  simp [sel, hp]
theorem sel_other {ps : List (List Int × List Int)} {k i j : Nat} {p : List Int × List Int} (h : ps[k]? = some p) (hp : p.1.head? = some (i : Int)) (hj : j ≠ i) : sel j (ps.take (k + 1)) = sel j (ps.take k) := by
  rw [List.take_add_one, h]
  have : ¬ (i : Int) = (j : Int) := by omega
  simp [sel, hp, this]
theorem sel_upd {ps : List (List Int × List Int)} {k i : Nat} {p : List Int × List Int} (h : ps[k]? = some p) (hp : p.1.head? = some (i : Int)) (j : Nat) : upd (fun j => sel j (ps.take k)) i (sel i (ps.take k) ++ [p]) j = sel j (ps.take (k + 1)) := by
  by_cases hj : j = i
  · subst hj
    rw [upd_same, sel_same h hp]
  · rw [upd_other _ _ hj, sel_other h hp hj]
theorem sel_le (i : Nat) (ps : List (List Int × List Int)) : (sel i ps).length ≤ ps.length := List.length_filterMap_le _ _
theorem sel_mem {i : Nat} {ps : List (List Int × List Int)} {p : List Int × List Int} (h : p ∈ sel i ps) : p ∈ ps ∧ p.1.head? = some (i : Int) := by
  obtain ⟨q, hq, he⟩ := List.mem_filterMap.1 h
  split at he
  · obtain rfl := Option.some.inj he
    exact ⟨hq, by assumption⟩
  · cases he
theorem sel0 {ps : List (List Int × List Int)} (hok : ∀ p ∈ ps, OkP p) : ∀ p ∈ sel 0 ps, OkC p := by
  intro p hp
  obtain ⟨h1, h2⟩ := sel_mem hp
  rcases hok p h1 with h | ⟨_, _, _, rfl, _⟩ | ⟨_, _, _, _, rfl, _⟩
  · exact h
  · simp at h2
  · simp at h2
theorem sel2 {ps : List (List Int × List Int)} (hok : ∀ p ∈ ps, OkP p) : ∀ p ∈ sel 2 ps, OkA p := by
  intro p hp
  obtain ⟨h1, h2⟩ := sel_mem hp
  rcases hok p h1 with ⟨_, _, _, rfl, _⟩ | h | ⟨_, _, _, _, rfl, _⟩
  · simp at h2
  · exact h
  · simp at h2
theorem sel3 {ps : List (List Int × List Int)} (hok : ∀ p ∈ ps, OkP p) : ∀ p ∈ sel 3 ps, OkL p := by
  intro p hp
  obtain ⟨h1, h2⟩ := sel_mem hp
  rcases hok p h1 with ⟨_, _, _, rfl, _⟩ | ⟨_, _, _, rfl, _⟩ | h
  · simp at h2
  · simp at h2
  · exact h
theorem sel1 {ps : List (List Int × List Int)} (hok : ∀ p ∈ ps, OkP p) : sel 1 ps = [] := by
  match h : sel 1 ps with
  | [] => rfl
  | p :: qs =>
    obtain ⟨h1, h2⟩ := sel_mem (i := 1) (ps := ps) (p := p) (by rw [h]; simp)
    rcases hok p h1 with ⟨_, _, _, rfl, _⟩ | ⟨_, _, _, rfl, _⟩ | ⟨_, _, _, _, rfl, _⟩ <;> simp at h2
theorem sel_tOf {rs : List (Nat × (List Int × List Int))} (hok : ∀ r ∈ rs, OkR r) (i : Nat) : sel i (rs.map (·.2)) = tOf i rs := by
  induction rs with
  | nil => rfl
  | cons r rs ih =>
    have h1 := ih (fun r hr => hok r (by simp [hr]))
    have h2 : r.2.1.head? = some (r.1 : Int) := by
      rcases hok r (by simp) with ⟨e, _, _, _, h, _⟩ | ⟨e, _, _, _, h, _⟩ | ⟨e, _, _, _, _, h, _⟩ <;> rw [h, e] <;> rfl
    simp only [sel, tOf, List.map_cons, List.filterMap_cons] at h1 ⊢
    by_cases hi : r.1 = i
    · subst hi
      rw [if_pos h2, if_pos rfl, h1]
    · rw [if_neg (by rw [h2]; intro e; have := Option.some.inj e; omega), if_neg hi, h1]
theorem tOf_low {rs : List (Nat × (List Int × List Int))} : ∀ (last : Nat), pRecs last rs = true → ∀ i, i < last → tOf i rs = [] := by
  induction rs with
  | nil => intro last _ i _; rfl
  | cons r rs ih =>
    intro last h i hi
    simp only [pRecs, Bool.and_eq_true, decide_eq_true_eq] at h
    have := ih _ h.2 i (by omega)
    simp only [tOf, List.filterMap_cons] at this ⊢
    rw [if_neg (by omega), this]
theorem tAll_sorted {rs : List (Nat × (List Int × List Int))} : ∀ (last : Nat), (∀ r ∈ rs, OkR r) → pRecs last rs = true → tAll rs = rs.map (·.2) := by
  induction rs with
  | nil => intro last _ _; rfl
  | cons r rs ih =>
    intro last hok h
    simp only [pRecs, Bool.and_eq_true, decide_eq_true_eq] at h
    have h1 := ih _ (fun r hr => hok r (by simp [hr])) h.2
    have hl := tOf_low _ h.2
    have hc : ∀ i, tOf i (r :: rs) = if r.1 = i then r.2 :: tOf i rs else tOf i rs := by
      intro i
      simp only [tOf, List.filterMap_cons]
      by_cases hi : r.1 = i
      · rw [if_pos hi, if_pos hi]
      · rw [if_neg hi, if_neg hi]
    unfold tAll at h1 ⊢
    rw [List.map_cons, ← h1, hc 0, hc 1, hc 2, hc 3]
    rcases hok r (by simp) with ⟨e, _⟩ | ⟨e, _⟩ | ⟨e, _⟩
    · rw [e]; simp
    · rw [e] at hl ⊢
      rw [hl 0 (by omega), hl 1 (by omega)]
      simp
    · rw [e] at hl ⊢
      rw [hl 0 (by omega), hl 1 (by omega), hl 2 (by omega)]
      simp
theorem flat_tAll {rs : List (Nat × (List Int × List Int))} (hok : ∀ r ∈ rs, OkR r) {last : Nat} (h : pRecs last rs = true) :
    (sel 0 (tAll rs)).flatMap tB ++ ((sel 2 (tAll rs)).flatMap tB ++ (sel 3 (tAll rs)).flatMap tB) = rs.flatMap (fun r => tB r.2) := by
  have h1 := tAll_sorted last hok h
  have h2 : tOf 1 rs = [] := by
    rw [← sel_tOf hok 1]
    exact sel1 (fun p hp => by obtain ⟨r, hr, rfl⟩ := List.mem_map.1 hp; exact (hok r hr).okP)
  rw [h1, sel_tOf hok, sel_tOf hok, sel_tOf hok]
  have h3 : rs.flatMap (fun r => tB r.2) = (rs.map (·.2)).flatMap tB := by rw [List.flatMap_map]
  rw [h3, ← h1]
  unfold tAll
  rw [h2]
  simp

/-- Records that are read, in order and without handshakes, are written as they were. -/
theorem dTls_back : ∀ (m : Nat) (last : Nat) (l : List Int) (rs : List (Nat × (List Int × List Int))), l.length ≤ m → l.length ≤ 400 → (∀ z ∈ l, 0 ≤ z ∧ z ≤ 255) → dTls l = some (some rs) → pRecs last rs = true → (∀ r ∈ rs, OkR r) ∧ rs.flatMap (fun r => tB r.2) = l := by
  intro m
  induction m with
  | zero =>
    intro last l rs hl _ _ h _
    obtain rfl := List.eq_nil_of_length_eq_zero (by omega : l.length = 0)
    rw [dTls_nil] at h
    simp at h
    subst h
    simp
  | succ m ih =>
    intro last l rs hl h4 hb h hp
    by_cases h0 : l = []
    · subst h0
      rw [dTls_nil] at h
      simp at h
      subst h
      simp
    · by_cases h5 : l.length < 5
      · rw [dTls_few h0 h5] at h
        simp at h
      · obtain ⟨a, b, c, d, e, rest, rfl⟩ := five (l := l) (by omega)
        have ba := hb a (by simp)
        have bb := hb b (by simp)
        have bc := hb c (by simp)
        have bd := hb d (by simp)
        have be := hb e (by simp)
        have hbr : ∀ z ∈ rest, 0 ≤ z ∧ z ≤ 255 := fun z hz => hb z (by simp [hz])
        obtain ⟨N, hN⟩ : ∃ N : Nat, d * 256 + e = (N : Int) := ⟨(d * 256 + e).toNat, by omega⟩
        by_cases hk : a < 20 ∨ 23 < a
        · rw [dTls_kind hk] at h
          simp at h
        · by_cases hr : rest.length < N
          · rw [dTls_long hN hr] at h
            simp at h
          · have hNr : N ≤ rest.length := by omega
            cases ht : tRec a (b * 256 + c) (rest.take N) with
            | none => rw [dTls_open hN hk hNr ht] at h; cases h
            | some r =>
              rw [dTls_more hN hk hNr ht] at h
              cases hd : dTls (rest.drop N) with
              | none => rw [hd] at h; cases h
              | some x =>
                cases x with
                | none => rw [hd] at h; simp at h
                | some qs =>
                  rw [hd] at h
                  simp at h
                  subst h
                  simp only [pRecs, Bool.and_eq_true, decide_eq_true_eq] at hp
                  simp only [List.length_cons] at hl h4
                  obtain ⟨g1, g2⟩ := ih r.1 _ qs (by simp; omega) (by simp; omega) (fun z hz => hbr z (List.mem_of_mem_drop hz)) hd hp.2
                  have hl2 : (rest.take N).length = N := by rw [List.length_take]; omega
                  have hv : (b * 256 + c) / 256 = b ∧ (b * 256 + c) % 256 = c := by constructor <;> omega
                  have hbt : ∀ z ∈ rest.take N, 0 ≤ z ∧ z ≤ 255 := fun z hz => hbr z (List.mem_of_mem_take hz)
                  have key : OkR r ∧ tB r.2 = a :: b :: c :: d :: e :: rest.take N := by
                    unfold tRec at ht
                    split at ht
                    · rename_i h20
                      split at ht
                      · rename_i h1
                        obtain rfl := Option.some.inj ht
                        have hN1 : N = 1 := by rw [h1] at hl2; simpa using hl2.symm
                        have : d = 0 ∧ e = 1 := by omega
                        refine ⟨.inl ⟨rfl, _, _, _, rfl, by omega, by omega, by omega⟩, ?_⟩
                        rw [h1, this.1, this.2, h20]
                        simp [tB, hv]
                      · cases ht
                    · split at ht
                      · rename_i h21
                        split at ht
                        · rename_i p q h2
                          obtain rfl := Option.some.inj ht
                          have hN1 : N = 2 := by rw [h2] at hl2; simpa using hl2.symm
                          have : d = 0 ∧ e = 2 := by omega
                          have bp := hbt p (by rw [h2]; simp)
                          have bq := hbt q (by rw [h2]; simp)
                          refine ⟨.inr (.inr ⟨rfl, _, _, _, _, rfl, by omega, by omega, bp, bq⟩), ?_⟩
                          rw [h2, this.1, this.2, h21]
                          simp [tB, hv]
                        · cases ht
                      · split at ht
                        · obtain rfl := Option.some.inj ht
                          exact absurd rfl hp.1.1
                        · rename_i h20 h21 h22
                          obtain rfl := Option.some.inj ht
                          have h23 : a = 23 := by omega
                          refine ⟨.inr (.inl ⟨rfl, _, _, _, rfl, by omega, by rw [hl2]; omega, by rw [hl2]; omega⟩), ?_⟩
                          have hn : ((rest.take N).length : Int) / 256 = d ∧ ((rest.take N).length : Int) % 256 = e := by rw [hl2]; constructor <;> omega
                          rw [h23]
                          simp only [tB, hv.1, hv.2, hn.1, hn.2, List.nil_append]
                  refine ⟨fun r' hr' => ?_, ?_⟩
                  · rcases List.mem_cons.1 hr' with rfl | hr'
                    · exact key.1
                    · exact g1 r' hr'
                  · rw [List.flatMap_cons, g2, key.2]
                    simp
theorem dTls_end {l : List Int} {rs : List (Nat × (List Int × List Int))} (h : dTls l = some (some rs)) (h5 : l.length < 5) : l = [] ∧ rs = [] := by
  by_cases h0 : l = []
  · subst h0
    rw [dTls_nil] at h
    simp at h
    exact ⟨rfl, h⟩
  · rw [dTls_few h0 h5] at h
    simp at h
theorem dTls_inv {a b c d e : Int} {rest : List Int} {rs : List (Nat × (List Int × List Int))} (h : dTls (a :: b :: c :: d :: e :: rest) = some (some rs)) {N : Nat} (hN : d * 256 + e = (N : Int)) :
    N ≤ rest.length ∧ ∃ r rs', rs = r :: rs' ∧ dTls (rest.drop N) = some (some rs') ∧ ((a = 20 ∧ r.1 = 0) ∨ (a = 21 ∧ r.1 = 3) ∨ (a = 22 ∧ r.1 = 1) ∨ (a = 23 ∧ r.1 = 2)) := by
  by_cases hk : a < 20 ∨ 23 < a
  · rw [dTls_kind hk] at h
    simp at h
  · by_cases hr : rest.length < N
    · rw [dTls_long hN hr] at h
      simp at h
    · have hNr : N ≤ rest.length := by omega
      refine ⟨hNr, ?_⟩
      cases ht : tRec a (b * 256 + c) (rest.take N) with
      | none => rw [dTls_open hN hk hNr ht] at h; cases h
      | some r =>
        rw [dTls_more hN hk hNr ht] at h
        cases hd : dTls (rest.drop N) with
        | none => rw [hd] at h; cases h
        | some x =>
          cases x with
          | none => rw [hd] at h; simp at h
          | some qs =>
            rw [hd] at h
            simp at h
            refine ⟨r, qs, h.symm, rfl, ?_⟩
            unfold tRec at ht
            split at ht
            · rename_i h20
              split at ht
              · obtain rfl := Option.some.inj ht
                exact .inl ⟨h20, rfl⟩
              · cases ht
            · split at ht
              · rename_i h21
                split at ht
                · obtain rfl := Option.some.inj ht
                  exact .inr (.inl ⟨h21, rfl⟩)
                · cases ht
              · split at ht
                · rename_i h22
                  obtain rfl := Option.some.inj ht
                  exact .inr (.inr (.inl ⟨h22, rfl⟩))
                · obtain rfl := Option.some.inj ht
                  exact .inr (.inr (.inr ⟨by omega, rfl⟩))
end Go.Proofs.YtmpifdanfnebpaaGreat
