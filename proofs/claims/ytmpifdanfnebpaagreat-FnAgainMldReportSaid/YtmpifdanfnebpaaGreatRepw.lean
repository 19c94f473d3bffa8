/-
  The records of a report of MLDv2 that are written as they were, in plain Lean.
-/
import Derived.Test.YtmpifdanfnebpaaGreatD2report
namespace Go.Proofs.YtmpifdanfnebpaaGreat
open Go Go.RowKit

/-- A record as bytes. -/
def rB (p : List Int × List Int) : List Int := match p.1 with
  | [t, a, n, _] => t :: a :: n / 256 :: n % 256 :: p.2
  | _ => []
/-- What a record is like. -/
def OkM (p : List Int × List Int) : Prop := ∃ (t a : Int) (N : Nat), p.1 = [t, a, (N : Int), (N : Int)] ∧ (0 ≤ t ∧ t ≤ 255) ∧ (0 ≤ a ∧ a ≤ 255) ∧ N ≤ 25 ∧ p.2.length = 16 + 16 * N + 4 * a.toNat ∧ p.2.length ≤ 400
theorem rB_len {p : List Int × List Int} (h : OkM p) : (rB p).length = 4 + p.2.length := by
  obtain ⟨t, a, N, h1, -⟩ := h
  simp [rB, h1]
  omega
/-- How many bytes parts are. -/
def sumR (ps : List (List Int × List Int)) : Nat := (ps.map fun p => 4 + p.2.length).sum
theorem sumR_len {ps : List (List Int × List Int)} (h : ∀ p ∈ ps, OkM p) : sumR ps = (ps.flatMap rB).length := by
  induction ps with
  | nil => rfl
  | cons p ps ih =>
    have h1 := ih (fun q hq => h q (by simp [hq]))
    have h2 := rB_len (h p (by simp))
    simp only [sumR, List.map_cons, List.sum_cons, List.flatMap_cons, List.length_append] at h1 ⊢
    omega
theorem sumR_snoc {ps : List (List Int × List Int)} {k : Nat} {p : List Int × List Int} (h : ps[k]? = some p) : sumR (ps.take (k + 1)) = sumR (ps.take k) + (4 + p.2.length) := by
  rw [List.take_add_one, h]
  simp [sumR]
theorem sumR_take (ps : List (List Int × List Int)) (k : Nat) : sumR (ps.take k) ≤ sumR ps := by
  have e : sumR ps = sumR (ps.take k) + sumR (ps.drop k) := by
    unfold sumR
    rw [← List.sum_append, ← List.map_append, List.take_append_drop]
  omega

/-- Records that are read are the bytes that they were. -/
theorem dRecs_back : ∀ (M : Nat) (l : List Int) (ps : List (List Int × List Int)), l.length ≤ 400 → (∀ z ∈ l, 0 ≤ z ∧ z ≤ 255) → dRecs M l = some ps → (∀ p ∈ ps, OkM p) ∧ ∃ t, l = ps.flatMap rB ++ t := by
  intro M
  induction M with
  | zero =>
    intro l ps _ _ h
    simp [dRecs] at h
    subst h
    exact ⟨by simp, l, rfl⟩
  | succ M ih =>
    intro l ps hl hb h
    match l, hl, hb, h with
    | [], _, _, h => cases h
    | [_], _, _, h => cases h
    | [_, _], _, _, h => cases h
    | [_, _, _], _, _, h => cases h
    | a :: b :: c :: d :: rest, hl, hb, h =>
      have ba := hb a (by simp)
      have bb := hb b (by simp)
      have bc := hb c (by simp)
      have bd := hb d (by simp)
      obtain ⟨N, hN⟩ : ∃ N : Nat, c * 256 + d = (N : Int) := ⟨(c * 256 + d).toNat, by omega⟩
      obtain ⟨S, hS⟩ : ∃ S, S = 16 + (16 * N + 4 * b.toNat) := ⟨_, rfl⟩
      by_cases hf : S ≤ rest.length
      · rw [dRecs_more hN hS hf] at h
        simp only [List.length_cons] at hl
        cases hr : dRecs M (rest.drop S) with
        | none => rw [hr] at h; cases h
        | some qs =>
          rw [hr] at h
          simp at h
          obtain ⟨g1, t, g2⟩ := ih _ qs (by simp; omega) (fun z hz => hb z (by have := List.mem_of_mem_drop hz; simp [this])) hr
          subst h
          have hl2 : (rest.take S).length = S := by rw [List.length_take]; omega
          refine ⟨fun p hp => ?_, t, ?_⟩
          · rcases List.mem_cons.1 hp with rfl | hp
            · exact ⟨a, b, N, rfl, ba, bb, by omega, by rw [hl2]; omega, by rw [hl2]; omega⟩
            · exact g1 p hp
          · rw [List.flatMap_cons, List.append_assoc, ← g2]
            have e1 : (N : Int) / 256 = c := by omega
            have e2 : (N : Int) % 256 = d := by omega
            simp [rB, e1, e2]
      · exact absurd h (by rw [dRecs_long (S := S) (by rw [hS, hN]; simp) hf]; simp)
end Go.Proofs.YtmpifdanfnebpaaGreat
