/-
  The records of a report of MLDv2, in plain Lean.
-/
import Derived.Test.YtmpifdanfnebpaaGreatOpts
namespace Go.Proofs.YtmpifdanfnebpaaGreat
open Go Go.RowKit

/-- So many records of which bytes begin with; none if they do not. -/
def dRecs : Nat → List Int → Option (List (List Int × List Int))
  | 0, _ => some []
  | m + 1, a :: b :: c :: d :: rest =>
    if 16 + (16 * (c * 256 + d).toNat + 4 * b.toNat) ≤ rest.length then
      (dRecs m (rest.drop (16 + (16 * (c * 256 + d).toNat + 4 * b.toNat)))).map (([a, b, c * 256 + d, c * 256 + d], rest.take (16 + (16 * (c * 256 + d).toNat + 4 * b.toNat))) :: ·)
    else none
  | _ + 1, _ => none

theorem dRecs_few {m : Nat} {l : List Int} (h : l.length < 20) : dRecs (m + 1) l = none := by
  match l, h with
  | [], _ => rfl
  | [_], _ => rfl
  | [_, _], _ => rfl
  | [_, _, _], _ => rfl
  | a :: b :: c :: d :: rest, h =>
    simp only [dRecs]
    rw [if_neg (by simp at h; omega)]
theorem dRecs_long {m : Nat} {a b c d : Int} {rest : List Int} {S : Nat} (hS : S = 16 + (16 * (c * 256 + d).toNat + 4 * b.toNat)) (h : ¬ S ≤ rest.length) : dRecs (m + 1) (a :: b :: c :: d :: rest) = none := by
  subst hS
  simp only [dRecs]
  rw [if_neg h]
theorem dRecs_more {m : Nat} {a b c d : Int} {rest : List Int} {S N : Nat} (hN : c * 256 + d = (N : Int)) (hS : S = 16 + (16 * N + 4 * b.toNat)) (h : S ≤ rest.length) :
    dRecs (m + 1) (a :: b :: c :: d :: rest) = (dRecs m (rest.drop S)).map (([a, b, (N : Int), (N : Int)], rest.take S) :: ·) := by
  have e : (c * 256 + d).toNat = N := by omega
  subst hS
  simp only [dRecs, e]
  rw [if_pos h, hN]

/-- What is read so far, and what is still to read. -/
def ReadsR (M : Nat) (all : List Int) (done : List (List Int × List Int)) (m : Nat) (l : List Int) : Prop := dRecs M all = (dRecs m l).map (done ++ ·)
theorem ReadsR.start (M : Nat) (all : List Int) : ReadsR M all [] M all := by
  unfold ReadsR
  cases dRecs M all <;> rfl
theorem ReadsR.more {M m : Nat} {all l l' : List Int} {done : List (List Int × List Int)} {p : List Int × List Int} (h : ReadsR M all done (m + 1) l) (hl : dRecs (m + 1) l = (dRecs m l').map (p :: ·)) : ReadsR M all (done ++ [p]) m l' := by
  unfold ReadsR at *
  rw [h, hl]
  cases dRecs m l' with
  | none => rfl
  | some x => simp

def RecsPost (M : Nat) (all : List Int) (R : Nat) (e : Ending) (w' : World) : Prop :=
  (dRecs M all = none ∧ e = .returned (.tuple #[.agg #[.slice none 0 0, .slice none 0 0, .slice none 0 0, .slice none 0 0], .bool false, .bool true])) ∨
    ∃ ps v, dRecs M all = some ps ∧ e = .returned (.tuple #[v, .bool true, .bool true]) ∧ LayOn w' (fun b => b ≠ R) v ⟨[(M : Int)], [], ps, []⟩
end Go.Proofs.YtmpifdanfnebpaaGreat
