/-
  The attributes of a message of RADIUS, in plain Lean.
-/
import Derived.Test.YtaejicpdaldpiaaGreatOpts
namespace Go.Proofs.YtaejicpdaldpiaaGreat
open Go Go.RowKit

/-- The attributes that bytes are: 'none': nothing is said; 'some none': they are none. -/
def dAttrs : List Int → Option (Option (List (List Int × List Int)))
  | [] => some (some [])
  | [_] => some none
  | a :: b :: rest =>
    if b < 2 ∨ rest.length + 2 < b.toNat then some none
    else if b = 2 then none
    else (dAttrs (rest.drop (b.toNat - 2))).map (Option.map (([a, b], rest.take (b.toNat - 2)) :: ·))
termination_by l => l.length
decreasing_by simp; omega

theorem dAttrs_nil : dAttrs [] = some (some []) := by rw [dAttrs]
theorem dAttrs_one (a : Int) : dAttrs [a] = some none := by rw [dAttrs]
theorem dAttrs_bad {a b : Int} {rest : List Int} (h : b < 2 ∨ rest.length + 2 < b.toNat) : dAttrs (a :: b :: rest) = some none := by rw [dAttrs, if_pos h]
theorem dAttrs_open {a : Int} {rest : List Int} : dAttrs (a :: 2 :: rest) = none := by
  rw [dAttrs, if_neg (by simp), if_pos rfl]
theorem dAttrs_more {a b : Int} {rest : List Int} {K : Nat} (hK : b = (K : Int) + 2) (h0 : 0 < K) (hl : K ≤ rest.length) :
    dAttrs (a :: b :: rest) = (dAttrs (rest.drop K)).map (Option.map (([a, b], rest.take K) :: ·)) := by
  have e : b.toNat - 2 = K := by omega
  rw [dAttrs, if_neg (by omega), if_neg (by omega), e]

/-- The values of type 79, one behind the other. -/
def rPay (ps : List (List Int × List Int)) : List Int := ps.flatMap fun p => if p.1.headD 0 = 79 then p.2 else []
theorem rPay_snoc (ps : List (List Int × List Int)) (a b : Int) (d : List Int) : rPay (ps ++ [([a, b], d)]) = rPay ps ++ (if a = 79 then d else []) := by
  by_cases h : a = 79 <;> simp [rPay, h]

/-- What is read so far, and what is still to read. -/
def ReadsA (all : List Int) (done : List (List Int × List Int)) (l : List Int) : Prop := dAttrs all = (dAttrs l).map (Option.map (done ++ ·))
theorem ReadsA.start (all : List Int) : ReadsA all [] all := by
  unfold ReadsA
  cases dAttrs all with
  | none => rfl
  | some x => cases x <;> rfl
theorem ReadsA.more {all l l' : List Int} {done : List (List Int × List Int)} {p : List Int × List Int} (h : ReadsA all done l) (hl : dAttrs l = (dAttrs l').map (Option.map (p :: ·))) : ReadsA all (done ++ [p]) l' := by
  unfold ReadsA at *
  rw [h, hl]
  cases dAttrs l' with
  | none => rfl
  | some x => cases x <;> simp
end Go.Proofs.YtaejicpdaldpiaaGreat
