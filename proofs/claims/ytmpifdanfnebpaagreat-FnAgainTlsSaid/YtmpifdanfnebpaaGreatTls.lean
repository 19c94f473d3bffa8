/-
  The records of TLS, in plain Lean.
-/
import Derived.Test.YtmpifdanfnebpaaGreatOpts
namespace Go.Proofs.YtmpifdanfnebpaaGreat
open Go Go.RowKit

/-- What a record is told as: which list, and its part; 'none': nothing is said. -/
def tRec (a v : Int) (body : List Int) : Option (Nat × (List Int × List Int)) :=
  if a = 20 then (if body = [1] then some (0, ([0, 20, v, 1, 1], [])) else none)
  else if a = 21 then (match body with | [p, q] => some (3, ([3, 21, v, 2, p, q], [])) | _ => none)
  else if a = 22 then some (1, ([1, 22, v, (body.length : Int)], []))
  else some (2, ([2, 23, v, (body.length : Int)], body))

/-- The records that bytes are: 'none': nothing is said; 'some none': they are none. -/
def dTls : List Int → Option (Option (List (Nat × (List Int × List Int))))
  | [] => some (some [])
  | a :: b :: c :: d :: e :: rest =>
    if a < 20 ∨ 23 < a then some none
    else if rest.length < (d * 256 + e).toNat then some none
    else match tRec a (b * 256 + c) (rest.take (d * 256 + e).toNat) with
      | none => none
      | some r => (dTls (rest.drop (d * 256 + e).toNat)).map (Option.map (r :: ·))
  | _ => some none
termination_by l => l.length
decreasing_by simp; omega

theorem dTls_nil : dTls [] = some (some []) := by rw [dTls]
theorem dTls_few {l : List Int} (h0 : l ≠ []) (h : l.length < 5) : dTls l = some none := by
  match l, h0, h with
  | [_], _, _ => rw [dTls]; all_goals simp
  | [_, _], _, _ => rw [dTls]; all_goals simp
  | [_, _, _], _, _ => rw [dTls]; all_goals simp
  | [_, _, _, _], _, _ => rw [dTls]; all_goals simp
theorem dTls_kind {a b c d e : Int} {rest : List Int} (h : a < 20 ∨ 23 < a) : dTls (a :: b :: c :: d :: e :: rest) = some none := by rw [dTls, if_pos h]
theorem dTls_long {a b c d e : Int} {rest : List Int} {N : Nat} (hN : d * 256 + e = (N : Int)) (h : rest.length < N) : dTls (a :: b :: c :: d :: e :: rest) = some none := by
  have e1 : (d * 256 + e).toNat = N := by omega
  rw [dTls, e1]
  by_cases hk : a < 20 ∨ 23 < a
  · rw [if_pos hk]
  · rw [if_neg hk, if_pos h]
theorem dTls_open {a b c d e : Int} {rest : List Int} {N : Nat} (hN : d * 256 + e = (N : Int)) (hk : ¬ (a < 20 ∨ 23 < a)) (h : N ≤ rest.length) (ho : tRec a (b * 256 + c) (rest.take N) = none) : dTls (a :: b :: c :: d :: e :: rest) = none := by
  have e1 : (d * 256 + e).toNat = N := by omega
  rw [dTls, if_neg hk, e1, if_neg (by omega), ho]
theorem dTls_more {a b c d e : Int} {rest : List Int} {N : Nat} (hN : d * 256 + e = (N : Int)) (hk : ¬ (a < 20 ∨ 23 < a)) (h : N ≤ rest.length) {r : Nat × (List Int × List Int)} (ho : tRec a (b * 256 + c) (rest.take N) = some r) :
    dTls (a :: b :: c :: d :: e :: rest) = (dTls (rest.drop N)).map (Option.map (r :: ·)) := by
  have e1 : (d * 256 + e).toNat = N := by omega
  rw [dTls, if_neg hk, e1, if_neg (by omega), ho]

/-- The parts of the list number i. -/
def tOf (i : Nat) (rs : List (Nat × (List Int × List Int))) : List (List Int × List Int) := rs.filterMap fun r => if r.1 = i then some r.2 else none
theorem tOf_nil (i : Nat) : tOf i [] = [] := rfl
theorem tOf_snoc_same (i : Nat) (rs : List (Nat × (List Int × List Int))) (p : List Int × List Int) : tOf i (rs ++ [(i, p)]) = tOf i rs ++ [p] := by simp [tOf]
theorem tOf_snoc_other {i j : Nat} (h : j ≠ i) (rs : List (Nat × (List Int × List Int))) (p : List Int × List Int) : tOf i (rs ++ [(j, p)]) = tOf i rs := by simp [tOf, h]
/-- All parts, list by list. -/
def tAll (rs : List (Nat × (List Int × List Int))) : List (List Int × List Int) := tOf 0 rs ++ (tOf 1 rs ++ (tOf 2 rs ++ tOf 3 rs))

/-- What is read so far, and what is still to read. -/
def ReadsT (all : List Int) (done : List (Nat × (List Int × List Int))) (l : List Int) : Prop := dTls all = (dTls l).map (Option.map (done ++ ·))
theorem ReadsT.start (all : List Int) : ReadsT all [] all := by
  unfold ReadsT
  cases dTls all with
  | none => rfl
  | some x => cases x <;> rfl
theorem ReadsT.more {all l l' : List Int} {done : List (Nat × (List Int × List Int))} {p : Nat × (List Int × List Int)} (h : ReadsT all done l) (hl : dTls l = (dTls l').map (Option.map (p :: ·))) : ReadsT all (done ++ [p]) l' := by
  unfold ReadsT at *
  rw [h, hl]
  cases dTls l' with
  | none => rfl
  | some x => cases x <;> simp
theorem five {l : List Int} (h : 5 ≤ l.length) : ∃ a b c d e rest, l = a :: b :: c :: d :: e :: rest := by
  match l, h with
  | a :: b :: c :: d :: e :: rest, _ => exact ⟨_, _, _, _, _, _, rfl⟩
end Go.Proofs.YtmpifdanfnebpaaGreat
