/-
  The options of a message of DHCPv6, in plain Lean; a row of cells from a later place on.
-/
import Derived.Test.YtmpifdanfnebpaaGreatParts
namespace Go.Proofs.YtmpifdanfnebpaaGreat
open Go Go.RowKit

theorem RowAt.drop {w : World} {ok : Nat → Prop} {b o : Nat} {xs : List Value} (h : RowAt w ok (some ⟨b, o, none⟩) xs) (j : Nat) : RowAt w ok (some ⟨b, o + j, none⟩) (xs.drop j) := by
  have := h.part j xs.length
  rwa [List.take_of_length_le (by rw [List.length_drop]; omega)] at this

/-- The options that bytes are: 'none': nothing is said; 'some none': they are none. -/
def dOpts : List Int → Option (Option (List (List Int × List Int)))
  | [] => some (some [])
  | a :: b :: c :: d :: rest =>
    if 1000 < c * 256 + d then none
    else if (c * 256 + d).toNat ≤ rest.length then (dOpts (rest.drop (c * 256 + d).toNat)).map (Option.map (([a * 256 + b, c * 256 + d], rest.take (c * 256 + d).toNat) :: ·))
    else some none
  | _ => some none
termination_by l => l.length
decreasing_by simp; omega

theorem dOpts_nil : dOpts [] = some (some []) := by rw [dOpts]
theorem dOpts_few {l : List Int} (h0 : l ≠ []) (h : l.length < 4) : dOpts l = some none := by
  match l, h0, h with
  | [_], _, _ => rw [dOpts]; all_goals simp
  | [_, _], _, _ => rw [dOpts]; all_goals simp
  | [_, _, _], _, _ => rw [dOpts]; all_goals simp
theorem dOpts_open {a b c d : Int} {rest : List Int} (h : 1000 < c * 256 + d) : dOpts (a :: b :: c :: d :: rest) = none := by
  rw [dOpts, if_pos h]
theorem dOpts_long {a b c d : Int} {rest : List Int} (h : ¬ 1000 < c * 256 + d) (hl : ¬ (c * 256 + d).toNat ≤ rest.length) : dOpts (a :: b :: c :: d :: rest) = some none := by
  rw [dOpts, if_neg h, if_neg hl]
theorem dOpts_more {a b c d : Int} {rest : List Int} {N : Nat} (hN : c * 256 + d = (N : Int)) (h : ¬ 1000 < c * 256 + d) (hl : N ≤ rest.length) :
    dOpts (a :: b :: c :: d :: rest) = (dOpts (rest.drop N)).map (Option.map (([a * 256 + b, (N : Int)], rest.take N) :: ·)) := by
  have e : (c * 256 + d).toNat = N := by omega
  rw [dOpts, if_neg h, e, if_pos hl, hN]

/-- What is read so far, and what is still to read. -/
def Reads (all : List Int) (done : List (List Int × List Int)) (l : List Int) : Prop := dOpts all = (dOpts l).map (Option.map (done ++ ·))
theorem Reads.start (all : List Int) : Reads all [] all := by
  unfold Reads
  cases dOpts all with
  | none => rfl
  | some x => cases x <;> rfl
theorem Reads.more {all l l' : List Int} {done : List (List Int × List Int)} {p : List Int × List Int} (h : Reads all done l) (hl : dOpts l = (dOpts l').map (Option.map (p :: ·))) : Reads all (done ++ [p]) l' := by
  unfold Reads at *
  rw [h, hl]
  cases dOpts l' with
  | none => rfl
  | some x => cases x <;> simp
theorem four {l : List Int} (h : 4 ≤ l.length) : ∃ a b c d rest, l = a :: b :: c :: d :: rest := by
  match l, h with
  | a :: b :: c :: d :: rest, _ => exact ⟨_, _, _, _, _, rfl⟩

theorem SD.three {w : World} {ok : Nat → Prop} {u v x : Value} {us vs xs : List Int} {b : Nat} {e : TypeId} {f : Nat × Nat} (h : w.heap[b]? = some (.cells #[u, v, x] e f)) (ho : ok b) (hu : SB w ok u us) (hv : SB w ok v vs) (hx : SB w ok x xs) : SD w ok (.slice (some ⟨b, 0, none⟩) 3 3) [us, vs, xs] := by
  refine ⟨[u, v, x], rfl, IsSl.block (n := 3) h ho (by omega), fun j y d hy hd => ?_⟩
  rcases j with _ | _ | _ | j <;> simp at hy hd <;> subst hy hd <;> assumption
end Go.Proofs.YtmpifdanfnebpaaGreat
