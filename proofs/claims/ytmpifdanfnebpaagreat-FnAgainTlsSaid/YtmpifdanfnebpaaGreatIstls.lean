/-
  A TLS with its four lists, in memory.
-/
import Derived.Test.YtmpifdanfnebpaaGreatTlsw
namespace Go.Proofs.YtmpifdanfnebpaaGreat
open Go Go.RowKit

/-- A TLS at X, with its four lists. -/
def MIsTls (xs : Nat → List (List Int × List Int)) (w : World) (X : Nat) : Prop :=
  X < w.heap.size ∧ ∃ v : Nat → Value, (∀ i, i < 4 → w.cell? ⟨X, 2 + i, none⟩ = some (v i)) ∧ ∀ i, i < 4 → Rows (eT i) w 0 (fun _ => True) (tT i) (v i) (xs i)
end Go.Proofs.YtmpifdanfnebpaaGreat
