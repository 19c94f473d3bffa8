/-
  What a kind's plain bytes and its writer are.
-/
import Derived.Test.YtmpifdanfnebpaaGreatVoc
namespace Go.Proofs.YtmpifdanfnebpaaGreat
open Go Go.RowKit

/-- What spec.Plain says of bytes. -/
def PlainOf (K : Value) (bs : List Int) (p : Bool) : Prop :=
  ∀ (v : Value) (w : World), SB w (fun _ => True) v bs → Calls Tryz.prog 7 #[K, v] w fun e w' => e = .returned (.bool p) ∧ Below w.heap.size w w'

/-- What impl.Write makes of a layer. -/
def WriteOf (K : Value) (l : Lay) (bs : List Int) : Prop :=
  ∀ (v : Value) (w : World), LayIs w v l → Calls Tryz.prog 8 #[K, v, .bool false, .bool false] w fun e w' =>
    Below w.heap.size w w' ∧ ∃ q n c, e = .returned (.tuple #[.slice q n c, .bool true]) ∧ SB w' (fun _ => True) (.slice q n c) bs
end Go.Proofs.YtmpifdanfnebpaaGreat
