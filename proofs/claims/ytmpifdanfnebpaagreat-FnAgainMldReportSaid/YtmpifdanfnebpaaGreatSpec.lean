/-
  spec.none, spec.open, spec.whole.
-/
import Derived.Test.YtmpifdanfnebpaaGreatSame
import Derived.Test.YtmpifdanfnebpaaGreatLeast
namespace Go.Proofs.YtmpifdanfnebpaaGreat
open Go Go.RowKit

/-- The layer with nothing in it. -/
abbrev zlay : Value := .agg #[.slice none 0 0, .slice none 0 0, .slice none 0 0, .slice none 0 0]
abbrev zcells : Obj := .cells #[.slice none 0 0, .slice none 0 0, .slice none 0 0, .slice none 0 0] 29

theorem none_c {w : World} : Calls Tryz.prog 12 #[] w fun e w' => e = .returned (.tuple #[zlay, .bool false, .bool true]) ∧ w.alloc zcells = w' := by
  go_enter Tryz.func12, Tryz.ntmps12
  go_wp2
  exact bodyPost_ret (v := .tuple #[zlay, .bool false, .bool true]) (by simp only [results, Tryz.results12]; go_simp) rfl ⟨rfl, rfl⟩

theorem open_c {w : World} : Calls Tryz.prog 20 #[] w fun e w' => e = .returned (.tuple #[zlay, .bool false, .bool false]) ∧ w.alloc zcells = w' := by
  go_enter Tryz.func20, Tryz.ntmps20
  go_wp2
  exact bodyPost_ret (v := .tuple #[zlay, .bool false, .bool false]) (by simp only [results, Tryz.results20]; go_simp) rfl ⟨rfl, rfl⟩

theorem whole_c {p q : Option Addr} {n c m d : Nat} {w : World} : Calls Tryz.prog 13 #[.slice p n c, .slice q m d] w fun e w' =>
    e = .returned (.agg #[.slice q m d, .slice none 0 0, .slice none 0 0, .slice p n c]) ∧ w.alloc (.cells #[.slice q m d, .slice none 0 0, .slice none 0 0, .slice p n c] 29) = w' := by
  go_enter Tryz.func13, Tryz.ntmps13
  go_wp2
  exact bodyPost_ret (v := .agg #[.slice q m d, .slice none 0 0, .slice none 0 0, .slice p n c]) (by simp only [results, Tryz.results13]; go_simp) rfl ⟨rfl, rfl⟩
end Go.Proofs.YtmpifdanfnebpaaGreat
