/-
  spec.none, spec.open, spec.whole.
-/
import Derived.Test.YtaejicpdaldpiaaGreatSame
import Derived.Test.YtaejicpdaldpiaaGreatLeast
namespace Go.Proofs.YtaejicpdaldpiaaGreat
open Go Go.RowKit

/-- The layer with nothing in it. -/
abbrev zlay : Value := .agg #[.slice none 0 0, .slice none 0 0, .slice none 0 0, .slice none 0 0]
abbrev zcells : Obj := .cells #[.slice none 0 0, .slice none 0 0, .slice none 0 0, .slice none 0 0] 29

theorem none_c {w : World} : Calls Tryz.prog 23 #[] w fun e w' => e = .returned (.tuple #[zlay, .bool false, .bool true]) ∧ w.alloc zcells = w' := by
  go_enter Tryz.func23, Tryz.ntmps23
  go_wp2
  exact bodyPost_ret (v := .tuple #[zlay, .bool false, .bool true]) (by simp only [results, Tryz.results23]; go_simp) rfl ⟨rfl, rfl⟩

theorem open_c {w : World} : Calls Tryz.prog 31 #[] w fun e w' => e = .returned (.tuple #[zlay, .bool false, .bool false]) ∧ w.alloc zcells = w' := by
  go_enter Tryz.func31, Tryz.ntmps31
  go_wp2
  exact bodyPost_ret (v := .tuple #[zlay, .bool false, .bool false]) (by simp only [results, Tryz.results31]; go_simp) rfl ⟨rfl, rfl⟩

theorem whole_c {p q : Option Addr} {n c m d : Nat} {w : World} : Calls Tryz.prog 24 #[.slice p n c, .slice q m d] w fun e w' =>
    e = .returned (.agg #[.slice q m d, .slice none 0 0, .slice none 0 0, .slice p n c]) ∧ w.alloc (.cells #[.slice q m d, .slice none 0 0, .slice none 0 0, .slice p n c] 29) = w' := by
  go_enter Tryz.func24, Tryz.ntmps24
  go_wp2
  exact bodyPost_ret (v := .agg #[.slice q m d, .slice none 0 0, .slice none 0 0, .slice p n c]) (by simp only [results, Tryz.results24]; go_simp) rfl ⟨rfl, rfl⟩
end Go.Proofs.YtaejicpdaldpiaaGreat
