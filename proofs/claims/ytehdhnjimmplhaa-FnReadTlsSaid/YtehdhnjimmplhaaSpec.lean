/-
  spec.none, spec.open, spec.whole.
-/
import Derived.Test.YtehdhnjimmplhaaSame
import Derived.Test.YtehdhnjimmplhaaLeast
namespace Go.Proofs.Ytehdhnjimmplhaa
open Go Go.RowKit

/-- The layer with nothing in it. -/
abbrev zlay : Value := .agg #[.slice none 0 0, .slice none 0 0, .slice none 0 0, .slice none 0 0]
abbrev zcells : Obj := .cells #[.slice none 0 0, .slice none 0 0, .slice none 0 0, .slice none 0 0] 29

theorem none_c {w : World} : Calls Try.prog 10 #[] w fun e w' => e = .returned (.tuple #[zlay, .bool false, .bool true]) ∧ w.alloc zcells = w' := by
  go_enter Try.func10, Try.ntmps10
  go_wp2
  exact bodyPost_ret (v := .tuple #[zlay, .bool false, .bool true]) (by simp only [results, Try.results10]; go_simp) rfl ⟨rfl, rfl⟩

theorem open_c {w : World} : Calls Try.prog 18 #[] w fun e w' => e = .returned (.tuple #[zlay, .bool false, .bool false]) ∧ w.alloc zcells = w' := by
  go_enter Try.func18, Try.ntmps18
  go_wp2
  exact bodyPost_ret (v := .tuple #[zlay, .bool false, .bool false]) (by simp only [results, Try.results18]; go_simp) rfl ⟨rfl, rfl⟩

theorem whole_c {p q : Option Addr} {n c m d : Nat} {w : World} : Calls Try.prog 11 #[.slice p n c, .slice q m d] w fun e w' =>
    e = .returned (.agg #[.slice q m d, .slice none 0 0, .slice none 0 0, .slice p n c]) ∧ w.alloc (.cells #[.slice q m d, .slice none 0 0, .slice none 0 0, .slice p n c] 29) = w' := by
  go_enter Try.func11, Try.ntmps11
  go_wp2
  exact bodyPost_ret (v := .agg #[.slice q m d, .slice none 0 0, .slice none 0 0, .slice p n c]) (by simp only [results, Try.results11]; go_simp) rfl ⟨rfl, rfl⟩
end Go.Proofs.Ytehdhnjimmplhaa
