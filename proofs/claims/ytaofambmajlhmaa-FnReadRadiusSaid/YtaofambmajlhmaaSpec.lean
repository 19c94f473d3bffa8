/-
  spec.none, spec.open, spec.whole.
-/
import Derived.Test.YtaofambmajlhmaaSame
import Derived.Test.YtaofambmajlhmaaLeast
namespace Go.Proofs.Ytaofambmajlhmaa
open Go Go.RowKit

/-- The layer with nothing in it. -/
abbrev zlay : Value := .agg #[.slice none 0 0, .slice none 0 0, .slice none 0 0, .slice none 0 0]
abbrev zcells : Obj := .cells #[.slice none 0 0, .slice none 0 0, .slice none 0 0, .slice none 0 0] 29

theorem none_c {w : World} : Calls Try.prog 25 #[] w fun e w' => e = .returned (.tuple #[zlay, .bool false, .bool true]) ∧ w.alloc zcells = w' := by
  go_enter Try.func25, Try.ntmps25
  go_wp2
  exact bodyPost_ret (v := .tuple #[zlay, .bool false, .bool true]) (by simp only [results, Try.results25]; go_simp) rfl ⟨rfl, rfl⟩

theorem open_c {w : World} : Calls Try.prog 33 #[] w fun e w' => e = .returned (.tuple #[zlay, .bool false, .bool false]) ∧ w.alloc zcells = w' := by
  go_enter Try.func33, Try.ntmps33
  go_wp2
  exact bodyPost_ret (v := .tuple #[zlay, .bool false, .bool false]) (by simp only [results, Try.results33]; go_simp) rfl ⟨rfl, rfl⟩

theorem whole_c {p q : Option Addr} {n c m d : Nat} {w : World} : Calls Try.prog 26 #[.slice p n c, .slice q m d] w fun e w' =>
    e = .returned (.agg #[.slice q m d, .slice none 0 0, .slice none 0 0, .slice p n c]) ∧ w.alloc (.cells #[.slice q m d, .slice none 0 0, .slice none 0 0, .slice p n c] 29) = w' := by
  go_enter Try.func26, Try.ntmps26
  go_wp2
  exact bodyPost_ret (v := .agg #[.slice q m d, .slice none 0 0, .slice none 0 0, .slice p n c]) (by simp only [results, Try.results26]; go_simp) rfl ⟨rfl, rfl⟩
end Go.Proofs.Ytaofambmajlhmaa
