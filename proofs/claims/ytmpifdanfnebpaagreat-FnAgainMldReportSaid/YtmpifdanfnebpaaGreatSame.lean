/-
  laws.same tells that two layers of the same data are the same.
-/
import Derived.Test.YtmpifdanfnebpaaGreatVoc
import Derived.Laws.BytesArg
import Derived.Deep.QuietTactic
import Derived.BigQuiet
namespace Go.Proofs.YtmpifdanfnebpaaGreat
open Go Go.RowKit

theorem SB.convert {w : World} {ok : Nat → Prop} {v : Value} {bs : List Int} (h : SB w ok v bs) :
    (convert 22 9 v).run Tryz.prog w = .ok (.string (strOfNums bs)) w := by
  obtain ⟨p, c, rfl, hnc, hc, hp, hr⟩ := h
  rcases hr with h0 | ⟨b, o, rfl, _, _, hcell⟩
  · have hb : bs = [] := by simpa using h0
    subst hb
    cases p with
    | none => exact run_convert_bytes_nil w _ _ Tryz.underlying22 Tryz.underlying5 _ _ _ Tryz.underlying9
    | some a =>
      rw [run_convert_bytes_string w _ _ _ _ _ _ Tryz.underlying22 Tryz.underlying5 Tryz.underlying9, run_bytesToString w a _ c [] (by rfl)]
      rfl
  · refine run_convert_bytes_arg w _ _ Tryz.underlying22 Tryz.underlying5 b o _ c bs rfl (fun i hi => ?_) _ Tryz.underlying9
    exact hcell i _ (by simp [hi])

theorem bytesEqual_c {w : World} {ok ok' : Nat → Prop} {v u : Value} {bs : List Int} (h : SB w ok v bs) (h' : SB w ok' u bs) :
    Calls Tryz.prog 9 #[v, u] w fun e w' => e = .returned (.bool true) ∧ w = w' := by
  have e1 := h.convert
  have e2 := h'.convert
  clear h h'
  generalize strOfNums bs = s at *
  go_enter Tryz.func9, Tryz.ntmps9
  go_wp2
  go_ret
  exact ⟨by simp, rfl⟩

end Go.Proofs.YtmpifdanfnebpaaGreat
