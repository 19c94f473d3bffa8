/-
  impl.clone, with the row that it makes.
-/
import Derived.Test.YtaofambmajlhmaaVoc
namespace Go.Proofs.Ytaofambmajlhmaa
open Go Go.RowKit

set_option maxHeartbeats 400000 in
/-- impl.clone: the same bytes in a row of its own, to which more may be appended. -/
theorem clone_own {v : Value} {bs : List Int} {w : World} {ok : Nat → Prop} (h : SB w ok v bs) (hn : bs.length ≤ 140737488355328) :
    Calls Try.prog 44 #[v] w fun e w' => ∃ p c, e = .returned (.slice p bs.length c) ∧ w'.ownsRow w.heap.size 5 1 (.slice p bs.length c) bs.length (bs.map (.int .u8)) ∧ Below w.heap.size w w' := by
  obtain ⟨i0, hi, hz0, hz1, hz2⟩ := info_parts Try.infoB
  obtain ⟨p, c, rfl, hnc, hc, hp, hr⟩ := h
  have H := Lib.hid hr
  clear hr
  cases p with
  | none =>
    obtain rfl := hp rfl
    have hb0 : bs.length = 0 := by omega
    obtain rfl := List.eq_nil_of_length_eq_zero hb0
    go_enter Try.func44, Try.ntmps44
    go_wp2_with (first | (at_builtin; refine wpList_append_own_none rfl _ _ 22 rfl w.heap.size 5 i0 1 Try.underlying22 hi (.slice none 0 0) 0 [] rfl (World.ownsRow_nil _ _ _ _) rfl ?_))
    go_ret
    exact ⟨_, _, rfl, World.ownsRow_nil _ _ _ _, Below.refl _ _⟩
  | some ad =>
    go_enter Try.func44, Try.ntmps44
    go_wp2_with (first | (at_builtin; refine wpList_append_own _ rfl _ _ 22 rfl w.heap.size 5 i0 (.int .u8 0) 1 1 Try.underlying22 hi hz0 hz1 hz2 rfl (by decide) (.slice none 0 0) 0 [] rfl (World.ownsRow_nil _ _ _ _) ad bs.length c (bs.map (.int .u8)) rfl (by simp) ?c1 (ints_oneCell .u8 bs) (by unfold maxLen; omega) (by omega) (Nat.le_refl _) ?_))
    case c1 =>
      intro j u hu
      rcases H.out with h0 | ⟨b, o, he, _, _, hcell⟩
      · rw [h0] at hu; simp at hu
      · simp only [Option.some.injEq] at he
        subst he
        have := hcell j u hu
        unfold Addr.add
        split
        · rename_i hj; subst hj; exact this
        · exact this
    intro v' w1 hown hgrow hnil
    try simp only [Nat.zero_add, List.nil_append] at hown
    have hS := IsSl.owned hown
    obtain ⟨p', c', hv, -⟩ := hS
    subst hv
    go_wp2
    go_ret
    exact ⟨p', c', rfl, hown, (Below.refl _ _).grown hgrow (Nat.le_refl _) (fun k hk => by simp [Value.ownBlock] at hk)⟩
end Go.Proofs.Ytaofambmajlhmaa
