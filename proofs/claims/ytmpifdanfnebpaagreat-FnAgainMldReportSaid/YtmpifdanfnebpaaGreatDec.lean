/-
  bytes.Clone, the keeper of the decoded layer.
-/
import Derived.Test.YtmpifdanfnebpaaGreatVoc
import Derived.Lib.SliceRun
namespace Go.Proofs.YtmpifdanfnebpaaGreat
open Go Go.RowKit

theorem m_add (k : Nat) (a : Addr) (w : World) : (method (k + 1) 196 (.pointer (some a)) "AddLayer").run Tryz.prog w = .ok (151, .pointer (some a)) w := by kernel_rfl
theorem m_trunc (k : Nat) (a : Addr) (w : World) : (method (k + 1) 196 (.pointer (some a)) "SetTruncated").run Tryz.prog w = .ok (152, .pointer (some a)) w := by kernel_rfl

theorem top_u8' : ∀ k : Fin 256, (bits BinOp.and IntKind.u8 (k : Nat) 128 != 0) = decide (128 ≤ ((k : Nat) : Int)) := by decide +kernel
theorem top_u8 {x : Int} (h : 0 ≤ x ∧ x ≤ 255) : (bits BinOp.and IntKind.u8 x 128 != 0) = decide (128 ≤ x) := by
  obtain ⟨k, rfl⟩ := Int.eq_ofNat_of_zero_le h.1
  exact top_u8' ⟨k, by omega⟩

/-- A truth as a number. -/
def b01 (b : Bool) : Int := match b with | true => 1 | false => 0

theorem bit_c {b : Bool} {w : World} : Calls Tryz.prog 37 #[.bool b] w fun e w' => e = .returned (.int .u64 (b01 b)) ∧ w = w' := by
  cases b
  · go_enter Tryz.func37, Tryz.ntmps37
    go_wp2
    go_ret
    exact ⟨rfl, rfl⟩
  · go_enter Tryz.func37, Tryz.ntmps37
    go_wp2
    go_ret
    exact ⟨rfl, rfl⟩

theorem trunc_c {k : Nat} {w : World} : Calls Tryz.prog 152 #[.pointer (some ⟨k, 0, none⟩)] w fun e w' => e = .returned (.tuple #[]) ∧ w = w' := by
  go_enter Tryz.func152, Tryz.ntmps152
  go_wp2
  refine bodyPost_end (v := .tuple #[]) ?_ rfl ⟨rfl, rfl⟩
  simp only [results, Tryz.results152]; go_simp

theorem add_c {k : Nat} {t : TypeId} {v x : Value} {w : World} (hc : w.cell? ⟨k, 0, none⟩ = some x) (hf : w.frozen? ⟨k, 0, none⟩ = false) :
    Calls Tryz.prog 151 #[.pointer (some ⟨k, 0, none⟩), .iface t v] w fun e w' => e = .returned (.tuple #[]) ∧ w.setCell ⟨k, 0, none⟩ (.iface t v) = w' := by
  go_enter Tryz.func151, Tryz.ntmps151
  go_wp2
  refine bodyPost_end (v := .tuple #[]) ?_ rfl ⟨rfl, rfl⟩
  simp only [results, Tryz.results151]; go_simp

theorem new_c {s} {w : World} : Calls Tryz.prog 38 #[.string s] w fun e w' => e = .returned (.iface 201 (.pointer (some ⟨w.heap.size, 0, none⟩))) ∧ w.alloc (.cells #[.string s] 203) = w' := by
  go_enter Tryz.func38, Tryz.ntmps38
  go_wp2
  go_ret
  exact ⟨rfl, rfl⟩

set_option maxRecDepth 100000 in
set_option maxHeartbeats 400000 in
/-- bytes.Clone: the same bytes in a block of its own. -/
theorem bclone_c {v : Value} {bs : List Int} {w : World} {ok : Nat → Prop} (h : SB w ok v bs) (hn : bs.length ≤ 140737488355328) :
    Calls Tryz.prog 25 #[v] w fun e w' => ∃ p c, e = .returned (.slice p bs.length c) ∧ SB w' (fun b => w.heap.size ≤ b) (.slice p bs.length c) bs ∧ Below w.heap.size w w' := by
  obtain ⟨i0, hi, hz0, hz1, hz2⟩ := info_parts Tryz.infoB
  obtain ⟨p, c, rfl, hnc, hc, hp, hr⟩ := h
  have H := Lib.hid hr
  clear hr
  have qT : ∀ (w : World) (a : Option Addr) (n c n' c' : Nat), (binOp .eql 22 (.slice a n c) (.slice none n' c')).run Tryz.prog w = .ok (.bool a.isNone) w := fun w a n c n' c' => Lib.run_eql_slice_nil w _ _ a n c n' c' Tryz.underlying22
  cases p with
  | none =>
    obtain rfl := hp rfl
    have hb0 : bs.length = 0 := by omega
    obtain rfl := List.eq_nil_of_length_eq_zero hb0
    go_enter Tryz.func25, Tryz.ntmps25
    go_wp2
    go_ret
    exact ⟨_, _, rfl, SB.nil _ _, Below.refl _ _⟩
  | some ad =>
    go_enter Tryz.func25, Tryz.ntmps25
    go_wp2_with (first | (at_builtin; refine wpList_append_own _ rfl _ _ 22 rfl w.heap.size 5 i0 (.int .u8 0) 1 1 Tryz.underlying22 hi hz0 hz1 hz2 rfl (by decide) (.slice (some ⟨w.heap.size, 0, none⟩) 0 0) 0 [] rfl ?c0 ad bs.length c (bs.map (.int .u8)) rfl (by simp) ?c1 (ints_oneCell .u8 bs) (by unfold maxLen; omega) (by omega) (by simp) ?_))
    case c0 => exact ⟨rfl, .inr ⟨w.heap.size, 0, #[], rfl, Nat.le_refl _, heap_last rfl, Nat.le_refl _, by simp [maxLen], rfl, rfl⟩⟩
    case c1 =>
      intro j u hu
      rcases H.out with h0 | ⟨b, o, he, _, hb, hcell⟩
      · rw [h0] at hu; simp at hu
      · simp only [Option.some.injEq] at he
        subst he
        have := hcell j u hu
        rw [World.cell?_alloc_lt]
        · unfold Addr.add
          split
          · rename_i hj; subst hj; exact this
          · exact this
        · unfold Addr.add
          split <;> exact hb
    intro v' w1 hown hgrow hnil
    try simp only [Nat.zero_add, List.nil_append] at hown
    have hS := IsSl.owned hown
    obtain ⟨p', c', hv, hrest⟩ := hS
    subst hv
    go_wp2
    go_ret
    refine ⟨p', c', rfl, ?_, ((Below.refl _ _).alloc (Nat.le_refl _) _).grown hgrow (by simp) (fun k hk => by simp [Value.ownBlock] at hk; omega)⟩
    exact IsSl.imp (n := bs.length) ⟨p', c', rfl, hrest⟩ (fun b _ hb => hb.1)
end Go.Proofs.YtmpifdanfnebpaaGreat
