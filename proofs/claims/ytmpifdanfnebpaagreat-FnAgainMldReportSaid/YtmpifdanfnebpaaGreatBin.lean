/-
  binary.BigEndian's readers and spec.Number at the bytes of a slice.
-/
import Derived.Test.YtmpifdanfnebpaaGreatChecked
import Derived.Test.YtmpifdanfnebpaaGreatReg
import Derived.WalkKit
import Derived.WalkSpells
import Derived.WalkLawsBesides
import Derived.Outline
import Derived.Deep.QuietTactic
import Derived.BigQuiet
import Derived.Lib.EndianBits
import Derived.Lib.Hide
import Derived.WalkSmall
namespace Go.Proofs.YtmpifdanfnebpaaGreat
open Go Go.RowKit

theorem ret_int {k : IntKind} {a b : Int} (h : a = b) : Ending.returned (.int k a) = .returned (.int k b) := by rw [h]

theorem below_drewN' {B : Nat} {a w : World} (h : Below B a w) (n : Nat) : Below B a (w.drewN n) := ⟨h.os, h.tape, h.output, h.size, h.block⟩

set_option maxHeartbeats 400000 in
theorem u16_c {g o n c : Nat} (x0 x1 : Int) {w : World} (hn : 2 ≤ n) (h0 : 0 ≤ x0 ∧ x0 ≤ 255) (h1 : 0 ≤ x1 ∧ x1 ≤ 255)
    (c0 : w.cell? ⟨g, o, none⟩ = some (.int .u8 x0)) (c1 : w.cell? ⟨g, o + 1, none⟩ = some (.int .u8 x1)) :
    Calls Tryz.prog 55 #[.agg #[], .slice (some ⟨g, o, none⟩) n c] w fun e w' => e = .returned (.int .u16 (x0 * 256 + x1)) ∧ (w.alloc (.cells #[] 207)).drew = w' := by
  have l0 : 0 < n := by omega
  have l1 : (1 : Int) < (n : Int) := by omega
  have hg : g < w.heap.size := World.block_lt_of_cell? _ _ c0
  go_enter Tryz.func55, Tryz.ntmps55
  go_wp2
  refine wp_region_lex (fun w' => w' = (w.alloc (.cells #[] 207)).drew) [] (.q 0 (.q 1 (.q 2 (.q 3 (.q 4 (.q 5 (.q 6 (.q 7 (.q 8 (.q 9 (.q 10 .done))))))))))) (by kernel_rfl) (by kernel_rfl) (fun _ _ d _ _ h => by cases d <;> exact h) (by simp only [Ord.fill, nthOp]; rfl) rfl ?_
  repeat
    refine lexO_take ?_ rfl (fun w' hS => ?_) ?_
    rotate_left
    · subst hS; go_simp; (try go_ints); first | done | rfl
    simp only [Act.put, List.setIfInBounds_toArray, List.set_cons_zero, List.set_cons_succ]
  refine lexO_done ?_
  go_wp2
  go_ret
  refine ⟨ret_int ?_, rfl⟩
  rw [u16_or8 _ _ (by omega) (by omega) (by omega) (by omega) (by omega)]
  omega

set_option maxHeartbeats 400000 in
theorem u32_c {g o n c : Nat} (x0 x1 x2 x3 : Int) {w : World} (hn : 4 ≤ n) (h0 : 0 ≤ x0 ∧ x0 ≤ 255) (h1 : 0 ≤ x1 ∧ x1 ≤ 255) (h2 : 0 ≤ x2 ∧ x2 ≤ 255) (h3 : 0 ≤ x3 ∧ x3 ≤ 255)
    (c0 : w.cell? ⟨g, o, none⟩ = some (.int .u8 x0)) (c1 : w.cell? ⟨g, o + 1, none⟩ = some (.int .u8 x1)) (c2 : w.cell? ⟨g, o + 2, none⟩ = some (.int .u8 x2)) (c3 : w.cell? ⟨g, o + 3, none⟩ = some (.int .u8 x3)) :
    Calls Tryz.prog 56 #[.agg #[], .slice (some ⟨g, o, none⟩) n c] w fun e w' => e = .returned (.int .u32 (((x0 * 256 + x1) * 256 + x2) * 256 + x3)) ∧ (w.alloc (.cells #[] 207)).drew = w' := by
  have l0 : 0 < n := by omega
  have l1 : (1 : Int) < (n : Int) := by omega
  have l2 : (2 : Int) < (n : Int) := by omega
  have l3 : (3 : Int) < (n : Int) := by omega
  have hg : g < w.heap.size := World.block_lt_of_cell? _ _ c0
  go_enter Tryz.func56, Tryz.ntmps56
  go_wp2
  refine wp_region_lex (fun w' => w' = (w.alloc (.cells #[] 207)).drew) [] (.q 0 (.q 1 (.q 2 (.q 3 (.q 4 (.q 5 (.q 6 (.q 7 (.q 8 (.q 9 (.q 10 (.q 11 (.q 12 (.q 13 (.q 14 (.q 15 (.q 16 (.q 17 (.q 18 (.q 19 (.q 20 (.q 21 (.q 22 .done))))))))))))))))))))))) (by kernel_rfl) (by kernel_rfl) (fun _ _ d _ _ h => by cases d <;> exact h) (by simp only [Ord.fill, nthOp]; rfl) rfl ?_
  repeat
    refine lexO_take ?_ rfl (fun w' hS => ?_) ?_
    rotate_left
    · subst hS; go_simp; (try go_ints); first | done | rfl
    simp only [Act.put, List.setIfInBounds_toArray, List.set_cons_zero, List.set_cons_succ]
  refine lexO_done ?_
  go_wp2
  go_ret
  refine ⟨ret_int ?_, rfl⟩
  rw [u32_or8 _ (x2 * 256) (by omega) (by omega) (by omega) (by omega) (by omega), u32_or16 _ (x1 * 65536) (by omega) (by omega) (by omega) (by omega) (by omega), u32_or24 _ _ (by omega) (by omega) (by omega) (by omega) (by omega)]
  omega

/-- The number that bytes spell, the highest first. -/
def num (l : List Int) : Int := l.foldl (fun n x => n * 256 + x) 0

theorem num_snoc (l : List Int) (x : Int) : num (l ++ [x]) = num l * 256 + x := by simp [num]

theorem num_bd_from (l : List Int) (h : ∀ z ∈ l, 0 ≤ z ∧ z ≤ 255) : ∀ a : Int, 0 ≤ a → 0 ≤ l.foldl (fun n x => n * 256 + x) a ∧ l.foldl (fun n x => n * 256 + x) a < (a + 1) * 256 ^ l.length := by
  induction l with
  | nil => intro a ha; simp; omega
  | cons x l ih =>
    intro a ha
    have hx := h x (by simp)
    have := ih (fun z hz => h z (by simp [hz])) (a * 256 + x) (by omega)
    refine ⟨this.1, Int.lt_of_lt_of_le this.2 ?_⟩
    rw [List.length_cons, Int.pow_succ, Int.mul_comm ((256 : Int) ^ l.length) 256, ← Int.mul_assoc]
    exact Int.mul_le_mul_of_nonneg_right (by omega) (Int.pow_nonneg (by omega))

theorem num_bd (l : List Int) (h : ∀ z ∈ l, 0 ≤ z ∧ z ≤ 255) : 0 ≤ num l ∧ num l < 256 ^ l.length := by
  have := num_bd_from l h 0 (by omega)
  simpa [num] using this

theorem u64_or8' (v z : Int) (h0 : 0 ≤ v) (h1 : v < 16777216) (z0 : 0 ≤ z) (z1 : z ≤ 255) : Value.int .u64 (bits .or .u64 (v * 256) z) = .int .u64 (v * 256 + z) := by
  have h := bits_join .u64 64 (by decide) wraps_u64 8 (v * 256) z (by omega) (by omega) (by omega) z0 (by omega) (by omega)
  rw [h]

set_option maxHeartbeats 400000 in
theorem number_c {g o n c : Nat} (bs : List Int) {w : World} (hl : bs.length = n) (hn : n ≤ 4) (hb : ∀ z ∈ bs, 0 ≤ z ∧ z ≤ 255)
    (hc : ∀ j (h : j < bs.length), w.cell? ⟨g, o + j, none⟩ = some (.int .u8 bs[j])) :
    Calls Tryz.prog 14 #[.slice (some ⟨g, o, none⟩) n c] w fun e w' => e = .returned (.int .u64 (num bs)) ∧ w = w' := by
  have HL : Hid (bs.length = n) := hl
  clear hl
  go_enter Tryz.func14, Tryz.ntmps14
  go_wp2
  go_loop [3, 5, 8] (fun s _ i => ∃ k : Nat, k ≤ n ∧ i = .int .i64 k ∧ s = .int .u64 (num (bs.take k))) (fun _ _ i => n - (intOf i).toNat)
  case atStart => exact ⟨0, Nat.zero_le _, rfl, rfl⟩
  case round =>
    obtain ⟨k, hk, rfl, rfl⟩ := hrel
    have hbd := num_bd (bs.take k) (fun z hz => hb z (List.mem_of_mem_take hz))
    have hp : (256 : Int) ^ (bs.take k).length ≤ 16777216 ∨ k = n := by
      by_cases hkn : k = n
      · exact .inr hkn
      · refine .inl ?_
        have h3 : (bs.take k).length ≤ 3 := by have := List.length_take_le k bs; omega
        generalize (bs.take k).length = m at h3
        match m, h3 with
        | 0, _ => decide
        | 1, _ => decide
        | 2, _ => decide
        | 3, _ => decide
    by_cases hlt : k < n
    · have hlt' : k < bs.length := by rw [HL.out]; exact hlt
      have hck := hc k hlt'
      have hx := hb bs[k] (List.getElem_mem hlt')
      have hs : num (bs.take (k + 1)) = num (bs.take k) * 256 + bs[k] := by rw [List.take_succ_eq_append_getElem hlt', num_snoc]
      have hB : num (bs.take k) < 16777216 := by rcases hp with h | h <;> omega
      have HS := Lib.hid hs
      have h0 := hbd.1
      clear hs hc hb hp hbd
      generalize num (bs.take k) = v at *
      generalize hz : bs[k] = z at *
      clear hz
      go_wp2
      go_round
      case rel =>
        refine ⟨k + 1, by omega, by go_num, ?_⟩
        rw [HS.out, u64_or8' v z (by omega) (by omega) hx.1 (by omega)]
      case measure => simp [intOf]; omega
    · have hkn : k = n := by omega
      subst hkn
      have ht : bs.take k = bs := List.take_of_length_le (by rw [HL.out]; exact Nat.le_refl _)
      go_wp2
      go_ret
      exact ⟨ret_int (by first | rfl | rw [ht]), rfl⟩

theorem number2_c {g o c : Nat} (x0 x1 : Int) {w : World} (h0 : 0 ≤ x0 ∧ x0 ≤ 255) (h1 : 0 ≤ x1 ∧ x1 ≤ 255)
    (c0 : w.cell? ⟨g, o, none⟩ = some (.int .u8 x0)) (c1 : w.cell? ⟨g, o + 1, none⟩ = some (.int .u8 x1)) :
    Calls Tryz.prog 14 #[.slice (some ⟨g, o, none⟩) 2 c] w fun e w' => e = .returned (.int .u64 (x0 * 256 + x1)) ∧ w = w' := by
  have h := number_c (g := g) (o := o) (n := 2) (c := c) [x0, x1] (w := w) rfl (by omega) (by simp; exact ⟨h0, h1⟩) (fun j hj => by
    match j, hj with
    | 0, _ => exact c0
    | 1, _ => exact c1)
  simpa [num] using h

theorem number4_c {g o c : Nat} (x0 x1 x2 x3 : Int) {w : World} (h0 : 0 ≤ x0 ∧ x0 ≤ 255) (h1 : 0 ≤ x1 ∧ x1 ≤ 255) (h2 : 0 ≤ x2 ∧ x2 ≤ 255) (h3 : 0 ≤ x3 ∧ x3 ≤ 255)
    (c0 : w.cell? ⟨g, o, none⟩ = some (.int .u8 x0)) (c1 : w.cell? ⟨g, o + 1, none⟩ = some (.int .u8 x1)) (c2 : w.cell? ⟨g, o + 2, none⟩ = some (.int .u8 x2)) (c3 : w.cell? ⟨g, o + 3, none⟩ = some (.int .u8 x3)) :
    Calls Tryz.prog 14 #[.slice (some ⟨g, o, none⟩) 4 c] w fun e w' => e = .returned (.int .u64 (((x0 * 256 + x1) * 256 + x2) * 256 + x3)) ∧ w = w' := by
  have h := number_c (g := g) (o := o) (n := 4) (c := c) [x0, x1, x2, x3] (w := w) rfl (by omega) (by simp; exact ⟨h0, h1, h2, h3⟩) (fun j hj => by
    match j, hj with
    | 0, _ => exact c0
    | 1, _ => exact c1
    | 2, _ => exact c2
    | 3, _ => exact c3)
  simpa [num] using h
end Go.Proofs.YtmpifdanfnebpaaGreat
