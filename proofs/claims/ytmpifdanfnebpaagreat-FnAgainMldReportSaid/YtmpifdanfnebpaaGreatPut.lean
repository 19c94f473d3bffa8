/-
  binary.BigEndian's writers.
-/
import Derived.Test.YtmpifdanfnebpaaGreatMake
namespace Go.Proofs.YtmpifdanfnebpaaGreat
open Go Go.RowKit

theorem Holds.alloc {w : World} {B D s : Nat} {bs : List Int} (h : Holds w B D s bs) (o : Obj) : Holds (w.alloc o) B D s bs := h.keeps ((Below.refl _ _).alloc (Nat.le_refl _) _)

set_option maxHeartbeats 1000000 in
theorem bytes_bare {w : World} {B : Nat} (h : Bare w B) : Calls Tryz.prog 140 #[.pointer (some ⟨B, 0, none⟩)] w fun e w' => ∃ q, e = .returned (.slice none 0 0) ∧ w.drewN q = w' := by
  obtain ⟨lB, c0, c1, -, -, -⟩ := h
  go_enter Tryz.func140, Tryz.ntmps140
  go_wp2_with fail
  go_quiet (fail)
  go_wp2_with fail
  refine bodyPost_ret (v := .slice none 0 0) (by simp only [results, Tryz.results140]; go_simp) rfl ⟨_, rfl, rfl⟩
theorem bytes_any {w : World} {B : Nat} {bs : List Int} (h : Buf w B bs) : Calls Tryz.prog 140 #[.pointer (some ⟨B, 0, none⟩)] w fun e w' => ∃ p n c q, e = .returned (.slice p n c) ∧ w.drewN q = w' := by
  rcases h with ⟨_, h⟩ | ⟨D, s, h⟩
  · exact (bytes_bare h).mono fun e w' ⟨q, he, hw⟩ => ⟨_, _, _, q, he, hw⟩
  · exact (bytes_of h).mono fun e w' ⟨q, he, hw⟩ => ⟨_, _, _, q, he, hw⟩

set_option maxRecDepth 100000 in
theorem put16_c {D s n c : Nat} (x0 x1 : Int) {w : World} (hn : 2 ≤ n) (h0 : 0 ≤ x0 ∧ x0 ≤ 255) (h1 : 0 ≤ x1 ∧ x1 ≤ 255) {y0 y1 : Value}
    (c0 : w.cell? ⟨D, s, none⟩ = some y0) (c1 : w.cell? ⟨D, s + 1, none⟩ = some y1) (f0 : w.frozen? ⟨D, s, none⟩ = false) (f1 : w.frozen? ⟨D, s + 1, none⟩ = false) :
    Calls Tryz.prog 90 #[.agg #[], .slice (some ⟨D, s, none⟩) n c, .int .u16 (x0 * 256 + x1)] w fun e w' =>
      e = .returned (.tuple #[]) ∧ ((w.setCell ⟨D, s, none⟩ (.int .u8 x0)).setCell ⟨D, s + 1, none⟩ (.int .u8 x1)).alloc (.cells #[] 207) = w' := by
  have l0 : 0 < n := by omega
  have l1 : (1 : Int) < (n : Int) := by omega
  have hD : D < w.heap.size := World.block_lt_of_cell? _ _ c0
  have hD1 : D < w.heap.size + 1 := by omega
  have e0 : (x0 * 256 + x1) / 256 = x0 := by omega
  have e1 : (x0 * 256 + x1) % 256 = x1 := by omega
  have e2 : x0 % 256 = x0 := by omega
  go_enter Tryz.func90, Tryz.ntmps90
  go_wp2_with fail
  refine bodyPost_end (v := .tuple #[]) ?_ rfl ⟨rfl, rfl⟩
  kernel_rfl

set_option maxRecDepth 100000 in
theorem put32_c {D s n c : Nat} (x0 x1 x2 x3 : Int) {w : World} (hn : 4 ≤ n) (h0 : 0 ≤ x0 ∧ x0 ≤ 255) (h1 : 0 ≤ x1 ∧ x1 ≤ 255) (h2 : 0 ≤ x2 ∧ x2 ≤ 255) (h3 : 0 ≤ x3 ∧ x3 ≤ 255) {y0 y1 y2 y3 : Value}
    (c0 : w.cell? ⟨D, s, none⟩ = some y0) (c1 : w.cell? ⟨D, s + 1, none⟩ = some y1) (c2 : w.cell? ⟨D, s + 2, none⟩ = some y2) (c3 : w.cell? ⟨D, s + 3, none⟩ = some y3)
    (f0 : w.frozen? ⟨D, s, none⟩ = false) (f1 : w.frozen? ⟨D, s + 1, none⟩ = false) (f2 : w.frozen? ⟨D, s + 2, none⟩ = false) (f3 : w.frozen? ⟨D, s + 3, none⟩ = false) :
    Calls Tryz.prog 131 #[.agg #[], .slice (some ⟨D, s, none⟩) n c, .int .u32 (((x0 * 256 + x1) * 256 + x2) * 256 + x3)] w fun e w' =>
      e = .returned (.tuple #[]) ∧ ((((w.setCell ⟨D, s, none⟩ (.int .u8 x0)).setCell ⟨D, s + 1, none⟩ (.int .u8 x1)).setCell ⟨D, s + 2, none⟩ (.int .u8 x2)).setCell ⟨D, s + 3, none⟩ (.int .u8 x3)).alloc (.cells #[] 207) = w' := by
  have l0 : 0 < n := by omega
  have l1 : (1 : Int) < (n : Int) := by omega
  have l2 : (2 : Int) < (n : Int) := by omega
  have l3 : (3 : Int) < (n : Int) := by omega
  have hD : D < w.heap.size := World.block_lt_of_cell? _ _ c0
  have hD1 : D < w.heap.size + 1 := by omega
  obtain ⟨V, hV⟩ : ∃ V, V = ((x0 * 256 + x1) * 256 + x2) * 256 + x3 := ⟨_, rfl⟩
  rw [← hV]
  have e0 : V / 16777216 = x0 := by omega
  have e1 : V / 65536 % 256 = x1 := by omega
  have e2 : V / 256 % 256 = x2 := by omega
  have e3 : V % 256 = x3 := by omega
  have e4 : x0 % 256 = x0 := by omega
  have v0 : 0 ≤ V := by omega
  have v1 : V < 4294967296 := by omega
  clear hV
  go_enter Tryz.func131, Tryz.ntmps131
  go_wp2_with fail
  refine bodyPost_end (v := .tuple #[]) ?_ rfl ⟨rfl, rfl⟩
  kernel_rfl
end Go.Proofs.YtmpifdanfnebpaaGreat
