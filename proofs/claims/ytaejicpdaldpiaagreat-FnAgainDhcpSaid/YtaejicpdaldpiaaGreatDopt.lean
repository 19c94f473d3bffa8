/-
  The options of DHCPv6: their decoder.
-/
import Derived.Test.YtaejicpdaldpiaaGreatOpts
import Derived.Test.YtaejicpdaldpiaaGreatFill
import Derived.Test.YtaejicpdaldpiaaGreatRead
import Derived.Test.YtaejicpdaldpiaaGreatLaw
namespace Go.Proofs.YtaejicpdaldpiaaGreat
open Go Go.RowKit

/-- Options of DHCPv6: two numbers and bytes. -/
def eO : Elem (List Int × List Int) where
  size := 3
  R w ok cs p := ∃ a n u, cs = [.int .u16 a, .int .u16 n, u] ∧ p.1 = [a, n] ∧ SB w ok u p.2 ∧ (0 ≤ a ∧ a < 65536) ∧ (0 ≤ n ∧ n < 65536) ∧ p.2.length ≤ 65536
  len := by rintro w ok cs x ⟨a, n, u, rfl, _⟩; rfl
  one := by
    rintro w ok cs x ⟨a, n, u, rfl, _, ⟨p, c, rfl, _⟩, _⟩ v hv
    simp at hv
    rcases hv with rfl | rfl | rfl <;> rfl
  keeps := by rintro w w' ok cs x k ⟨a, n, u, rfl, h1, h2, h3⟩; exact ⟨a, n, u, rfl, h1, h2.keeps k, h3⟩
  imp := by rintro w ok ok' cs x hi ⟨a, n, u, rfl, h1, h2, h3⟩; exact ⟨a, n, u, rfl, h1, h2.imp hi, h3⟩
theorem infoOpt : (Tryz.prog.info? 115).map (fun i => (i.zero, i.size, i.bytes)) = some (some (.agg #[.int .u16 0, .int .u16 0, .slice none 0 0]), 3, 32) := by kernel_rfl

set_option maxRecDepth 100000 in
set_option maxHeartbeats 1000000 in
theorem opt_yes {g O l c Y N : Nat} {y0 y1 y2 y3 : Int} {w : World} (hl : 4 + N ≤ l) (hc : l ≤ c) (hm : c ≤ 9223372036854775807) (hN : y2 * 256 + y3 = (N : Int)) (hN2 : N ≤ 1000) (d0 : w.cell? ⟨Y, 0, none⟩ = some (.int .u16 0)) (d1 : w.cell? ⟨Y, 1, none⟩ = some (.int .u16 0)) (d2 : w.cell? ⟨Y, 2, none⟩ = some (.slice none 0 0)) (f0 : w.frozen? ⟨Y, 0, none⟩ = false) (f1 : w.frozen? ⟨Y, 1, none⟩ = false) (f2 : w.frozen? ⟨Y, 2, none⟩ = false)
    (c0 : w.cell? ⟨g, O, none⟩ = some (.int .u8 y0)) (c1 : w.cell? ⟨g, O + 1, none⟩ = some (.int .u8 y1)) (c2 : w.cell? ⟨g, O + 2, none⟩ = some (.int .u8 y2)) (c3 : w.cell? ⟨g, O + 3, none⟩ = some (.int .u8 y3)) (h0 : 0 ≤ y0 ∧ y0 ≤ 255) (h1 : 0 ≤ y1 ∧ y1 ≤ 255) (h2 : 0 ≤ y2 ∧ y2 ≤ 255) (h3 : 0 ≤ y3 ∧ y3 ≤ 255) {A : Option Addr} (hA : (if c = 4 then some (⟨g, O, none⟩ : Addr) else some ⟨g, O + 4, none⟩) = A) :
    Calls Tryz.prog 75 #[.pointer (some ⟨Y, 0, none⟩), .slice (some ⟨g, O, none⟩) l c] w fun e w' =>
      e = .returned .nilIface ∧ w'.cell? ⟨Y, 0, none⟩ = some (.int .u16 (y0 * 256 + y1)) ∧ w'.cell? ⟨Y, 1, none⟩ = some (.int .u16 (N : Int)) ∧ w'.cell? ⟨Y, 2, none⟩ = some (.slice A N (c - 4)) ∧ Below Y w w' := by
  have b2 : (2 : Int) ≤ (c : Int) := by omega
  have b4 : (4 : Int) ≤ (c : Int) := by omega
  have e2 : ¬ c = 2 := by omega
  have hl4 : ¬ (l : Int) < 4 := by omega
  have hfit : ¬ (l : Int) < 4 + (N : Int) := by omega
  have hfc : 4 + (N : Int) ≤ (c : Int) := by omega
  have hN3 : 4 + (N : Int) ≤ 65535 := by omega
  have lY : Y < w.heap.size := World.block_lt_of_cell? _ _ d0
  have lg : g < w.heap.size := World.block_lt_of_cell? _ _ c0
  have lY1 : Y < w.heap.size + 1 := by omega
  have lg1 : g < w.heap.size + 1 := by omega
  have lY2 : Y < w.heap.size + 1 + 1 := by omega
  have lg2 : g < w.heap.size + 1 + 1 := by omega
  have lY3 : Y < w.heap.size + 1 + 1 + 1 := by omega
  have lg3 : g < w.heap.size + 1 + 1 + 1 := by omega
  go_enter Tryz.func75, Tryz.ntmps75
  go_wp2_with fail
  refine wp_region_lex (fun _ => True) [7] (.q 0 (.q 1 (.q 2 (.q 3 (.l 4 (.q 5 (.q 6 (.l 7 .done .stop))) .stop))))) (by kernel_rfl) (by kernel_rfl) (fun _ _ d _ _ h => by cases d <;> exact h) (by simp only [Ord.fill, nthOp]; rfl) trivial ?_
  repeat
    first | refine lexO_pass rfl ?_ | (refine lexO_take2 ?_ rfl (by kernel_rfl) trivial (fun w' _ K Q' hK => ?_) ?_; rotate_left; focus (go_wp2_with fail; exact hK))
  refine lexO_do rfl (fun K hK => ?_) lexO_stop
  go_wp2_with (go_at_call 66; refine (u16_c y0 y1 (by omega) h0 h1 (by go_simp) (by go_simp)).mono ?_; rintro e w' ⟨rfl, rfl⟩)
  refine ⟨fun _ => trivial, ?_⟩
  repeat
    first | refine lexO_pass rfl ?_ | (refine lexO_take2 ?_ rfl (by kernel_rfl) trivial (fun w' _ K Q' hK => ?_) ?_; rotate_left; focus (go_wp2_with fail; exact hK))
  refine lexO_do rfl (fun K hK => ?_) lexO_stop
  go_wp2_with fail
  refine step_last (by decide) (lexO_done ?_)
  go_wp2_with fail
  refine wp_region_lex (fun _ => True) [7] (.q 0 (.q 1 (.q 2 (.q 3 (.l 4 (.q 5 (.q 6 (.l 7 .done .stop))) .stop))))) (by kernel_rfl) (by kernel_rfl) (fun _ _ d _ _ h => by cases d <;> exact h) (by simp only [Ord.fill, nthOp]; rfl) trivial ?_
  repeat
    first | refine lexO_pass rfl ?_ | (refine lexO_take2 ?_ rfl (by kernel_rfl) trivial (fun w' _ K Q' hK => ?_) ?_; rotate_left; focus (go_wp2_with fail; exact hK))
  refine lexO_do rfl (fun K hK => ?_) lexO_stop
  go_wp2_with (go_at_call 66; refine (u16_c y2 y3 (by omega) h2 h3 (by go_simp) (by go_simp)).mono ?_; rintro e w' ⟨rfl, rfl⟩)
  refine ⟨fun _ => trivial, ?_⟩
  repeat
    first | refine lexO_pass rfl ?_ | (refine lexO_take2 ?_ rfl (by kernel_rfl) trivial (fun w' _ K Q' hK => ?_) ?_; rotate_left; focus (go_wp2_with fail; exact hK))
  refine lexO_do rfl (fun K hK => ?_) lexO_stop
  go_wp2_with fail
  refine step_last (by decide) (lexO_done ?_)
  go_wp2_with fail
  refine bodyPost_ret (v := .nilIface) (by simp only [results, Tryz.results75]; go_simp) rfl ⟨rfl, by go_simp, by go_simp, by go_simp, ?_⟩
  have hb := Below.refl Y w
  exact (by repeat (first | with_reducible assumption | with_reducible refine Below.drew ?_ | with_reducible refine below_drewN' ?_ _ | with_reducible refine Below.alloc ?_ ?_ _ | with_reducible refine Below.setCell ?_ ?_ _ | with_reducible exact Nat.le_refl _ | omega | focus (simp; done) | focus (simp; omega)))

set_option maxRecDepth 100000 in
set_option maxHeartbeats 1000000 in
theorem opt_few {p : Option Addr} {l c Y : Nat} {w : World} (hl : l < 4) (lY : Y < w.heap.size) :
    Calls Tryz.prog 75 #[.pointer (some ⟨Y, 0, none⟩), .slice p l c] w fun e w' => (∃ b, e = .returned (.iface 201 (.pointer (some ⟨b, 0, none⟩)))) ∧ Below Y w w' := by
  have hl4 : (l : Int) < 4 := by omega
  go_enter Tryz.func75, Tryz.ntmps75
  go_wp2_with (go_at_call 49; refine new_c.mono ?_; rintro e w' ⟨rfl, rfl⟩)
  refine bodyPost_ret (v := .iface 201 (.pointer (some ⟨w.heap.size, 0, none⟩))) (by simp only [results, Tryz.results75]; go_simp) rfl ?_
  have hb := Below.refl Y w
  exact ⟨⟨_, rfl⟩, (by repeat (first | with_reducible assumption | with_reducible refine Below.drew ?_ | with_reducible refine below_drewN' ?_ _ | with_reducible refine Below.alloc ?_ ?_ _ | with_reducible refine Below.setCell ?_ ?_ _ | with_reducible exact Nat.le_refl _ | omega | focus (simp; done) | focus (simp; omega)))⟩

set_option maxRecDepth 100000 in
set_option maxHeartbeats 1000000 in
theorem opt_long {g O l c Y N : Nat} {y0 y1 y2 y3 : Int} {w : World} (hl4' : 4 ≤ l) (hl : l < 4 + N) (hc : l ≤ c) (hN : y2 * 256 + y3 = (N : Int)) (d0 : w.cell? ⟨Y, 0, none⟩ = some (.int .u16 0)) (d1 : w.cell? ⟨Y, 1, none⟩ = some (.int .u16 0)) (f0 : w.frozen? ⟨Y, 0, none⟩ = false) (f1 : w.frozen? ⟨Y, 1, none⟩ = false)
    (c0 : w.cell? ⟨g, O, none⟩ = some (.int .u8 y0)) (c1 : w.cell? ⟨g, O + 1, none⟩ = some (.int .u8 y1)) (c2 : w.cell? ⟨g, O + 2, none⟩ = some (.int .u8 y2)) (c3 : w.cell? ⟨g, O + 3, none⟩ = some (.int .u8 y3)) (h0 : 0 ≤ y0 ∧ y0 ≤ 255) (h1 : 0 ≤ y1 ∧ y1 ≤ 255) (h2 : 0 ≤ y2 ∧ y2 ≤ 255) (h3 : 0 ≤ y3 ∧ y3 ≤ 255) :
    Calls Tryz.prog 75 #[.pointer (some ⟨Y, 0, none⟩), .slice (some ⟨g, O, none⟩) l c] w fun e w' => (∃ b, e = .returned (.iface 201 (.pointer (some ⟨b, 0, none⟩)))) ∧ Below Y w w' := by
  have b2 : (2 : Int) ≤ (c : Int) := by omega
  have b4 : (4 : Int) ≤ (c : Int) := by omega
  have e2 : ¬ c = 2 := by omega
  have hl4 : ¬ (l : Int) < 4 := by omega
  have hfit : (l : Int) < 4 + (N : Int) := by omega
  have lY : Y < w.heap.size := World.block_lt_of_cell? _ _ d0
  have lg : g < w.heap.size := World.block_lt_of_cell? _ _ c0
  have lY1 : Y < w.heap.size + 1 := by omega
  have lg1 : g < w.heap.size + 1 := by omega
  have lY2 : Y < w.heap.size + 1 + 1 := by omega
  have lg2 : g < w.heap.size + 1 + 1 := by omega
  have lY3 : Y < w.heap.size + 1 + 1 + 1 := by omega
  have lg3 : g < w.heap.size + 1 + 1 + 1 := by omega
  go_enter Tryz.func75, Tryz.ntmps75
  go_wp2_with fail
  refine wp_region_lex (fun _ => True) [7] (.q 0 (.q 1 (.q 2 (.q 3 (.l 4 (.q 5 (.q 6 (.l 7 .done .stop))) .stop))))) (by kernel_rfl) (by kernel_rfl) (fun _ _ d _ _ h => by cases d <;> exact h) (by simp only [Ord.fill, nthOp]; rfl) trivial ?_
  repeat
    first | refine lexO_pass rfl ?_ | (refine lexO_take2 ?_ rfl (by kernel_rfl) trivial (fun w' _ K Q' hK => ?_) ?_; rotate_left; focus (go_wp2_with fail; exact hK))
  refine lexO_do rfl (fun K hK => ?_) lexO_stop
  go_wp2_with (go_at_call 66; refine (u16_c y0 y1 (by omega) h0 h1 (by go_simp) (by go_simp)).mono ?_; rintro e w' ⟨rfl, rfl⟩)
  refine ⟨fun _ => trivial, ?_⟩
  repeat
    first | refine lexO_pass rfl ?_ | (refine lexO_take2 ?_ rfl (by kernel_rfl) trivial (fun w' _ K Q' hK => ?_) ?_; rotate_left; focus (go_wp2_with fail; exact hK))
  refine lexO_do rfl (fun K hK => ?_) lexO_stop
  go_wp2_with fail
  refine step_last (by decide) (lexO_done ?_)
  go_wp2_with fail
  refine wp_region_lex (fun _ => True) [7] (.q 0 (.q 1 (.q 2 (.q 3 (.l 4 (.q 5 (.q 6 (.l 7 .done .stop))) .stop))))) (by kernel_rfl) (by kernel_rfl) (fun _ _ d _ _ h => by cases d <;> exact h) (by simp only [Ord.fill, nthOp]; rfl) trivial ?_
  repeat
    first | refine lexO_pass rfl ?_ | (refine lexO_take2 ?_ rfl (by kernel_rfl) trivial (fun w' _ K Q' hK => ?_) ?_; rotate_left; focus (go_wp2_with fail; exact hK))
  refine lexO_do rfl (fun K hK => ?_) lexO_stop
  go_wp2_with (go_at_call 66; refine (u16_c y2 y3 (by omega) h2 h3 (by go_simp) (by go_simp)).mono ?_; rintro e w' ⟨rfl, rfl⟩)
  refine ⟨fun _ => trivial, ?_⟩
  repeat
    first | refine lexO_pass rfl ?_ | (refine lexO_take2 ?_ rfl (by kernel_rfl) trivial (fun w' _ K Q' hK => ?_) ?_; rotate_left; focus (go_wp2_with fail; exact hK))
  refine lexO_do rfl (fun K hK => ?_) lexO_stop
  go_wp2_with fail
  refine step_last (by decide) (lexO_done ?_)
  go_wp2_with (go_at_call 49; refine new_c.mono ?_; rintro e w' ⟨rfl, rfl⟩)
  refine bodyPost_ret (v := .iface 201 (.pointer (some ⟨w.heap.size + 1 + 1, 0, none⟩))) (by simp only [results, Tryz.results75]; go_simp) rfl ?_
  have hb := Below.refl Y w
  exact ⟨⟨_, rfl⟩, (by repeat (first | with_reducible assumption | with_reducible refine Below.drew ?_ | with_reducible refine below_drewN' ?_ _ | with_reducible refine Below.alloc ?_ ?_ _ | with_reducible refine Below.setCell ?_ ?_ _ | with_reducible exact Nat.le_refl _ | omega | focus (simp; done) | focus (simp; omega)))⟩

end Go.Proofs.YtaejicpdaldpiaaGreat
