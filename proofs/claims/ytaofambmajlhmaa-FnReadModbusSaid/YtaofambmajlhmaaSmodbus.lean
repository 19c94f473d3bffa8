/-
  spec.Read of modbus.
-/
import Derived.Test.YtaofambmajlhmaaLaw
import Derived.Test.YtaofambmajlhmaaDmodbus
namespace Go.Proofs.Ytaofambmajlhmaa
open Go Go.RowKit

set_option maxRecDepth 100000 in
set_option maxHeartbeats 1000000 in
theorem spec_modbus_short {p : Option Addr} {n c : Nat} {w : World} (hn : n < 9) :
    Calls Try.prog 20 #[.string ⟨#[109, 111, 100, 98, 117, 115]⟩, .slice p n c] w fun e w' =>
      e = .returned (.tuple #[zlay, .bool false, .bool true]) ∧ Below w.heap.size w w' := by
  go_enter Try.func20, Try.ntmps20
  go_wp2_with (go_at_call 24; refine (least_modbus _).mono ?_; rintro e1 w1 ⟨rfl, hb1⟩)
  obtain ⟨r0, r1, r2, r3⟩ := cells4 hb1
  obtain ⟨f0, f1, f2, f3⟩ := frozen4 hb1
  have lw := size_new hb1
  have HB := Lib.hid hb1
  clear hb1
  go_wp2_with (go_at_call 25; refine none_c.mono ?_; rintro e w' ⟨rfl, rfl⟩)
  refine bodyPost_ret (v := .tuple #[zlay, .bool false, .bool true]) (by simp only [results, Try.results20]; go_simp) rfl ?_
  have h0 := below_new HB.out
  exact ⟨rfl, (by repeat (first | with_reducible assumption | with_reducible refine Below.drew ?_ | with_reducible refine Below.alloc ?_ ?_ _ | with_reducible refine Below.setCell ?_ ?_ _ | with_reducible exact Nat.le_refl _ | omega | focus (simp; done) | focus (simp; omega)))⟩

set_option maxRecDepth 100000 in
set_option maxHeartbeats 1000000 in
theorem spec_modbusA {g o n c : Nat} (x0 x1 x2 x3 x4 x5 x6 x7 x8 : Int) {rest : List Int} {w : World} (hn : n = rest.length + 9) (hc : n ≤ c) (hm : c ≤ 9223372036854775807) (hL : n ≤ 260) (hq : x4 * 256 + x5 = (n : Int) - 6) (hx : x2 = 0) (hy : x3 = 0)
    (hb : ∀ z ∈ [x0, x1, x2, x3, x4, x5, x6, x7, x8], 0 ≤ z ∧ z ≤ 255) (hr : RowAt w (fun _ => True) (some ⟨g, o, none⟩) ((x0 :: x1 :: x2 :: x3 :: x4 :: x5 :: x6 :: x7 :: x8 :: rest).map (.int .u8))) :
    Calls Try.prog 20 #[.string ⟨#[109, 111, 100, 98, 117, 115]⟩, .slice (some ⟨g, o, none⟩) n c] w fun e w' =>
      ∃ v, e = .returned (.tuple #[v, .bool true, .bool true]) ∧ LayIs w' v ⟨[x0 * 256 + x1, x2 * 256 + x3, x4 * 256 + x5, x6], [], [], x7 :: x8 :: rest⟩ ∧ Below w.heap.size w w' := by
  have hnm : 9 ≤ n := by omega
  have b2 : (2 : Int) ≤ (c : Int) := by omega
  have b4 : (4 : Int) ≤ (c : Int) := by omega
  have b6 : (6 : Int) ≤ (c : Int) := by omega
  have b7 : (7 : Int) ≤ (c : Int) := by omega
  have e2 : ¬ (c = 2) := by omega
  have e4 : ¬ (c = 4) := by omega
  have hL1 : ¬ (260 : Int) < (n : Int) := by omega
  have hw : IntKind.u64.wrap ((n : Int) - 6) = (n : Int) - 6 := wraps_u64 _ (by omega) (by omega)
  have hbne : (x4 * 256 + x5 != (n : Int) - 6) = false := by simp [hq]
  have HQ := Lib.hid hq
  clear hq
  have hxb : (x2 == 0) = true := by simp [hx]
  have HX := Lib.hid hx
  clear hx
  have hyb : (x3 == 0) = true := by simp [hy]
  have HY := Lib.hid hy
  clear hy
  have HN := Lib.hid hn
  clear hn
  have HR := Lib.hid hr
  have hP := SB.tail (n := n) (k := 7) (A := some ⟨g, o + 7, none⟩) hr (by simpa using HN.out) (by omega) hc hm (by rw [if_neg (by omega)])
  obtain ⟨hg, hcell⟩ := rowCells hr (by simp)
  have c0 := hcell 0 _ (by simp; rfl)
  have c1 := hcell 1 _ (by simp; rfl)
  have c2 := hcell 2 _ (by simp; rfl)
  have c3 := hcell 3 _ (by simp; rfl)
  have c4 := hcell 4 _ (by simp; rfl)
  have c5 := hcell 5 _ (by simp; rfl)
  have c6 := hcell 6 _ (by simp; rfl)
  rw [Nat.add_zero] at c0
  have h0 := hb x0 (by simp)
  have h1 := hb x1 (by simp)
  have h2 := hb x2 (by simp)
  have h3 := hb x3 (by simp)
  have h4 := hb x4 (by simp)
  have h5 := hb x5 (by simp)
  have h6 := hb x6 (by simp)
  have HP := Lib.hid hP
  clear hP
  clear hr hcell hb
  go_enter Try.func20, Try.ntmps20
  go_wp2_with (go_at_call 24; refine (least_modbus _).mono ?_; rintro e1 w1 ⟨rfl, hb1⟩)
  obtain ⟨r0, r1, r2, r3⟩ := cells4 hb1
  obtain ⟨f0, f1, f2, f3⟩ := frozen4 hb1
  have lw := size_new hb1
  have lw1 : w.heap.size < w1.heap.size + 1 := by omega
  have lw2 : w.heap.size < w1.heap.size + 1 + 1 := by omega
  have lw3 : w.heap.size < w1.heap.size + 1 + 1 + 1 := by omega
  have k0 := cell_keep hb1 c0
  have k1 := cell_keep hb1 c1
  have k2 := cell_keep hb1 c2
  have k3 := cell_keep hb1 c3
  have k4 := cell_keep hb1 c4
  have k5 := cell_keep hb1 c5
  have k6 := cell_keep hb1 c6
  have lg : g < w1.heap.size := by omega
  have HB := Lib.hid hb1
  clear hb1 c0 c1 c2 c3 c4 c5 c6
  go_wp2_with fail
  go_wp2_with (go_at_call 27; refine (number2_c x4 x5 h4 h5 (by go_simp) (by go_simp)).mono ?_; rintro e w' ⟨rfl, rfl⟩)
  refine wp_region_to w.heap.size (by first | omega | (simp; omega)) [29] (.q 0 (.q 1 (.q 2 (.q 3 (.q 5 (.q 6 (.q 8 (.q 9 (.q 11 (.q 12 (.q 13 (.q 14 (.q 17 (.q 18 (.q 19 (.q 20 (.l 4 (.l 7 (.l 10 (.l 15 (.l 16 (.q 21 (.q 22 (.q 23 (.q 24 (.q 25 (.q 26 (.l 27 (.l 28 (.l 29 .done .stop) .stop) .stop))))))) .stop) .stop) .stop) .stop) .stop))))))))))))))))) (by kernel_rfl) (by kernel_rfl) (fun _ _ d _ _ h => by cases d <;> exact h) (by simp only [Ord.fill, nthOp]; rfl) ?_; intro hSm
  repeat
    first | refine lexO_pass rfl ?_ | (refine lexO_take2 ?_ rfl (by kernel_rfl) (by with_reducible assumption) (fun w' hS K Q' hK => ?_) ?_; rotate_left; focus (have hS2 := hS.2; clear hS; go_wp2_with fail; exact hK))
  refine lexO_do rfl (fun K hK => ?_) lexO_stop
  go_wp2_with (go_at_call 27; refine (number2_c x0 x1 h0 h1 (by go_simp) (by go_simp)).mono ?_; rintro e w' ⟨rfl, rfl⟩)
  refine step_and (by repeat (first | with_reducible assumption | (with_reducible refine SameTo.refl ?_) | with_reducible refine SameTo.drew ?_ | with_reducible refine SameTo.alloc ?_ _ | (with_reducible refine SameTo.setCell ?_ ?_ _) | (refine SameTo.below ?_ (by with_reducible assumption)) | omega | exact Nat.le_refl _ | focus (simp; done) | focus (simp; omega))) (fun _ => ?_)
  repeat
    first | refine lexO_pass rfl ?_ | (refine lexO_take2 ?_ rfl (by kernel_rfl) (by with_reducible assumption) (fun w' hS K Q' hK => ?_) ?_; rotate_left; focus (have hS2 := hS.2; clear hS; go_wp2_with fail; exact hK))
  refine lexO_do rfl (fun K hK => ?_) lexO_stop
  go_wp2_with (go_at_call 27; refine (number2_c x2 x3 h2 h3 (by go_simp) (by go_simp)).mono ?_; rintro e w' ⟨rfl, rfl⟩)
  refine step_and (by repeat (first | with_reducible assumption | (with_reducible refine SameTo.refl ?_) | with_reducible refine SameTo.drew ?_ | with_reducible refine SameTo.alloc ?_ _ | (with_reducible refine SameTo.setCell ?_ ?_ _) | (refine SameTo.below ?_ (by with_reducible assumption)) | omega | exact Nat.le_refl _ | focus (simp; done) | focus (simp; omega))) (fun _ => ?_)
  repeat
    first | refine lexO_pass rfl ?_ | (refine lexO_take2 ?_ rfl (by kernel_rfl) (by with_reducible assumption) (fun w' hS K Q' hK => ?_) ?_; rotate_left; focus (have hS2 := hS.2; clear hS; go_wp2_with fail; exact hK))
  refine lexO_do rfl (fun K hK => ?_) lexO_stop
  go_wp2_with (go_at_call 27; refine (number2_c x4 x5 h4 h5 (by go_simp) (by go_simp)).mono ?_; rintro e w' ⟨rfl, rfl⟩)
  refine step_and (by repeat (first | with_reducible assumption | (with_reducible refine SameTo.refl ?_) | with_reducible refine SameTo.drew ?_ | with_reducible refine SameTo.alloc ?_ _ | (with_reducible refine SameTo.setCell ?_ ?_ _) | (refine SameTo.below ?_ (by with_reducible assumption)) | omega | exact Nat.le_refl _ | focus (simp; done) | focus (simp; omega))) (fun _ => ?_)
  repeat
    first | refine lexO_pass rfl ?_ | (refine lexO_take2 ?_ rfl (by kernel_rfl) (by with_reducible assumption) (fun w' hS K Q' hK => ?_) ?_; rotate_left; focus (have hS2 := hS.2; clear hS; go_wp2_with fail; exact hK))
  refine lexO_do rfl (fun K hK => ?_) lexO_stop
  go_wp2_with fail
  refine step_and (by repeat (first | with_reducible assumption | (with_reducible refine SameTo.refl ?_) | with_reducible refine SameTo.drew ?_ | with_reducible refine SameTo.alloc ?_ _ | (with_reducible refine SameTo.setCell ?_ ?_ _) | (refine SameTo.below ?_ (by with_reducible assumption)) | omega | exact Nat.le_refl _ | focus (simp; done) | focus (simp; omega))) (fun _ => ?_)
  repeat
    first | refine lexO_pass rfl ?_ | (refine lexO_take2 ?_ rfl (by kernel_rfl) (by with_reducible assumption) (fun w' hS K Q' hK => ?_) ?_; rotate_left; focus (have hS2 := hS.2; clear hS; go_wp2_with fail; exact hK))
  refine lexO_do rfl (fun K hK => ?_) lexO_stop
  go_wp2_with (go_at_call 26; refine whole_c.mono ?_; rintro e w' ⟨rfl, rfl⟩)
  refine step_and (by repeat (first | with_reducible assumption | (with_reducible refine SameTo.refl ?_) | with_reducible refine SameTo.drew ?_ | with_reducible refine SameTo.alloc ?_ _ | (with_reducible refine SameTo.setCell ?_ ?_ _) | (refine SameTo.below ?_ (by with_reducible assumption)) | omega | exact Nat.le_refl _ | focus (simp; done) | focus (simp; omega))) (fun _ => ?_)
  repeat
    first | refine lexO_pass rfl ?_ | (refine lexO_take2 ?_ rfl (by kernel_rfl) (by with_reducible assumption) (fun w' hS K Q' hK => ?_) ?_; rotate_left; focus (have hS2 := hS.2; clear hS; go_wp2_with fail; exact hK))
  refine lexO_do rfl (fun K hK => ?_) lexO_stop
  go_wp2_with fail
  refine step_and (by repeat (first | with_reducible assumption | (with_reducible refine SameTo.refl ?_) | with_reducible refine SameTo.drew ?_ | with_reducible refine SameTo.alloc ?_ _ | (with_reducible refine SameTo.setCell ?_ ?_ _) | (refine SameTo.below ?_ (by with_reducible assumption)) | omega | exact Nat.le_refl _ | focus (simp; done) | focus (simp; omega))) (fun _ => ?_)
  repeat
    first | refine lexO_pass rfl ?_ | (refine lexO_take2 ?_ rfl (by kernel_rfl) (by with_reducible assumption) (fun w' hS K Q' hK => ?_) ?_; rotate_left; focus (have hS2 := hS.2; clear hS; go_wp2_with fail; exact hK))
  refine lexO_do rfl (fun K hK => ?_) lexO_stop
  go_wp2_with fail
  refine step_and (by repeat (first | with_reducible assumption | (with_reducible refine SameTo.refl ?_) | with_reducible refine SameTo.drew ?_ | with_reducible refine SameTo.alloc ?_ _ | (with_reducible refine SameTo.setCell ?_ ?_ _) | (refine SameTo.below ?_ (by with_reducible assumption)) | omega | exact Nat.le_refl _ | focus (simp; done) | focus (simp; omega))) (fun _ => ?_)
  repeat
    first | refine lexO_pass rfl ?_ | (refine lexO_take2 ?_ rfl (by kernel_rfl) (by with_reducible assumption) (fun w' hS K Q' hK => ?_) ?_; rotate_left; focus (have hS2 := hS.2; clear hS; go_wp2_with fail; exact hK))
  refine lexO_do rfl (fun K hK => ?_) lexO_stop
  go_wp2_with fail
  refine step_last (by decide) (lexO_done ?_)
  go_wp2
  refine bodyPost_ret (v := .tuple #[.agg #[.slice (some ⟨w1.heap.size, 0, none⟩) 4 4, .slice none 0 0, .slice none 0 0, .slice (some ⟨g, o + 7, none⟩) (n - 7) (c - 7)], .bool true, .bool true]) (by simp only [results, Try.results20]; go_simp) rfl ?_
  have q0 := below_new HB.out
  have q1 : Keeps (fun b => b ≠ w.heap.size) w w1 := Keeps.of_below q0
  refine ⟨_, rfl, ⟨_, _, _, _, rfl, IsSl.block (cs := #[.int .u64 (x0 * 256 + x1), .int .u64 (x2 * 256 + x3), .int .u64 (x4 * 256 + x5), .int .u64 x6]) (e := 39) (f := (0, 0)) (by (try simp only [heap_drew]); repeat (first | (with_reducible refine heap_last ?_; focus (simp; done)) | with_reducible refine heap_past ?_)) trivial (by omega), SD.nil _ _, SP.nil _ _, ?_⟩, (by repeat (first | with_reducible assumption | with_reducible refine Below.drew ?_ | with_reducible refine Below.alloc ?_ ?_ _ | with_reducible refine Below.setCell ?_ ?_ _ | with_reducible exact Nat.le_refl _ | omega | focus (simp; done) | focus (simp; omega)))⟩
  exact ((HP.out.imp (fun b hb _ => (by omega : b ≠ w.heap.size))).keeps (by repeat (first | with_reducible assumption | with_reducible exact Keeps.refl _ _ | with_reducible refine Keeps.drew ?_ | with_reducible refine Keeps.alloc ?_ _ | with_reducible refine Keeps.setCell ?_ ?_ _ | omega | focus (simp; done) | focus (simp; omega)))).imp (fun _ _ _ => trivial)

set_option maxRecDepth 100000 in
set_option maxHeartbeats 1000000 in
theorem spec_modbusB {g o n c : Nat} (x0 x1 x2 x3 x4 x5 x6 x7 x8 : Int) {rest : List Int} {w : World} (hn : n = rest.length + 9) (hc : n ≤ c) (hm : c ≤ 9223372036854775807) (hL : n ≤ 260) (hq : x4 * 256 + x5 = (n : Int) - 6) (hx : x2 = 0) (hy : ¬ x3 = 0)
    (hb : ∀ z ∈ [x0, x1, x2, x3, x4, x5, x6, x7, x8], 0 ≤ z ∧ z ≤ 255) (hr : RowAt w (fun _ => True) (some ⟨g, o, none⟩) ((x0 :: x1 :: x2 :: x3 :: x4 :: x5 :: x6 :: x7 :: x8 :: rest).map (.int .u8))) :
    Calls Try.prog 20 #[.string ⟨#[109, 111, 100, 98, 117, 115]⟩, .slice (some ⟨g, o, none⟩) n c] w fun e w' =>
      ∃ v, e = .returned (.tuple #[v, .bool true, .bool false]) ∧ LayIs w' v ⟨[x0 * 256 + x1, x2 * 256 + x3, x4 * 256 + x5, x6], [], [], x7 :: x8 :: rest⟩ ∧ Below w.heap.size w w' := by
  have hnm : 9 ≤ n := by omega
  have b2 : (2 : Int) ≤ (c : Int) := by omega
  have b4 : (4 : Int) ≤ (c : Int) := by omega
  have b6 : (6 : Int) ≤ (c : Int) := by omega
  have b7 : (7 : Int) ≤ (c : Int) := by omega
  have e2 : ¬ (c = 2) := by omega
  have e4 : ¬ (c = 4) := by omega
  have hL1 : ¬ (260 : Int) < (n : Int) := by omega
  have hw : IntKind.u64.wrap ((n : Int) - 6) = (n : Int) - 6 := wraps_u64 _ (by omega) (by omega)
  have hbne : (x4 * 256 + x5 != (n : Int) - 6) = false := by simp [hq]
  have HQ := Lib.hid hq
  clear hq
  have hxb : (x2 == 0) = true := by simp [hx]
  have HX := Lib.hid hx
  clear hx
  have hyb : (x3 == 0) = false := by simp [hy]
  have HY := Lib.hid hy
  clear hy
  have HN := Lib.hid hn
  clear hn
  have HR := Lib.hid hr
  have hP := SB.tail (n := n) (k := 7) (A := some ⟨g, o + 7, none⟩) hr (by simpa using HN.out) (by omega) hc hm (by rw [if_neg (by omega)])
  obtain ⟨hg, hcell⟩ := rowCells hr (by simp)
  have c0 := hcell 0 _ (by simp; rfl)
  have c1 := hcell 1 _ (by simp; rfl)
  have c2 := hcell 2 _ (by simp; rfl)
  have c3 := hcell 3 _ (by simp; rfl)
  have c4 := hcell 4 _ (by simp; rfl)
  have c5 := hcell 5 _ (by simp; rfl)
  have c6 := hcell 6 _ (by simp; rfl)
  rw [Nat.add_zero] at c0
  have h0 := hb x0 (by simp)
  have h1 := hb x1 (by simp)
  have h2 := hb x2 (by simp)
  have h3 := hb x3 (by simp)
  have h4 := hb x4 (by simp)
  have h5 := hb x5 (by simp)
  have h6 := hb x6 (by simp)
  have HP := Lib.hid hP
  clear hP
  clear hr hcell hb
  go_enter Try.func20, Try.ntmps20
  go_wp2_with (go_at_call 24; refine (least_modbus _).mono ?_; rintro e1 w1 ⟨rfl, hb1⟩)
  obtain ⟨r0, r1, r2, r3⟩ := cells4 hb1
  obtain ⟨f0, f1, f2, f3⟩ := frozen4 hb1
  have lw := size_new hb1
  have lw1 : w.heap.size < w1.heap.size + 1 := by omega
  have lw2 : w.heap.size < w1.heap.size + 1 + 1 := by omega
  have lw3 : w.heap.size < w1.heap.size + 1 + 1 + 1 := by omega
  have k0 := cell_keep hb1 c0
  have k1 := cell_keep hb1 c1
  have k2 := cell_keep hb1 c2
  have k3 := cell_keep hb1 c3
  have k4 := cell_keep hb1 c4
  have k5 := cell_keep hb1 c5
  have k6 := cell_keep hb1 c6
  have lg : g < w1.heap.size := by omega
  have HB := Lib.hid hb1
  clear hb1 c0 c1 c2 c3 c4 c5 c6
  go_wp2_with fail
  go_wp2_with (go_at_call 27; refine (number2_c x4 x5 h4 h5 (by go_simp) (by go_simp)).mono ?_; rintro e w' ⟨rfl, rfl⟩)
  refine wp_region_to w.heap.size (by first | omega | (simp; omega)) [29] (.q 0 (.q 1 (.q 2 (.q 3 (.q 5 (.q 6 (.q 8 (.q 9 (.q 11 (.q 12 (.q 13 (.q 14 (.q 17 (.q 18 (.q 19 (.q 20 (.l 4 (.l 7 (.l 10 (.l 15 (.l 16 (.q 21 (.q 22 (.q 23 (.q 24 (.q 25 (.q 26 (.l 27 (.l 28 (.l 29 .done .stop) .stop) .stop))))))) .stop) .stop) .stop) .stop) .stop))))))))))))))))) (by kernel_rfl) (by kernel_rfl) (fun _ _ d _ _ h => by cases d <;> exact h) (by simp only [Ord.fill, nthOp]; rfl) ?_; intro hSm
  repeat
    first | refine lexO_pass rfl ?_ | (refine lexO_take2 ?_ rfl (by kernel_rfl) (by with_reducible assumption) (fun w' hS K Q' hK => ?_) ?_; rotate_left; focus (have hS2 := hS.2; clear hS; go_wp2_with fail; exact hK))
  refine lexO_do rfl (fun K hK => ?_) lexO_stop
  go_wp2_with (go_at_call 27; refine (number2_c x0 x1 h0 h1 (by go_simp) (by go_simp)).mono ?_; rintro e w' ⟨rfl, rfl⟩)
  refine step_and (by repeat (first | with_reducible assumption | (with_reducible refine SameTo.refl ?_) | with_reducible refine SameTo.drew ?_ | with_reducible refine SameTo.alloc ?_ _ | (with_reducible refine SameTo.setCell ?_ ?_ _) | (refine SameTo.below ?_ (by with_reducible assumption)) | omega | exact Nat.le_refl _ | focus (simp; done) | focus (simp; omega))) (fun _ => ?_)
  repeat
    first | refine lexO_pass rfl ?_ | (refine lexO_take2 ?_ rfl (by kernel_rfl) (by with_reducible assumption) (fun w' hS K Q' hK => ?_) ?_; rotate_left; focus (have hS2 := hS.2; clear hS; go_wp2_with fail; exact hK))
  refine lexO_do rfl (fun K hK => ?_) lexO_stop
  go_wp2_with (go_at_call 27; refine (number2_c x2 x3 h2 h3 (by go_simp) (by go_simp)).mono ?_; rintro e w' ⟨rfl, rfl⟩)
  refine step_and (by repeat (first | with_reducible assumption | (with_reducible refine SameTo.refl ?_) | with_reducible refine SameTo.drew ?_ | with_reducible refine SameTo.alloc ?_ _ | (with_reducible refine SameTo.setCell ?_ ?_ _) | (refine SameTo.below ?_ (by with_reducible assumption)) | omega | exact Nat.le_refl _ | focus (simp; done) | focus (simp; omega))) (fun _ => ?_)
  repeat
    first | refine lexO_pass rfl ?_ | (refine lexO_take2 ?_ rfl (by kernel_rfl) (by with_reducible assumption) (fun w' hS K Q' hK => ?_) ?_; rotate_left; focus (have hS2 := hS.2; clear hS; go_wp2_with fail; exact hK))
  refine lexO_do rfl (fun K hK => ?_) lexO_stop
  go_wp2_with (go_at_call 27; refine (number2_c x4 x5 h4 h5 (by go_simp) (by go_simp)).mono ?_; rintro e w' ⟨rfl, rfl⟩)
  refine step_and (by repeat (first | with_reducible assumption | (with_reducible refine SameTo.refl ?_) | with_reducible refine SameTo.drew ?_ | with_reducible refine SameTo.alloc ?_ _ | (with_reducible refine SameTo.setCell ?_ ?_ _) | (refine SameTo.below ?_ (by with_reducible assumption)) | omega | exact Nat.le_refl _ | focus (simp; done) | focus (simp; omega))) (fun _ => ?_)
  repeat
    first | refine lexO_pass rfl ?_ | (refine lexO_take2 ?_ rfl (by kernel_rfl) (by with_reducible assumption) (fun w' hS K Q' hK => ?_) ?_; rotate_left; focus (have hS2 := hS.2; clear hS; go_wp2_with fail; exact hK))
  refine lexO_do rfl (fun K hK => ?_) lexO_stop
  go_wp2_with fail
  refine step_and (by repeat (first | with_reducible assumption | (with_reducible refine SameTo.refl ?_) | with_reducible refine SameTo.drew ?_ | with_reducible refine SameTo.alloc ?_ _ | (with_reducible refine SameTo.setCell ?_ ?_ _) | (refine SameTo.below ?_ (by with_reducible assumption)) | omega | exact Nat.le_refl _ | focus (simp; done) | focus (simp; omega))) (fun _ => ?_)
  repeat
    first | refine lexO_pass rfl ?_ | (refine lexO_take2 ?_ rfl (by kernel_rfl) (by with_reducible assumption) (fun w' hS K Q' hK => ?_) ?_; rotate_left; focus (have hS2 := hS.2; clear hS; go_wp2_with fail; exact hK))
  refine lexO_do rfl (fun K hK => ?_) lexO_stop
  go_wp2_with (go_at_call 26; refine whole_c.mono ?_; rintro e w' ⟨rfl, rfl⟩)
  refine step_and (by repeat (first | with_reducible assumption | (with_reducible refine SameTo.refl ?_) | with_reducible refine SameTo.drew ?_ | with_reducible refine SameTo.alloc ?_ _ | (with_reducible refine SameTo.setCell ?_ ?_ _) | (refine SameTo.below ?_ (by with_reducible assumption)) | omega | exact Nat.le_refl _ | focus (simp; done) | focus (simp; omega))) (fun _ => ?_)
  repeat
    first | refine lexO_pass rfl ?_ | (refine lexO_take2 ?_ rfl (by kernel_rfl) (by with_reducible assumption) (fun w' hS K Q' hK => ?_) ?_; rotate_left; focus (have hS2 := hS.2; clear hS; go_wp2_with fail; exact hK))
  refine lexO_do rfl (fun K hK => ?_) lexO_stop
  go_wp2_with fail
  refine step_and (by repeat (first | with_reducible assumption | (with_reducible refine SameTo.refl ?_) | with_reducible refine SameTo.drew ?_ | with_reducible refine SameTo.alloc ?_ _ | (with_reducible refine SameTo.setCell ?_ ?_ _) | (refine SameTo.below ?_ (by with_reducible assumption)) | omega | exact Nat.le_refl _ | focus (simp; done) | focus (simp; omega))) (fun _ => ?_)
  repeat
    first | refine lexO_pass rfl ?_ | (refine lexO_take2 ?_ rfl (by kernel_rfl) (by with_reducible assumption) (fun w' hS K Q' hK => ?_) ?_; rotate_left; focus (have hS2 := hS.2; clear hS; go_wp2_with fail; exact hK))
  refine lexO_do rfl (fun K hK => ?_) lexO_stop
  go_wp2_with fail
  refine step_and (by repeat (first | with_reducible assumption | (with_reducible refine SameTo.refl ?_) | with_reducible refine SameTo.drew ?_ | with_reducible refine SameTo.alloc ?_ _ | (with_reducible refine SameTo.setCell ?_ ?_ _) | (refine SameTo.below ?_ (by with_reducible assumption)) | omega | exact Nat.le_refl _ | focus (simp; done) | focus (simp; omega))) (fun _ => ?_)
  repeat
    first | refine lexO_pass rfl ?_ | (refine lexO_take2 ?_ rfl (by kernel_rfl) (by with_reducible assumption) (fun w' hS K Q' hK => ?_) ?_; rotate_left; focus (have hS2 := hS.2; clear hS; go_wp2_with fail; exact hK))
  refine lexO_do rfl (fun K hK => ?_) lexO_stop
  go_wp2_with fail
  refine step_last (by decide) (lexO_done ?_)
  go_wp2
  refine bodyPost_ret (v := .tuple #[.agg #[.slice (some ⟨w1.heap.size, 0, none⟩) 4 4, .slice none 0 0, .slice none 0 0, .slice (some ⟨g, o + 7, none⟩) (n - 7) (c - 7)], .bool true, .bool false]) (by simp only [results, Try.results20]; go_simp) rfl ?_
  have q0 := below_new HB.out
  have q1 : Keeps (fun b => b ≠ w.heap.size) w w1 := Keeps.of_below q0
  refine ⟨_, rfl, ⟨_, _, _, _, rfl, IsSl.block (cs := #[.int .u64 (x0 * 256 + x1), .int .u64 (x2 * 256 + x3), .int .u64 (x4 * 256 + x5), .int .u64 x6]) (e := 39) (f := (0, 0)) (by (try simp only [heap_drew]); repeat (first | (with_reducible refine heap_last ?_; focus (simp; done)) | with_reducible refine heap_past ?_)) trivial (by omega), SD.nil _ _, SP.nil _ _, ?_⟩, (by repeat (first | with_reducible assumption | with_reducible refine Below.drew ?_ | with_reducible refine Below.alloc ?_ ?_ _ | with_reducible refine Below.setCell ?_ ?_ _ | with_reducible exact Nat.le_refl _ | omega | focus (simp; done) | focus (simp; omega)))⟩
  exact ((HP.out.imp (fun b hb _ => (by omega : b ≠ w.heap.size))).keeps (by repeat (first | with_reducible assumption | with_reducible exact Keeps.refl _ _ | with_reducible refine Keeps.drew ?_ | with_reducible refine Keeps.alloc ?_ _ | with_reducible refine Keeps.setCell ?_ ?_ _ | omega | focus (simp; done) | focus (simp; omega)))).imp (fun _ _ _ => trivial)

set_option maxRecDepth 100000 in
set_option maxHeartbeats 1000000 in
theorem spec_modbusC {g o n c : Nat} (x0 x1 x2 x3 x4 x5 x6 x7 x8 : Int) {rest : List Int} {w : World} (hn : n = rest.length + 9) (hc : n ≤ c) (hm : c ≤ 9223372036854775807) (hL : n ≤ 260) (hq : x4 * 256 + x5 = (n : Int) - 6) (hx : ¬ x2 = 0)
    (hb : ∀ z ∈ [x0, x1, x2, x3, x4, x5, x6, x7, x8], 0 ≤ z ∧ z ≤ 255) (hr : RowAt w (fun _ => True) (some ⟨g, o, none⟩) ((x0 :: x1 :: x2 :: x3 :: x4 :: x5 :: x6 :: x7 :: x8 :: rest).map (.int .u8))) :
    Calls Try.prog 20 #[.string ⟨#[109, 111, 100, 98, 117, 115]⟩, .slice (some ⟨g, o, none⟩) n c] w fun e w' =>
      ∃ v, e = .returned (.tuple #[v, .bool true, .bool false]) ∧ LayIs w' v ⟨[x0 * 256 + x1, x2 * 256 + x3, x4 * 256 + x5, x6], [], [], x7 :: x8 :: rest⟩ ∧ Below w.heap.size w w' := by
  have hnm : 9 ≤ n := by omega
  have b2 : (2 : Int) ≤ (c : Int) := by omega
  have b4 : (4 : Int) ≤ (c : Int) := by omega
  have b6 : (6 : Int) ≤ (c : Int) := by omega
  have b7 : (7 : Int) ≤ (c : Int) := by omega
  have e2 : ¬ (c = 2) := by omega
  have e4 : ¬ (c = 4) := by omega
  have hL1 : ¬ (260 : Int) < (n : Int) := by omega
  have hw : IntKind.u64.wrap ((n : Int) - 6) = (n : Int) - 6 := wraps_u64 _ (by omega) (by omega)
  have hbne : (x4 * 256 + x5 != (n : Int) - 6) = false := by simp [hq]
  have HQ := Lib.hid hq
  clear hq
  have hxb : (x2 == 0) = false := by simp [hx]
  have HX := Lib.hid hx
  clear hx
  have HN := Lib.hid hn
  clear hn
  have HR := Lib.hid hr
  have hP := SB.tail (n := n) (k := 7) (A := some ⟨g, o + 7, none⟩) hr (by simpa using HN.out) (by omega) hc hm (by rw [if_neg (by omega)])
  obtain ⟨hg, hcell⟩ := rowCells hr (by simp)
  have c0 := hcell 0 _ (by simp; rfl)
  have c1 := hcell 1 _ (by simp; rfl)
  have c2 := hcell 2 _ (by simp; rfl)
  have c3 := hcell 3 _ (by simp; rfl)
  have c4 := hcell 4 _ (by simp; rfl)
  have c5 := hcell 5 _ (by simp; rfl)
  have c6 := hcell 6 _ (by simp; rfl)
  rw [Nat.add_zero] at c0
  have h0 := hb x0 (by simp)
  have h1 := hb x1 (by simp)
  have h2 := hb x2 (by simp)
  have h3 := hb x3 (by simp)
  have h4 := hb x4 (by simp)
  have h5 := hb x5 (by simp)
  have h6 := hb x6 (by simp)
  have HP := Lib.hid hP
  clear hP
  clear hr hcell hb
  go_enter Try.func20, Try.ntmps20
  go_wp2_with (go_at_call 24; refine (least_modbus _).mono ?_; rintro e1 w1 ⟨rfl, hb1⟩)
  obtain ⟨r0, r1, r2, r3⟩ := cells4 hb1
  obtain ⟨f0, f1, f2, f3⟩ := frozen4 hb1
  have lw := size_new hb1
  have lw1 : w.heap.size < w1.heap.size + 1 := by omega
  have lw2 : w.heap.size < w1.heap.size + 1 + 1 := by omega
  have lw3 : w.heap.size < w1.heap.size + 1 + 1 + 1 := by omega
  have k0 := cell_keep hb1 c0
  have k1 := cell_keep hb1 c1
  have k2 := cell_keep hb1 c2
  have k3 := cell_keep hb1 c3
  have k4 := cell_keep hb1 c4
  have k5 := cell_keep hb1 c5
  have k6 := cell_keep hb1 c6
  have lg : g < w1.heap.size := by omega
  have HB := Lib.hid hb1
  clear hb1 c0 c1 c2 c3 c4 c5 c6
  go_wp2_with fail
  go_wp2_with (go_at_call 27; refine (number2_c x4 x5 h4 h5 (by go_simp) (by go_simp)).mono ?_; rintro e w' ⟨rfl, rfl⟩)
  refine wp_region_to w.heap.size (by first | omega | (simp; omega)) [29] (.q 0 (.q 1 (.q 2 (.q 3 (.q 5 (.q 6 (.q 8 (.q 9 (.q 11 (.q 12 (.q 13 (.q 14 (.q 17 (.q 18 (.q 19 (.q 20 (.l 4 (.l 7 (.l 10 (.l 15 (.l 16 (.q 21 (.q 22 (.q 23 (.q 24 (.q 25 (.q 26 (.l 27 (.l 28 (.l 29 .done .stop) .stop) .stop))))))) .stop) .stop) .stop) .stop) .stop))))))))))))))))) (by kernel_rfl) (by kernel_rfl) (fun _ _ d _ _ h => by cases d <;> exact h) (by simp only [Ord.fill, nthOp]; rfl) ?_; intro hSm
  repeat
    first | refine lexO_pass rfl ?_ | (refine lexO_take2 ?_ rfl (by kernel_rfl) (by with_reducible assumption) (fun w' hS K Q' hK => ?_) ?_; rotate_left; focus (have hS2 := hS.2; clear hS; go_wp2_with fail; exact hK))
  refine lexO_do rfl (fun K hK => ?_) lexO_stop
  go_wp2_with (go_at_call 27; refine (number2_c x0 x1 h0 h1 (by go_simp) (by go_simp)).mono ?_; rintro e w' ⟨rfl, rfl⟩)
  refine step_and (by repeat (first | with_reducible assumption | (with_reducible refine SameTo.refl ?_) | with_reducible refine SameTo.drew ?_ | with_reducible refine SameTo.alloc ?_ _ | (with_reducible refine SameTo.setCell ?_ ?_ _) | (refine SameTo.below ?_ (by with_reducible assumption)) | omega | exact Nat.le_refl _ | focus (simp; done) | focus (simp; omega))) (fun _ => ?_)
  repeat
    first | refine lexO_pass rfl ?_ | (refine lexO_take2 ?_ rfl (by kernel_rfl) (by with_reducible assumption) (fun w' hS K Q' hK => ?_) ?_; rotate_left; focus (have hS2 := hS.2; clear hS; go_wp2_with fail; exact hK))
  refine lexO_do rfl (fun K hK => ?_) lexO_stop
  go_wp2_with (go_at_call 27; refine (number2_c x2 x3 h2 h3 (by go_simp) (by go_simp)).mono ?_; rintro e w' ⟨rfl, rfl⟩)
  refine step_and (by repeat (first | with_reducible assumption | (with_reducible refine SameTo.refl ?_) | with_reducible refine SameTo.drew ?_ | with_reducible refine SameTo.alloc ?_ _ | (with_reducible refine SameTo.setCell ?_ ?_ _) | (refine SameTo.below ?_ (by with_reducible assumption)) | omega | exact Nat.le_refl _ | focus (simp; done) | focus (simp; omega))) (fun _ => ?_)
  repeat
    first | refine lexO_pass rfl ?_ | (refine lexO_take2 ?_ rfl (by kernel_rfl) (by with_reducible assumption) (fun w' hS K Q' hK => ?_) ?_; rotate_left; focus (have hS2 := hS.2; clear hS; go_wp2_with fail; exact hK))
  refine lexO_do rfl (fun K hK => ?_) lexO_stop
  go_wp2_with (go_at_call 27; refine (number2_c x4 x5 h4 h5 (by go_simp) (by go_simp)).mono ?_; rintro e w' ⟨rfl, rfl⟩)
  refine step_and (by repeat (first | with_reducible assumption | (with_reducible refine SameTo.refl ?_) | with_reducible refine SameTo.drew ?_ | with_reducible refine SameTo.alloc ?_ _ | (with_reducible refine SameTo.setCell ?_ ?_ _) | (refine SameTo.below ?_ (by with_reducible assumption)) | omega | exact Nat.le_refl _ | focus (simp; done) | focus (simp; omega))) (fun _ => ?_)
  repeat
    first | refine lexO_pass rfl ?_ | (refine lexO_take2 ?_ rfl (by kernel_rfl) (by with_reducible assumption) (fun w' hS K Q' hK => ?_) ?_; rotate_left; focus (have hS2 := hS.2; clear hS; go_wp2_with fail; exact hK))
  refine lexO_do rfl (fun K hK => ?_) lexO_stop
  go_wp2_with fail
  refine step_and (by repeat (first | with_reducible assumption | (with_reducible refine SameTo.refl ?_) | with_reducible refine SameTo.drew ?_ | with_reducible refine SameTo.alloc ?_ _ | (with_reducible refine SameTo.setCell ?_ ?_ _) | (refine SameTo.below ?_ (by with_reducible assumption)) | omega | exact Nat.le_refl _ | focus (simp; done) | focus (simp; omega))) (fun _ => ?_)
  repeat
    first | refine lexO_pass rfl ?_ | (refine lexO_take2 ?_ rfl (by kernel_rfl) (by with_reducible assumption) (fun w' hS K Q' hK => ?_) ?_; rotate_left; focus (have hS2 := hS.2; clear hS; go_wp2_with fail; exact hK))
  refine lexO_do rfl (fun K hK => ?_) lexO_stop
  go_wp2_with (go_at_call 26; refine whole_c.mono ?_; rintro e w' ⟨rfl, rfl⟩)
  refine step_and (by repeat (first | with_reducible assumption | (with_reducible refine SameTo.refl ?_) | with_reducible refine SameTo.drew ?_ | with_reducible refine SameTo.alloc ?_ _ | (with_reducible refine SameTo.setCell ?_ ?_ _) | (refine SameTo.below ?_ (by with_reducible assumption)) | omega | exact Nat.le_refl _ | focus (simp; done) | focus (simp; omega))) (fun _ => ?_)
  repeat
    first | refine lexO_pass rfl ?_ | (refine lexO_take2 ?_ rfl (by kernel_rfl) (by with_reducible assumption) (fun w' hS K Q' hK => ?_) ?_; rotate_left; focus (have hS2 := hS.2; clear hS; go_wp2_with fail; exact hK))
  refine lexO_do rfl (fun K hK => ?_) lexO_stop
  go_wp2_with fail
  refine step_and (by repeat (first | with_reducible assumption | (with_reducible refine SameTo.refl ?_) | with_reducible refine SameTo.drew ?_ | with_reducible refine SameTo.alloc ?_ _ | (with_reducible refine SameTo.setCell ?_ ?_ _) | (refine SameTo.below ?_ (by with_reducible assumption)) | omega | exact Nat.le_refl _ | focus (simp; done) | focus (simp; omega))) (fun _ => ?_)
  repeat
    first | refine lexO_pass rfl ?_ | (refine lexO_take2 ?_ rfl (by kernel_rfl) (by with_reducible assumption) (fun w' hS K Q' hK => ?_) ?_; rotate_left; focus (have hS2 := hS.2; clear hS; go_wp2_with fail; exact hK))
  refine lexO_do rfl (fun K hK => ?_) lexO_stop
  go_wp2_with fail
  refine step_and (by repeat (first | with_reducible assumption | (with_reducible refine SameTo.refl ?_) | with_reducible refine SameTo.drew ?_ | with_reducible refine SameTo.alloc ?_ _ | (with_reducible refine SameTo.setCell ?_ ?_ _) | (refine SameTo.below ?_ (by with_reducible assumption)) | omega | exact Nat.le_refl _ | focus (simp; done) | focus (simp; omega))) (fun _ => ?_)
  repeat
    first | refine lexO_pass rfl ?_ | (refine lexO_take2 ?_ rfl (by kernel_rfl) (by with_reducible assumption) (fun w' hS K Q' hK => ?_) ?_; rotate_left; focus (have hS2 := hS.2; clear hS; go_wp2_with fail; exact hK))
  refine lexO_do rfl (fun K hK => ?_) lexO_stop
  go_wp2_with fail
  refine step_last (by decide) (lexO_done ?_)
  go_wp2
  refine bodyPost_ret (v := .tuple #[.agg #[.slice (some ⟨w1.heap.size, 0, none⟩) 4 4, .slice none 0 0, .slice none 0 0, .slice (some ⟨g, o + 7, none⟩) (n - 7) (c - 7)], .bool true, .bool false]) (by simp only [results, Try.results20]; go_simp) rfl ?_
  have q0 := below_new HB.out
  have q1 : Keeps (fun b => b ≠ w.heap.size) w w1 := Keeps.of_below q0
  refine ⟨_, rfl, ⟨_, _, _, _, rfl, IsSl.block (cs := #[.int .u64 (x0 * 256 + x1), .int .u64 (x2 * 256 + x3), .int .u64 (x4 * 256 + x5), .int .u64 x6]) (e := 39) (f := (0, 0)) (by (try simp only [heap_drew]); repeat (first | (with_reducible refine heap_last ?_; focus (simp; done)) | with_reducible refine heap_past ?_)) trivial (by omega), SD.nil _ _, SP.nil _ _, ?_⟩, (by repeat (first | with_reducible assumption | with_reducible refine Below.drew ?_ | with_reducible refine Below.alloc ?_ ?_ _ | with_reducible refine Below.setCell ?_ ?_ _ | with_reducible exact Nat.le_refl _ | omega | focus (simp; done) | focus (simp; omega)))⟩
  exact ((HP.out.imp (fun b hb _ => (by omega : b ≠ w.heap.size))).keeps (by repeat (first | with_reducible assumption | with_reducible exact Keeps.refl _ _ | with_reducible refine Keeps.drew ?_ | with_reducible refine Keeps.alloc ?_ _ | with_reducible refine Keeps.setCell ?_ ?_ _ | omega | focus (simp; done) | focus (simp; omega)))).imp (fun _ _ _ => trivial)

set_option maxRecDepth 100000 in
set_option maxHeartbeats 1000000 in
theorem spec_modbusopen1 {g o n c : Nat} (x0 x1 x2 x3 x4 x5 x6 x7 x8 : Int) {rest : List Int} {w : World} (hn : n = rest.length + 9) (hc : n ≤ c) (hm : c ≤ 9223372036854775807) (hL : 260 < n)
    (hb : ∀ z ∈ [x0, x1, x2, x3, x4, x5, x6, x7, x8], 0 ≤ z ∧ z ≤ 255) (hr : RowAt w (fun _ => True) (some ⟨g, o, none⟩) ((x0 :: x1 :: x2 :: x3 :: x4 :: x5 :: x6 :: x7 :: x8 :: rest).map (.int .u8))) :
    Calls Try.prog 20 #[.string ⟨#[109, 111, 100, 98, 117, 115]⟩, .slice (some ⟨g, o, none⟩) n c] w fun e w' =>
      e = .returned (.tuple #[zlay, .bool false, .bool false]) ∧ Below w.heap.size w w' := by
  have hnm : 9 ≤ n := by omega
  have hL1 : (260 : Int) < (n : Int) := by omega
  have b2 : (2 : Int) ≤ (c : Int) := by omega
  have b4 : (4 : Int) ≤ (c : Int) := by omega
  have b6 : (6 : Int) ≤ (c : Int) := by omega
  have hw : IntKind.u64.wrap ((n : Int) - 6) = (n : Int) - 6 := wraps_u64 _ (by omega) (by omega)
  have HN := Lib.hid hn
  clear hn
  have HR := Lib.hid hr
  have hP := SB.tail (n := n) (k := 7) (A := some ⟨g, o + 7, none⟩) hr (by simpa using HN.out) (by omega) hc hm (by rw [if_neg (by omega)])
  obtain ⟨hg, hcell⟩ := rowCells hr (by simp)
  have c0 := hcell 0 _ (by simp; rfl)
  have c1 := hcell 1 _ (by simp; rfl)
  have c2 := hcell 2 _ (by simp; rfl)
  have c3 := hcell 3 _ (by simp; rfl)
  have c4 := hcell 4 _ (by simp; rfl)
  have c5 := hcell 5 _ (by simp; rfl)
  have c6 := hcell 6 _ (by simp; rfl)
  rw [Nat.add_zero] at c0
  have h0 := hb x0 (by simp)
  have h1 := hb x1 (by simp)
  have h2 := hb x2 (by simp)
  have h3 := hb x3 (by simp)
  have h4 := hb x4 (by simp)
  have h5 := hb x5 (by simp)
  have h6 := hb x6 (by simp)
  have HP := Lib.hid hP
  clear hP
  clear hr hcell hb
  go_enter Try.func20, Try.ntmps20
  go_wp2_with (go_at_call 24; refine (least_modbus _).mono ?_; rintro e1 w1 ⟨rfl, hb1⟩)
  obtain ⟨r0, r1, r2, r3⟩ := cells4 hb1
  obtain ⟨f0, f1, f2, f3⟩ := frozen4 hb1
  have lw := size_new hb1
  have lw1 : w.heap.size < w1.heap.size + 1 := by omega
  have lw2 : w.heap.size < w1.heap.size + 1 + 1 := by omega
  have lw3 : w.heap.size < w1.heap.size + 1 + 1 + 1 := by omega
  have k0 := cell_keep hb1 c0
  have k1 := cell_keep hb1 c1
  have k2 := cell_keep hb1 c2
  have k3 := cell_keep hb1 c3
  have k4 := cell_keep hb1 c4
  have k5 := cell_keep hb1 c5
  have k6 := cell_keep hb1 c6
  have lg : g < w1.heap.size := by omega
  have HB := Lib.hid hb1
  clear hb1 c0 c1 c2 c3 c4 c5 c6 hg
  go_wp2_with (first | (go_at_call 33; refine open_c.mono ?_; rintro e w' ⟨rfl, rfl⟩))
  refine bodyPost_ret (v := .tuple #[zlay, .bool false, .bool false]) (by simp only [results, Try.results20]; go_simp) rfl ?_
  have h0 := below_new HB.out
  exact ⟨rfl, (by repeat (first | with_reducible assumption | with_reducible refine Below.drew ?_ | with_reducible refine Below.alloc ?_ ?_ _ | with_reducible refine Below.setCell ?_ ?_ _ | with_reducible exact Nat.le_refl _ | omega | focus (simp; done) | focus (simp; omega)))⟩

set_option maxRecDepth 100000 in
set_option maxHeartbeats 1000000 in
theorem spec_modbusopen2 {g o n c : Nat} (x0 x1 x2 x3 x4 x5 x6 x7 x8 : Int) {rest : List Int} {w : World} (hn : n = rest.length + 9) (hc : n ≤ c) (hm : c ≤ 9223372036854775807) (hL : ¬ 260 < n) (hq : ¬ x4 * 256 + x5 = (n : Int) - 6)
    (hb : ∀ z ∈ [x0, x1, x2, x3, x4, x5, x6, x7, x8], 0 ≤ z ∧ z ≤ 255) (hr : RowAt w (fun _ => True) (some ⟨g, o, none⟩) ((x0 :: x1 :: x2 :: x3 :: x4 :: x5 :: x6 :: x7 :: x8 :: rest).map (.int .u8))) :
    Calls Try.prog 20 #[.string ⟨#[109, 111, 100, 98, 117, 115]⟩, .slice (some ⟨g, o, none⟩) n c] w fun e w' =>
      e = .returned (.tuple #[zlay, .bool false, .bool false]) ∧ Below w.heap.size w w' := by
  have hnm : 9 ≤ n := by omega
  have hL1 : ¬ (260 : Int) < (n : Int) := by omega
  have b2 : (2 : Int) ≤ (c : Int) := by omega
  have b4 : (4 : Int) ≤ (c : Int) := by omega
  have b6 : (6 : Int) ≤ (c : Int) := by omega
  have hw : IntKind.u64.wrap ((n : Int) - 6) = (n : Int) - 6 := wraps_u64 _ (by omega) (by omega)
  have hbne : (x4 * 256 + x5 != (n : Int) - 6) = true := by simp [hq]
  have HQ := Lib.hid hq
  clear hq
  have HN := Lib.hid hn
  clear hn
  have HR := Lib.hid hr
  have hP := SB.tail (n := n) (k := 7) (A := some ⟨g, o + 7, none⟩) hr (by simpa using HN.out) (by omega) hc hm (by rw [if_neg (by omega)])
  obtain ⟨hg, hcell⟩ := rowCells hr (by simp)
  have c0 := hcell 0 _ (by simp; rfl)
  have c1 := hcell 1 _ (by simp; rfl)
  have c2 := hcell 2 _ (by simp; rfl)
  have c3 := hcell 3 _ (by simp; rfl)
  have c4 := hcell 4 _ (by simp; rfl)
  have c5 := hcell 5 _ (by simp; rfl)
  have c6 := hcell 6 _ (by simp; rfl)
  rw [Nat.add_zero] at c0
  have h0 := hb x0 (by simp)
  have h1 := hb x1 (by simp)
  have h2 := hb x2 (by simp)
  have h3 := hb x3 (by simp)
  have h4 := hb x4 (by simp)
  have h5 := hb x5 (by simp)
  have h6 := hb x6 (by simp)
  have HP := Lib.hid hP
  clear hP
  clear hr hcell hb
  go_enter Try.func20, Try.ntmps20
  go_wp2_with (go_at_call 24; refine (least_modbus _).mono ?_; rintro e1 w1 ⟨rfl, hb1⟩)
  obtain ⟨r0, r1, r2, r3⟩ := cells4 hb1
  obtain ⟨f0, f1, f2, f3⟩ := frozen4 hb1
  have lw := size_new hb1
  have lw1 : w.heap.size < w1.heap.size + 1 := by omega
  have lw2 : w.heap.size < w1.heap.size + 1 + 1 := by omega
  have lw3 : w.heap.size < w1.heap.size + 1 + 1 + 1 := by omega
  have k0 := cell_keep hb1 c0
  have k1 := cell_keep hb1 c1
  have k2 := cell_keep hb1 c2
  have k3 := cell_keep hb1 c3
  have k4 := cell_keep hb1 c4
  have k5 := cell_keep hb1 c5
  have k6 := cell_keep hb1 c6
  have lg : g < w1.heap.size := by omega
  have HB := Lib.hid hb1
  clear hb1 c0 c1 c2 c3 c4 c5 c6 hg
  go_wp2_with (first | (go_at_call 27; refine (number2_c x4 x5 h4 h5 (by go_simp) (by go_simp)).mono ?_; rintro e w' ⟨rfl, rfl⟩) | (go_at_call 33; refine open_c.mono ?_; rintro e w' ⟨rfl, rfl⟩))
  refine bodyPost_ret (v := .tuple #[zlay, .bool false, .bool false]) (by simp only [results, Try.results20]; go_simp) rfl ?_
  have h0 := below_new HB.out
  exact ⟨rfl, (by repeat (first | with_reducible assumption | with_reducible refine Below.drew ?_ | with_reducible refine Below.alloc ?_ ?_ _ | with_reducible refine Below.setCell ?_ ?_ _ | with_reducible exact Nat.le_refl _ | omega | focus (simp; done) | focus (simp; omega)))⟩

set_option maxHeartbeats 2000000 in
theorem specOf_modbus {bs : List Int} (hb : ∀ z ∈ bs, 0 ≤ z ∧ z ≤ 255) : SpecOf (.string ⟨#[109, 111, 100, 98, 117, 115]⟩) bs (sModbus bs) := by
  intro v w h
  obtain ⟨p, c, rfl, hnc, hc, hp, hr⟩ := h
  match bs, hb, hnc, hr with
  | x0 :: x1 :: x2 :: x3 :: x4 :: x5 :: x6 :: x7 :: x8 :: rest, hb, hnc, hr =>
    rcases hr with h | ⟨b, o, rfl, h1, h2, h3⟩
    · simp at h
    · have hr' : RowAt w (fun _ => True) (some ⟨b, o, none⟩) ((x0 :: x1 :: x2 :: x3 :: x4 :: x5 :: x6 :: x7 :: x8 :: rest).map (.int .u8)) := .inr ⟨b, o, rfl, h1, h2, h3⟩
      have hb' : ∀ z ∈ [x0, x1, x2, x3, x4, x5, x6, x7, x8], 0 ≤ z ∧ z ≤ 255 := fun z hz => hb z (List.mem_append_left rest hz)
      by_cases hL : (x0 :: x1 :: x2 :: x3 :: x4 :: x5 :: x6 :: x7 :: x8 :: rest).length ≤ 260
      · by_cases hq : x4 * 256 + x5 = ((x0 :: x1 :: x2 :: x3 :: x4 :: x5 :: x6 :: x7 :: x8 :: rest).length : Int) - 6
        · have hT : mbOk (x0 :: x1 :: x2 :: x3 :: x4 :: x5 :: x6 :: x7 :: x8 :: rest) = true := decide_eq_true ⟨hL, hq⟩
          by_cases hx : x2 = 0
          · by_cases hy : x3 = 0
            · refine (spec_modbusA x0 x1 x2 x3 x4 x5 x6 x7 x8 (rest := rest) (by simp) hnc hc hL hq hx hy hb' hr').mono ?_
              rintro e w' ⟨v, he, hi, hb⟩
              exact ⟨hb, v, _, hi, .inr (.inr ⟨sModbus_some ⟨hT, hx, hy⟩, he⟩)⟩
            · refine (spec_modbusB x0 x1 x2 x3 x4 x5 x6 x7 x8 (rest := rest) (by simp) hnc hc hL hq hx hy hb' hr').mono ?_
              rintro e w' ⟨v, he, hi, hb⟩
              exact ⟨hb, v, _, hi, .inl ⟨sModbus_none (fun h => hy h.2.2), _, he⟩⟩
          · refine (spec_modbusC x0 x1 x2 x3 x4 x5 x6 x7 x8 (rest := rest) (by simp) hnc hc hL hq hx hb' hr').mono ?_
            rintro e w' ⟨v, he, hi, hb⟩
            exact ⟨hb, v, _, hi, .inl ⟨sModbus_none (fun h => hx h.2.1), _, he⟩⟩
        · refine (spec_modbusopen2 x0 x1 x2 x3 x4 x5 x6 x7 x8 (rest := rest) (by simp) hnc hc (by omega) hq hb' hr').mono ?_
          rintro e w' ⟨he, hb⟩
          exact ⟨hb, _, _, layIs_zlay _, .inl ⟨sModbus_none (fun h => hq (of_decide_eq_true h.1).2), _, he⟩⟩
      · refine (spec_modbusopen1 x0 x1 x2 x3 x4 x5 x6 x7 x8 (rest := rest) (by simp) hnc hc (by omega) hb' hr').mono ?_
        rintro e w' ⟨he, hb⟩
        exact ⟨hb, _, _, layIs_zlay _, .inl ⟨sModbus_none (fun h => hL (of_decide_eq_true h.1).1), _, he⟩⟩
  | [], _, _, _ => exact (spec_modbus_short (by simp)).mono fun e w' h => ⟨h.2, _, _, layIs_zlay _, .inr (.inl ⟨rfl, h.1⟩)⟩
  | [_], _, _, _ => exact (spec_modbus_short (by simp)).mono fun e w' h => ⟨h.2, _, _, layIs_zlay _, .inr (.inl ⟨rfl, h.1⟩)⟩
  | [_, _], _, _, _ => exact (spec_modbus_short (by simp)).mono fun e w' h => ⟨h.2, _, _, layIs_zlay _, .inr (.inl ⟨rfl, h.1⟩)⟩
  | [_, _, _], _, _, _ => exact (spec_modbus_short (by simp)).mono fun e w' h => ⟨h.2, _, _, layIs_zlay _, .inr (.inl ⟨rfl, h.1⟩)⟩
  | [_, _, _, _], _, _, _ => exact (spec_modbus_short (by simp)).mono fun e w' h => ⟨h.2, _, _, layIs_zlay _, .inr (.inl ⟨rfl, h.1⟩)⟩
  | [_, _, _, _, _], _, _, _ => exact (spec_modbus_short (by simp)).mono fun e w' h => ⟨h.2, _, _, layIs_zlay _, .inr (.inl ⟨rfl, h.1⟩)⟩
  | [_, _, _, _, _, _], _, _, _ => exact (spec_modbus_short (by simp)).mono fun e w' h => ⟨h.2, _, _, layIs_zlay _, .inr (.inl ⟨rfl, h.1⟩)⟩
  | [_, _, _, _, _, _, _], _, _, _ => exact (spec_modbus_short (by simp)).mono fun e w' h => ⟨h.2, _, _, layIs_zlay _, .inr (.inl ⟨rfl, h.1⟩)⟩
  | [_, _, _, _, _, _, _, _], _, _, _ => exact (spec_modbus_short (by simp)).mono fun e w' h => ⟨h.2, _, _, layIs_zlay _, .inr (.inl ⟨rfl, h.1⟩)⟩

end Go.Proofs.Ytaofambmajlhmaa
