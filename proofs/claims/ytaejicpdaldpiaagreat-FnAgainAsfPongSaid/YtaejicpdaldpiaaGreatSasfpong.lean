/-
  spec.Read of asfpong.
-/
import Derived.Test.YtaejicpdaldpiaaGreatLaw
import Derived.Test.YtaejicpdaldpiaaGreatDasfpong
namespace Go.Proofs.YtaejicpdaldpiaaGreat
open Go Go.RowKit

set_option maxRecDepth 100000 in
set_option maxHeartbeats 1000000 in
theorem spec_asfpong_short {p : Option Addr} {n c : Nat} {w : World} (hn : n < 16) :
    Calls Tryz.prog 17 #[.string ⟨#[97, 115, 102, 112, 111, 110, 103]⟩, .slice p n c] w fun e w' =>
      e = .returned (.tuple #[zlay, .bool false, .bool true]) ∧ Below w.heap.size w w' := by
  go_enter Tryz.func17, Tryz.ntmps17
  go_wp2_with (go_at_call 22; refine (least_asfpong _).mono ?_; rintro e1 w1 ⟨rfl, hb1⟩)
  obtain ⟨r0, r1, r2, r3⟩ := cells4 hb1
  obtain ⟨f0, f1, f2, f3⟩ := frozen4 hb1
  have lw := size_new hb1
  have HB := Lib.hid hb1
  clear hb1
  go_wp2_with (go_at_call 23; refine none_c.mono ?_; rintro e w' ⟨rfl, rfl⟩)
  refine bodyPost_ret (v := .tuple #[zlay, .bool false, .bool true]) (by simp only [results, Tryz.results17]; go_simp) rfl ?_
  have h0 := below_new HB.out
  exact ⟨rfl, (by repeat (first | with_reducible assumption | with_reducible refine Below.drew ?_ | with_reducible refine below_drewN' ?_ _ | with_reducible refine Below.alloc ?_ ?_ _ | with_reducible refine Below.setCell ?_ ?_ _ | with_reducible exact Nat.le_refl _ | omega | focus (simp; done) | focus (simp; omega)))⟩

set_option maxRecDepth 100000 in
set_option maxHeartbeats 1000000 in
theorem spec_asfpong {g o n c : Nat} (x0 x1 x2 x3 x4 x5 x6 x7 x8 x9 x10 x11 x12 x13 x14 x15 : Int) {rest : List Int} {w : World} (hn : n = rest.length + 16) (hc : n ≤ c) (hm : c ≤ 9223372036854775807)
    (hb : ∀ z ∈ [x0, x1, x2, x3, x4, x5, x6, x7, x8, x9, x10, x11, x12, x13, x14, x15], 0 ≤ z ∧ z ≤ 255) (hr : RowAt w (fun _ => True) (some ⟨g, o, none⟩) ((x0 :: x1 :: x2 :: x3 :: x4 :: x5 :: x6 :: x7 :: x8 :: x9 :: x10 :: x11 :: x12 :: x13 :: x14 :: x15 :: rest).map (.int .u8))) :
    Calls Tryz.prog 17 #[.string ⟨#[97, 115, 102, 112, 111, 110, 103]⟩, .slice (some ⟨g, o, none⟩) n c] w fun e w' =>
      ∃ v, e = .returned (.tuple #[v, .bool true, .bool true]) ∧ LayIs w' v ⟨[((x0 * 256 + x1) * 256 + x2) * 256 + x3, b01 (hasBit x8 128), b01 (hasBit x8 1), b01 (hasBit x9 128), b01 (hasBit x9 32)], [[x4, x5, x6, x7]], [], rest⟩ ∧ Below w.heap.size w w' := by
  have hnm : 16 ≤ n := by omega
  have b4 : (4 : Int) ≤ (c : Int) := by omega
  have b8 : (8 : Int) ≤ (c : Int) := by omega
  have e4 : ¬ (c = 4) := by omega
  have HN := Lib.hid hn
  clear hn
  have HR := Lib.hid hr
  obtain ⟨A16, hA16⟩ : ∃ A, (if c = 16 then some (⟨g, o, none⟩ : Addr) else some ⟨g, o + 16, none⟩) = A := ⟨_, rfl⟩
  have hP := SB.tail (n := n) hr (by simpa using HN.out) hnm hc hm hA16
  have HD := Lib.hid (show SB w (fun _ => True) (.slice (some ⟨g, o + 4, none⟩) 4 (c - 4)) [x4, x5, x6, x7] from SB.from (lo := 4) (hi := 8) hr (by omega) (by simp) (by have := HN.out; simp; omega) hm (by rw [if_neg (by omega)]))
  obtain ⟨hg, hcell⟩ := rowCells hr (by simp)
  have c0 := hcell 0 _ (by simp; rfl)
  have c1 := hcell 1 _ (by simp; rfl)
  have c2 := hcell 2 _ (by simp; rfl)
  have c3 := hcell 3 _ (by simp; rfl)
  have c4 := hcell 4 _ (by simp; rfl)
  have c5 := hcell 5 _ (by simp; rfl)
  have c6 := hcell 6 _ (by simp; rfl)
  have c7 := hcell 7 _ (by simp; rfl)
  have c8 := hcell 8 _ (by simp; rfl)
  have c9 := hcell 9 _ (by simp; rfl)
  rw [Nat.add_zero] at c0
  have h0 := hb x0 (by simp)
  have h1 := hb x1 (by simp)
  have h2 := hb x2 (by simp)
  have h3 := hb x3 (by simp)
  have h4 := hb x4 (by simp)
  have h5 := hb x5 (by simp)
  have h6 := hb x6 (by simp)
  have h7 := hb x7 (by simp)
  have h8 := hb x8 (by simp)
  have h9 := hb x9 (by simp)
  have HP := Lib.hid hP
  clear hP
  clear hr hcell hb
  rw [hasBit_128 h8, hasBit_1 h8, hasBit_128 h9, hasBit_32 h9]
  go_enter Tryz.func17, Tryz.ntmps17
  go_wp2_with (go_at_call 22; refine (least_asfpong _).mono ?_; rintro e1 w1 ⟨rfl, hb1⟩)
  obtain ⟨r0, r1, r2, r3⟩ := cells4 hb1
  obtain ⟨f0, f1, f2, f3⟩ := frozen4 hb1
  have lw := size_new hb1
  have lw1 : w.heap.size < w1.heap.size + 1 := by omega
  have lw2 : w.heap.size < w1.heap.size + 1 + 1 := by omega
  have lw3 : w.heap.size < w1.heap.size + 1 + 1 + 1 := by omega
  have k0 := cell_keep hb1 c0
  have k1 := cell_keep hb1 c1
  have k2 := cell_keep hb1 c2
  have k3 := cell_keep hb1 c3
  have k4 := cell_keep hb1 c4
  have k5 := cell_keep hb1 c5
  have k6 := cell_keep hb1 c6
  have k7 := cell_keep hb1 c7
  have k8 := cell_keep hb1 c8
  have k9 := cell_keep hb1 c9
  have lg : g < w1.heap.size := by omega
  have HB := Lib.hid hb1
  clear hb1 c0 c1 c2 c3 c4 c5 c6 c7 c8 c9 hg
  go_wp2_with fail
  refine wp_region_same [27,29] (.q 0 (.q 1 (.q 2 (.q 3 (.q 5 (.q 6 (.q 7 (.q 8 (.q 9 (.q 10 (.q 11 (.q 12 (.q 13 (.q 14 (.q 15 (.q 16 (.q 17 (.q 18 (.q 19 (.q 20 (.q 21 (.q 22 (.q 23 (.q 24 (.q 25 (.l 4 (.l 26 (.l 27 (.l 28 (.l 29 .done .stop) .stop) (.l 28 (.l 27 (.l 29 .done .stop) .stop) .stop)) (.l 28 (.l 26 (.l 27 (.l 29 .done .stop) .stop) .stop) .stop)) (.l 28 (.l 4 (.l 26 (.l 27 (.l 29 .done .stop) .stop) .stop) .stop) .stop))))))))))))))))))))))))))) (by kernel_rfl) (by kernel_rfl) (fun _ _ d _ _ h => by cases d <;> exact h) (by simp only [Ord.fill, nthOp]; rfl) ?_; intro hSm
  repeat
    first | refine lexO_pass rfl ?_ | (refine lexO_take2 ?_ rfl (by kernel_rfl) (by with_reducible assumption) (fun w' hS K Q' hK => ?_) ?_; rotate_left; focus (have hS2 := hS.2; clear hS; go_wp2_with fail; exact hK))
  refine lexO_do rfl (fun K hK => ?_) (lexO_do rfl (fun K hK => ?_) lexO_stop)
  · go_wp2_with (go_at_call 25; refine (number4_c x0 x1 x2 x3 h0 h1 h2 h3 (by go_simp) (by go_simp) (by go_simp) (by go_simp)).mono ?_; rintro e w' ⟨rfl, rfl⟩)
    refine step_and (by repeat (first | with_reducible assumption | with_reducible exact SameAt.refl _ | with_reducible refine SameAt.drew ?_ | with_reducible refine SameAt.drewN ?_ _ | with_reducible refine SameAt.alloc ?_ _ | (refine SameAt.below ?_ (by with_reducible assumption)))) (fun _ => ?_)
    repeat
      first | refine lexO_pass rfl ?_ | (refine lexO_take2 ?_ rfl (by kernel_rfl) (by with_reducible assumption) (fun w' hS K Q' hK => ?_) ?_; rotate_left; focus (have hS2 := hS.2; clear hS; go_wp2_with fail; exact hK))
    refine lexO_do rfl (fun K hK => ?_) (lexO_do rfl (fun K hK => ?_) lexO_stop)
    · go_wp2_with fail
      refine step_and (by repeat (first | with_reducible assumption | with_reducible exact SameAt.refl _ | with_reducible refine SameAt.drew ?_ | with_reducible refine SameAt.drewN ?_ _ | with_reducible refine SameAt.alloc ?_ _ | (refine SameAt.below ?_ (by with_reducible assumption)))) (fun _ => ?_)
      repeat
        first | refine lexO_pass rfl ?_ | (refine lexO_take2 ?_ rfl (by kernel_rfl) (by with_reducible assumption) (fun w' hS K Q' hK => ?_) ?_; rotate_left; focus (have hS2 := hS.2; clear hS; go_wp2_with fail; exact hK))
      refine lexO_do rfl (fun K hK => ?_) (lexO_do rfl (fun K hK => ?_) lexO_stop)
      · go_wp2_with (go_at_call 24; refine whole_c.mono ?_; rintro e w' ⟨rfl, rfl⟩)
        refine step_and (by repeat (first | with_reducible assumption | with_reducible exact SameAt.refl _ | with_reducible refine SameAt.drew ?_ | with_reducible refine SameAt.drewN ?_ _ | with_reducible refine SameAt.alloc ?_ _ | (refine SameAt.below ?_ (by with_reducible assumption)))) (fun _ => ?_)
        repeat
          first | refine lexO_pass rfl ?_ | (refine lexO_take2 ?_ rfl (by kernel_rfl) (by with_reducible assumption) (fun w' hS K Q' hK => ?_) ?_; rotate_left; focus (have hS2 := hS.2; clear hS; go_wp2_with fail; exact hK))
        refine lexO_do rfl (fun K hK => ?_) lexO_stop
        go_wp2_with fail
        refine step_and (by repeat (first | with_reducible assumption | with_reducible exact SameAt.refl _ | with_reducible refine SameAt.drew ?_ | with_reducible refine SameAt.drewN ?_ _ | with_reducible refine SameAt.alloc ?_ _ | (refine SameAt.below ?_ (by with_reducible assumption)))) (fun _ => ?_)
        repeat
          first | refine lexO_pass rfl ?_ | (refine lexO_take2 ?_ rfl (by kernel_rfl) (by with_reducible assumption) (fun w' hS K Q' hK => ?_) ?_; rotate_left; focus (have hS2 := hS.2; clear hS; go_wp2_with fail; exact hK))
        refine lexO_do rfl (fun K hK => ?_) lexO_stop
        go_wp2_with fail
        refine step_last (by decide) (lexO_done ?_)
        go_wp2
        rw [wrap_bit1 h8, wrap_bit1 (x := x9 / 32) (by omega)]
        refine bodyPost_ret (v := .tuple #[.agg #[.slice (some ⟨w1.heap.size, 0, none⟩) 5 5, .slice (some ⟨w1.heap.size + 3, 0, none⟩) 1 1, .slice none 0 0, .slice A16 (n - 16) (c - 16)], .bool true, .bool true]) (by simp only [results, Tryz.results17]; go_simp) rfl ?_
        have q0 := below_new HB.out
        have q1 : Keeps (fun b => b < w.heap.size) w w1 := Keeps.of_below q0
        refine ⟨_, rfl, ⟨_, _, _, _, rfl, IsSl.block (cs := #[.int .u64 (((x0 * 256 + x1) * 256 + x2) * 256 + x3), .int .u64 (x8 / 128), .int .u64 (x8 % 2), .int .u64 (x9 / 128), .int .u64 (x9 / 32 % 2)]) (e := 39) (f := (0, 0)) (by (try simp only [heap_drew]); repeat (first | (with_reducible refine heap_last ?_; focus (simp; done)) | with_reducible refine heap_past ?_ | (with_reducible refine heap_set ?_ ?_; focus (first | omega | (simp; done) | (simp; omega))) | with_reducible assumption)) trivial (by omega), SD.one (v := .slice (some ⟨g, o + 4, none⟩) 4 (c - 4)) (e := 22) (f := (0, 0)) (by (try simp only [heap_drew]); repeat (first | (with_reducible refine heap_last ?_; focus (simp; done)) | with_reducible refine heap_past ?_ | (with_reducible refine heap_set ?_ ?_; focus (first | omega | (simp; done) | (simp; omega))) | with_reducible assumption)) trivial (((HD.out.imp (fun b hb _ => hb : ∀ b, b < w.heap.size → True → b < w.heap.size)).keeps (by repeat (first | with_reducible assumption | with_reducible exact Keeps.refl _ _ | with_reducible refine Keeps.drew ?_ | with_reducible refine Keeps.drewN ?_ _ | with_reducible refine Keeps.alloc ?_ _ | with_reducible refine Keeps.setCell ?_ ?_ _ | omega | focus (simp; done) | focus (simp; omega)))).imp (fun _ _ _ => trivial)), SP.nil _ _, (((HP.out.imp (fun b hb _ => hb : ∀ b, b < w.heap.size → True → b < w.heap.size)).keeps (by repeat (first | with_reducible assumption | with_reducible exact Keeps.refl _ _ | with_reducible refine Keeps.drew ?_ | with_reducible refine Keeps.drewN ?_ _ | with_reducible refine Keeps.alloc ?_ _ | with_reducible refine Keeps.setCell ?_ ?_ _ | omega | focus (simp; done) | focus (simp; omega)))).imp (fun _ _ _ => trivial))⟩, (by repeat (first | with_reducible assumption | with_reducible refine Below.drew ?_ | with_reducible refine below_drewN' ?_ _ | with_reducible refine Below.alloc ?_ ?_ _ | with_reducible refine Below.setCell ?_ ?_ _ | with_reducible exact Nat.le_refl _ | omega | focus (simp; done) | focus (simp; omega)))⟩
      · go_wp2_with fail
        refine step_and (by repeat (first | with_reducible assumption | with_reducible exact SameAt.refl _ | with_reducible refine SameAt.drew ?_ | with_reducible refine SameAt.drewN ?_ _ | with_reducible refine SameAt.alloc ?_ _ | (refine SameAt.below ?_ (by with_reducible assumption)))) (fun _ => ?_)
        repeat
          first | refine lexO_pass rfl ?_ | (refine lexO_take2 ?_ rfl (by kernel_rfl) (by with_reducible assumption) (fun w' hS K Q' hK => ?_) ?_; rotate_left; focus (have hS2 := hS.2; clear hS; go_wp2_with fail; exact hK))
        refine lexO_do rfl (fun K hK => ?_) lexO_stop
        go_wp2_with (go_at_call 24; refine whole_c.mono ?_; rintro e w' ⟨rfl, rfl⟩)
        refine step_and (by repeat (first | with_reducible assumption | with_reducible exact SameAt.refl _ | with_reducible refine SameAt.drew ?_ | with_reducible refine SameAt.drewN ?_ _ | with_reducible refine SameAt.alloc ?_ _ | (refine SameAt.below ?_ (by with_reducible assumption)))) (fun _ => ?_)
        repeat
          first | refine lexO_pass rfl ?_ | (refine lexO_take2 ?_ rfl (by kernel_rfl) (by with_reducible assumption) (fun w' hS K Q' hK => ?_) ?_; rotate_left; focus (have hS2 := hS.2; clear hS; go_wp2_with fail; exact hK))
        refine lexO_do rfl (fun K hK => ?_) lexO_stop
        go_wp2_with fail
        refine step_last (by decide) (lexO_done ?_)
        go_wp2
        rw [wrap_bit1 h8, wrap_bit1 (x := x9 / 32) (by omega)]
        refine bodyPost_ret (v := .tuple #[.agg #[.slice (some ⟨w1.heap.size, 0, none⟩) 5 5, .slice (some ⟨w1.heap.size + 3, 0, none⟩) 1 1, .slice none 0 0, .slice A16 (n - 16) (c - 16)], .bool true, .bool true]) (by simp only [results, Tryz.results17]; go_simp) rfl ?_
        have q0 := below_new HB.out
        have q1 : Keeps (fun b => b < w.heap.size) w w1 := Keeps.of_below q0
        refine ⟨_, rfl, ⟨_, _, _, _, rfl, IsSl.block (cs := #[.int .u64 (((x0 * 256 + x1) * 256 + x2) * 256 + x3), .int .u64 (x8 / 128), .int .u64 (x8 % 2), .int .u64 (x9 / 128), .int .u64 (x9 / 32 % 2)]) (e := 39) (f := (0, 0)) (by (try simp only [heap_drew]); repeat (first | (with_reducible refine heap_last ?_; focus (simp; done)) | with_reducible refine heap_past ?_ | (with_reducible refine heap_set ?_ ?_; focus (first | omega | (simp; done) | (simp; omega))) | with_reducible assumption)) trivial (by omega), SD.one (v := .slice (some ⟨g, o + 4, none⟩) 4 (c - 4)) (e := 22) (f := (0, 0)) (by (try simp only [heap_drew]); repeat (first | (with_reducible refine heap_last ?_; focus (simp; done)) | with_reducible refine heap_past ?_ | (with_reducible refine heap_set ?_ ?_; focus (first | omega | (simp; done) | (simp; omega))) | with_reducible assumption)) trivial (((HD.out.imp (fun b hb _ => hb : ∀ b, b < w.heap.size → True → b < w.heap.size)).keeps (by repeat (first | with_reducible assumption | with_reducible exact Keeps.refl _ _ | with_reducible refine Keeps.drew ?_ | with_reducible refine Keeps.drewN ?_ _ | with_reducible refine Keeps.alloc ?_ _ | with_reducible refine Keeps.setCell ?_ ?_ _ | omega | focus (simp; done) | focus (simp; omega)))).imp (fun _ _ _ => trivial)), SP.nil _ _, (((HP.out.imp (fun b hb _ => hb : ∀ b, b < w.heap.size → True → b < w.heap.size)).keeps (by repeat (first | with_reducible assumption | with_reducible exact Keeps.refl _ _ | with_reducible refine Keeps.drew ?_ | with_reducible refine Keeps.drewN ?_ _ | with_reducible refine Keeps.alloc ?_ _ | with_reducible refine Keeps.setCell ?_ ?_ _ | omega | focus (simp; done) | focus (simp; omega)))).imp (fun _ _ _ => trivial))⟩, (by repeat (first | with_reducible assumption | with_reducible refine Below.drew ?_ | with_reducible refine below_drewN' ?_ _ | with_reducible refine Below.alloc ?_ ?_ _ | with_reducible refine Below.setCell ?_ ?_ _ | with_reducible exact Nat.le_refl _ | omega | focus (simp; done) | focus (simp; omega)))⟩
    · go_wp2_with fail
      refine step_and (by repeat (first | with_reducible assumption | with_reducible exact SameAt.refl _ | with_reducible refine SameAt.drew ?_ | with_reducible refine SameAt.drewN ?_ _ | with_reducible refine SameAt.alloc ?_ _ | (refine SameAt.below ?_ (by with_reducible assumption)))) (fun _ => ?_)
      repeat
        first | refine lexO_pass rfl ?_ | (refine lexO_take2 ?_ rfl (by kernel_rfl) (by with_reducible assumption) (fun w' hS K Q' hK => ?_) ?_; rotate_left; focus (have hS2 := hS.2; clear hS; go_wp2_with fail; exact hK))
      refine lexO_do rfl (fun K hK => ?_) lexO_stop
      go_wp2_with fail
      refine step_and (by repeat (first | with_reducible assumption | with_reducible exact SameAt.refl _ | with_reducible refine SameAt.drew ?_ | with_reducible refine SameAt.drewN ?_ _ | with_reducible refine SameAt.alloc ?_ _ | (refine SameAt.below ?_ (by with_reducible assumption)))) (fun _ => ?_)
      repeat
        first | refine lexO_pass rfl ?_ | (refine lexO_take2 ?_ rfl (by kernel_rfl) (by with_reducible assumption) (fun w' hS K Q' hK => ?_) ?_; rotate_left; focus (have hS2 := hS.2; clear hS; go_wp2_with fail; exact hK))
      refine lexO_do rfl (fun K hK => ?_) lexO_stop
      go_wp2_with (go_at_call 24; refine whole_c.mono ?_; rintro e w' ⟨rfl, rfl⟩)
      refine step_and (by repeat (first | with_reducible assumption | with_reducible exact SameAt.refl _ | with_reducible refine SameAt.drew ?_ | with_reducible refine SameAt.drewN ?_ _ | with_reducible refine SameAt.alloc ?_ _ | (refine SameAt.below ?_ (by with_reducible assumption)))) (fun _ => ?_)
      repeat
        first | refine lexO_pass rfl ?_ | (refine lexO_take2 ?_ rfl (by kernel_rfl) (by with_reducible assumption) (fun w' hS K Q' hK => ?_) ?_; rotate_left; focus (have hS2 := hS.2; clear hS; go_wp2_with fail; exact hK))
      refine lexO_do rfl (fun K hK => ?_) lexO_stop
      go_wp2_with fail
      refine step_last (by decide) (lexO_done ?_)
      go_wp2
      rw [wrap_bit1 h8, wrap_bit1 (x := x9 / 32) (by omega)]
      refine bodyPost_ret (v := .tuple #[.agg #[.slice (some ⟨w1.heap.size + 1, 0, none⟩) 5 5, .slice (some ⟨w1.heap.size + 3, 0, none⟩) 1 1, .slice none 0 0, .slice A16 (n - 16) (c - 16)], .bool true, .bool true]) (by simp only [results, Tryz.results17]; go_simp) rfl ?_
      have q0 := below_new HB.out
      have q1 : Keeps (fun b => b < w.heap.size) w w1 := Keeps.of_below q0
      refine ⟨_, rfl, ⟨_, _, _, _, rfl, IsSl.block (cs := #[.int .u64 (((x0 * 256 + x1) * 256 + x2) * 256 + x3), .int .u64 (x8 / 128), .int .u64 (x8 % 2), .int .u64 (x9 / 128), .int .u64 (x9 / 32 % 2)]) (e := 39) (f := (0, 0)) (by (try simp only [heap_drew]); repeat (first | (with_reducible refine heap_last ?_; focus (simp; done)) | with_reducible refine heap_past ?_ | (with_reducible refine heap_set ?_ ?_; focus (first | omega | (simp; done) | (simp; omega))) | with_reducible assumption)) trivial (by omega), SD.one (v := .slice (some ⟨g, o + 4, none⟩) 4 (c - 4)) (e := 22) (f := (0, 0)) (by (try simp only [heap_drew]); repeat (first | (with_reducible refine heap_last ?_; focus (simp; done)) | with_reducible refine heap_past ?_ | (with_reducible refine heap_set ?_ ?_; focus (first | omega | (simp; done) | (simp; omega))) | with_reducible assumption)) trivial (((HD.out.imp (fun b hb _ => hb : ∀ b, b < w.heap.size → True → b < w.heap.size)).keeps (by repeat (first | with_reducible assumption | with_reducible exact Keeps.refl _ _ | with_reducible refine Keeps.drew ?_ | with_reducible refine Keeps.drewN ?_ _ | with_reducible refine Keeps.alloc ?_ _ | with_reducible refine Keeps.setCell ?_ ?_ _ | omega | focus (simp; done) | focus (simp; omega)))).imp (fun _ _ _ => trivial)), SP.nil _ _, (((HP.out.imp (fun b hb _ => hb : ∀ b, b < w.heap.size → True → b < w.heap.size)).keeps (by repeat (first | with_reducible assumption | with_reducible exact Keeps.refl _ _ | with_reducible refine Keeps.drew ?_ | with_reducible refine Keeps.drewN ?_ _ | with_reducible refine Keeps.alloc ?_ _ | with_reducible refine Keeps.setCell ?_ ?_ _ | omega | focus (simp; done) | focus (simp; omega)))).imp (fun _ _ _ => trivial))⟩, (by repeat (first | with_reducible assumption | with_reducible refine Below.drew ?_ | with_reducible refine below_drewN' ?_ _ | with_reducible refine Below.alloc ?_ ?_ _ | with_reducible refine Below.setCell ?_ ?_ _ | with_reducible exact Nat.le_refl _ | omega | focus (simp; done) | focus (simp; omega)))⟩
  · go_wp2_with fail
    refine step_and (by repeat (first | with_reducible assumption | with_reducible exact SameAt.refl _ | with_reducible refine SameAt.drew ?_ | with_reducible refine SameAt.drewN ?_ _ | with_reducible refine SameAt.alloc ?_ _ | (refine SameAt.below ?_ (by with_reducible assumption)))) (fun _ => ?_)
    repeat
      first | refine lexO_pass rfl ?_ | (refine lexO_take2 ?_ rfl (by kernel_rfl) (by with_reducible assumption) (fun w' hS K Q' hK => ?_) ?_; rotate_left; focus (have hS2 := hS.2; clear hS; go_wp2_with fail; exact hK))
    refine lexO_do rfl (fun K hK => ?_) lexO_stop
    go_wp2_with (go_at_call 25; refine (number4_c x0 x1 x2 x3 h0 h1 h2 h3 (by go_simp) (by go_simp) (by go_simp) (by go_simp)).mono ?_; rintro e w' ⟨rfl, rfl⟩)
    refine step_and (by repeat (first | with_reducible assumption | with_reducible exact SameAt.refl _ | with_reducible refine SameAt.drew ?_ | with_reducible refine SameAt.drewN ?_ _ | with_reducible refine SameAt.alloc ?_ _ | (refine SameAt.below ?_ (by with_reducible assumption)))) (fun _ => ?_)
    repeat
      first | refine lexO_pass rfl ?_ | (refine lexO_take2 ?_ rfl (by kernel_rfl) (by with_reducible assumption) (fun w' hS K Q' hK => ?_) ?_; rotate_left; focus (have hS2 := hS.2; clear hS; go_wp2_with fail; exact hK))
    refine lexO_do rfl (fun K hK => ?_) lexO_stop
    go_wp2_with fail
    refine step_and (by repeat (first | with_reducible assumption | with_reducible exact SameAt.refl _ | with_reducible refine SameAt.drew ?_ | with_reducible refine SameAt.drewN ?_ _ | with_reducible refine SameAt.alloc ?_ _ | (refine SameAt.below ?_ (by with_reducible assumption)))) (fun _ => ?_)
    repeat
      first | refine lexO_pass rfl ?_ | (refine lexO_take2 ?_ rfl (by kernel_rfl) (by with_reducible assumption) (fun w' hS K Q' hK => ?_) ?_; rotate_left; focus (have hS2 := hS.2; clear hS; go_wp2_with fail; exact hK))
    refine lexO_do rfl (fun K hK => ?_) lexO_stop
    go_wp2_with (go_at_call 24; refine whole_c.mono ?_; rintro e w' ⟨rfl, rfl⟩)
    refine step_and (by repeat (first | with_reducible assumption | with_reducible exact SameAt.refl _ | with_reducible refine SameAt.drew ?_ | with_reducible refine SameAt.drewN ?_ _ | with_reducible refine SameAt.alloc ?_ _ | (refine SameAt.below ?_ (by with_reducible assumption)))) (fun _ => ?_)
    repeat
      first | refine lexO_pass rfl ?_ | (refine lexO_take2 ?_ rfl (by kernel_rfl) (by with_reducible assumption) (fun w' hS K Q' hK => ?_) ?_; rotate_left; focus (have hS2 := hS.2; clear hS; go_wp2_with fail; exact hK))
    refine lexO_do rfl (fun K hK => ?_) lexO_stop
    go_wp2_with fail
    refine step_last (by decide) (lexO_done ?_)
    go_wp2
    rw [wrap_bit1 h8, wrap_bit1 (x := x9 / 32) (by omega)]
    refine bodyPost_ret (v := .tuple #[.agg #[.slice (some ⟨w1.heap.size + 1, 0, none⟩) 5 5, .slice (some ⟨w1.heap.size + 3, 0, none⟩) 1 1, .slice none 0 0, .slice A16 (n - 16) (c - 16)], .bool true, .bool true]) (by simp only [results, Tryz.results17]; go_simp) rfl ?_
    have q0 := below_new HB.out
    have q1 : Keeps (fun b => b < w.heap.size) w w1 := Keeps.of_below q0
    refine ⟨_, rfl, ⟨_, _, _, _, rfl, IsSl.block (cs := #[.int .u64 (((x0 * 256 + x1) * 256 + x2) * 256 + x3), .int .u64 (x8 / 128), .int .u64 (x8 % 2), .int .u64 (x9 / 128), .int .u64 (x9 / 32 % 2)]) (e := 39) (f := (0, 0)) (by (try simp only [heap_drew]); repeat (first | (with_reducible refine heap_last ?_; focus (simp; done)) | with_reducible refine heap_past ?_ | (with_reducible refine heap_set ?_ ?_; focus (first | omega | (simp; done) | (simp; omega))) | with_reducible assumption)) trivial (by omega), SD.one (v := .slice (some ⟨g, o + 4, none⟩) 4 (c - 4)) (e := 22) (f := (0, 0)) (by (try simp only [heap_drew]); repeat (first | (with_reducible refine heap_last ?_; focus (simp; done)) | with_reducible refine heap_past ?_ | (with_reducible refine heap_set ?_ ?_; focus (first | omega | (simp; done) | (simp; omega))) | with_reducible assumption)) trivial (((HD.out.imp (fun b hb _ => hb : ∀ b, b < w.heap.size → True → b < w.heap.size)).keeps (by repeat (first | with_reducible assumption | with_reducible exact Keeps.refl _ _ | with_reducible refine Keeps.drew ?_ | with_reducible refine Keeps.drewN ?_ _ | with_reducible refine Keeps.alloc ?_ _ | with_reducible refine Keeps.setCell ?_ ?_ _ | omega | focus (simp; done) | focus (simp; omega)))).imp (fun _ _ _ => trivial)), SP.nil _ _, (((HP.out.imp (fun b hb _ => hb : ∀ b, b < w.heap.size → True → b < w.heap.size)).keeps (by repeat (first | with_reducible assumption | with_reducible exact Keeps.refl _ _ | with_reducible refine Keeps.drew ?_ | with_reducible refine Keeps.drewN ?_ _ | with_reducible refine Keeps.alloc ?_ _ | with_reducible refine Keeps.setCell ?_ ?_ _ | omega | focus (simp; done) | focus (simp; omega)))).imp (fun _ _ _ => trivial))⟩, (by repeat (first | with_reducible assumption | with_reducible refine Below.drew ?_ | with_reducible refine below_drewN' ?_ _ | with_reducible refine Below.alloc ?_ ?_ _ | with_reducible refine Below.setCell ?_ ?_ _ | with_reducible exact Nat.le_refl _ | omega | focus (simp; done) | focus (simp; omega)))⟩

set_option maxHeartbeats 2000000 in
theorem specOf_asfpong {bs : List Int} (hb : ∀ z ∈ bs, 0 ≤ z ∧ z ≤ 255) : SpecOf (.string ⟨#[97, 115, 102, 112, 111, 110, 103]⟩) bs (some (dAsfpong bs)) := by
  intro v w h
  obtain ⟨p, c, rfl, hnc, hc, hp, hr⟩ := h
  match bs, hb, hnc, hr with
  | x0 :: x1 :: x2 :: x3 :: x4 :: x5 :: x6 :: x7 :: x8 :: x9 :: x10 :: x11 :: x12 :: x13 :: x14 :: x15 :: rest, hb, hnc, hr =>
    rcases hr with h | ⟨b, o, rfl, h1, h2, h3⟩
    · simp at h
    · refine (spec_asfpong x0 x1 x2 x3 x4 x5 x6 x7 x8 x9 x10 x11 x12 x13 x14 x15 (rest := rest) (by simp) hnc hc (fun z hz => hb z (List.mem_append_left rest hz)) (.inr ⟨b, o, rfl, h1, h2, h3⟩)).mono ?_
      rintro e w' ⟨v, he, hi, hb⟩
      exact ⟨hb, v, _, hi, .inr (.inr ⟨rfl, he⟩)⟩
  | [], _, _, _ => exact (spec_asfpong_short (by simp)).mono fun e w' h => ⟨h.2, _, _, layIs_zlay _, .inr (.inl ⟨rfl, h.1⟩)⟩
  | [_], _, _, _ => exact (spec_asfpong_short (by simp)).mono fun e w' h => ⟨h.2, _, _, layIs_zlay _, .inr (.inl ⟨rfl, h.1⟩)⟩
  | [_, _], _, _, _ => exact (spec_asfpong_short (by simp)).mono fun e w' h => ⟨h.2, _, _, layIs_zlay _, .inr (.inl ⟨rfl, h.1⟩)⟩
  | [_, _, _], _, _, _ => exact (spec_asfpong_short (by simp)).mono fun e w' h => ⟨h.2, _, _, layIs_zlay _, .inr (.inl ⟨rfl, h.1⟩)⟩
  | [_, _, _, _], _, _, _ => exact (spec_asfpong_short (by simp)).mono fun e w' h => ⟨h.2, _, _, layIs_zlay _, .inr (.inl ⟨rfl, h.1⟩)⟩
  | [_, _, _, _, _], _, _, _ => exact (spec_asfpong_short (by simp)).mono fun e w' h => ⟨h.2, _, _, layIs_zlay _, .inr (.inl ⟨rfl, h.1⟩)⟩
  | [_, _, _, _, _, _], _, _, _ => exact (spec_asfpong_short (by simp)).mono fun e w' h => ⟨h.2, _, _, layIs_zlay _, .inr (.inl ⟨rfl, h.1⟩)⟩
  | [_, _, _, _, _, _, _], _, _, _ => exact (spec_asfpong_short (by simp)).mono fun e w' h => ⟨h.2, _, _, layIs_zlay _, .inr (.inl ⟨rfl, h.1⟩)⟩
  | [_, _, _, _, _, _, _, _], _, _, _ => exact (spec_asfpong_short (by simp)).mono fun e w' h => ⟨h.2, _, _, layIs_zlay _, .inr (.inl ⟨rfl, h.1⟩)⟩
  | [_, _, _, _, _, _, _, _, _], _, _, _ => exact (spec_asfpong_short (by simp)).mono fun e w' h => ⟨h.2, _, _, layIs_zlay _, .inr (.inl ⟨rfl, h.1⟩)⟩
  | [_, _, _, _, _, _, _, _, _, _], _, _, _ => exact (spec_asfpong_short (by simp)).mono fun e w' h => ⟨h.2, _, _, layIs_zlay _, .inr (.inl ⟨rfl, h.1⟩)⟩
  | [_, _, _, _, _, _, _, _, _, _, _], _, _, _ => exact (spec_asfpong_short (by simp)).mono fun e w' h => ⟨h.2, _, _, layIs_zlay _, .inr (.inl ⟨rfl, h.1⟩)⟩
  | [_, _, _, _, _, _, _, _, _, _, _, _], _, _, _ => exact (spec_asfpong_short (by simp)).mono fun e w' h => ⟨h.2, _, _, layIs_zlay _, .inr (.inl ⟨rfl, h.1⟩)⟩
  | [_, _, _, _, _, _, _, _, _, _, _, _, _], _, _, _ => exact (spec_asfpong_short (by simp)).mono fun e w' h => ⟨h.2, _, _, layIs_zlay _, .inr (.inl ⟨rfl, h.1⟩)⟩
  | [_, _, _, _, _, _, _, _, _, _, _, _, _, _], _, _, _ => exact (spec_asfpong_short (by simp)).mono fun e w' h => ⟨h.2, _, _, layIs_zlay _, .inr (.inl ⟨rfl, h.1⟩)⟩
  | [_, _, _, _, _, _, _, _, _, _, _, _, _, _, _], _, _, _ => exact (spec_asfpong_short (by simp)).mono fun e w' h => ⟨h.2, _, _, layIs_zlay _, .inr (.inl ⟨rfl, h.1⟩)⟩
end Go.Proofs.YtaejicpdaldpiaaGreat
