/-
  spec.query.
-/
import Derived.Test.YtaejicpdaldpiaaGreatHelp
import Derived.Test.YtaejicpdaldpiaaGreatD2query
namespace Go.Proofs.YtaejicpdaldpiaaGreat
open Go Go.RowKit

set_option maxRecDepth 100000 in
set_option maxHeartbeats 1000000 in
theorem query_yes {g o n c N R : Nat} (x0 x1 x2 x3 x4 x5 x6 x7 x8 x9 x10 x11 x12 x13 x14 x15 x16 x17 x18 x19 x20 x21 x22 x23 : Int) {rest : List Int} {w : World} (hn : n = rest.length + 24) (hc : n ≤ c) (hm : c ≤ 9223372036854775807) (hN : x22 * 256 + x23 = (N : Int)) (hmn : 24 + 16 * N ≤ n)
    (hb : ∀ z ∈ [x0, x1, x2, x3, x4, x5, x6, x7, x8, x9, x10, x11, x12, x13, x14, x15, x16, x17, x18, x19, x20, x21, x22, x23], 0 ≤ z ∧ z ≤ 255) (hR : R < w.heap.size) (hr : RowAt w (fun b => b ≠ R) (some ⟨g, o, none⟩) ((x0 :: x1 :: x2 :: x3 :: x4 :: x5 :: x6 :: x7 :: x8 :: x9 :: x10 :: x11 :: x12 :: x13 :: x14 :: x15 :: x16 :: x17 :: x18 :: x19 :: x20 :: x21 :: x22 :: x23 :: rest).map (.int .u8))) :
    Calls Tryz.prog 27 #[.slice (some ⟨g, o, none⟩) n c] w fun e w' =>
      ∃ v, e = .returned (.tuple #[v, .bool true, .bool true]) ∧ LayOn w' (fun b => b ≠ R) v ⟨[x0 * 256 + x1, x20 / 8 % 2, x20 % 8, x21, (N : Int)], [[x4, x5, x6, x7, x8, x9, x10, x11, x12, x13, x14, x15, x16, x17, x18, x19]], (List.range N).map (fun k => (([] : List Int), ((x0 :: x1 :: x2 :: x3 :: x4 :: x5 :: x6 :: x7 :: x8 :: x9 :: x10 :: x11 :: x12 :: x13 :: x14 :: x15 :: x16 :: x17 :: x18 :: x19 :: x20 :: x21 :: x22 :: x23 :: rest).drop (24 + 16 * k)).take 16)), []⟩ ∧ Below w.heap.size w w' := by
  have hnm : 24 ≤ n := by omega
  have b2 : (2 : Int) ≤ (c : Int) := by omega
  have b4 : (4 : Int) ≤ (c : Int) := by omega
  have b20 : (20 : Int) ≤ (c : Int) := by omega
  have b22 : (22 : Int) ≤ (c : Int) := by omega
  have b24 : (24 : Int) ≤ (c : Int) := by omega
  have e2 : ¬ (c = 2) := by omega
  have e4 : ¬ (c = 4) := by omega
  have e22 : ¬ (c = 22) := by omega
  have hmle : ¬ (n : Int) < 24 + 16 * (N : Int) := by omega
  have HN := Lib.hid hn
  clear hn
  have HR := Lib.hid hr
  have HD := Lib.hid (show SB w (fun b => b ≠ R) (.slice (some ⟨g, o + 4, none⟩) 16 (c - 4)) [x4, x5, x6, x7, x8, x9, x10, x11, x12, x13, x14, x15, x16, x17, x18, x19] from SB.from (lo := 4) (hi := 20) hr (by omega) (by simp) (by have := HN.out; simp; omega) hm (by rw [if_neg (by omega)]))
  obtain ⟨hg, hcell⟩ := rowCells hr (by simp)
  have c0 := hcell 0 _ (by simp; rfl)
  have c1 := hcell 1 _ (by simp; rfl)
  have c20 := hcell 20 _ (by simp; rfl)
  have c21 := hcell 21 _ (by simp; rfl)
  have c22 := hcell 22 _ (by simp; rfl)
  have c23 := hcell 23 _ (by simp; rfl)
  rw [Nat.add_zero] at c0
  have h0 := hb x0 (by simp)
  have h1 := hb x1 (by simp)
  have h20 := hb x20 (by simp)
  have h21 := hb x21 (by simp)
  have h22 := hb x22 (by simp)
  have h23 := hb x23 (by simp)
  clear hr hcell hb
  go_enter Tryz.func27, Tryz.ntmps27
  go_wp2_with (go_at_call 25; refine (number2_c x22 x23 h22 h23 (by go_simp) (by go_simp)).mono ?_; rintro e w' ⟨rfl, rfl⟩)
  refine wp_gen (fun w1 => Below (w.alloc (.cells #[.slice none 0 0, .slice none 0 0, .slice none 0 0, .slice none 0 0] 29)).heap.size (w.alloc (.cells #[.slice none 0 0, .slice none 0 0, .slice none 0 0, .slice none 0 0] 29)) w1) (Below.refl _ _) (fun w1 hb1 => ?_)
  obtain ⟨r0, r1, r2, r3⟩ := cells4 hb1
  obtain ⟨f0, f1, f2, f3⟩ := frozen4 hb1
  have lw := size_new hb1
  have lw1 : w.heap.size < w1.heap.size + 1 := by omega
  have lw2 : w.heap.size < w1.heap.size + 1 + 1 := by omega
  have lw3 : w.heap.size < w1.heap.size + 1 + 1 + 1 := by omega
  have k0 := cell_keep hb1 c0
  have k1 := cell_keep hb1 c1
  have k20 := cell_keep hb1 c20
  have k21 := cell_keep hb1 c21
  have k22 := cell_keep hb1 c22
  have k23 := cell_keep hb1 c23
  have lg : g < w1.heap.size := by omega
  have HB := Lib.hid hb1
  clear hb1 c0 c1 c20 c21 c22 c23
  refine wp_region_same [20,21,23] (.q 0 (.q 1 (.q 3 (.q 4 (.q 5 (.q 6 (.q 7 (.q 8 (.q 9 (.q 10 (.q 11 (.q 12 (.q 13 (.q 14 (.q 15 (.q 16 (.q 17 (.q 18 (.q 19 (.l 2 (.l 20 (.l 21 (.l 22 (.l 23 .done .stop) .stop) (.l 22 (.l 21 (.l 23 .done .stop) .stop) .stop)) (.l 22 (.l 20 (.l 21 (.l 23 .done .stop) .stop) .stop) .stop)) (.l 22 (.l 2 (.l 20 (.l 21 (.l 23 .done .stop) .stop) .stop) .stop) .stop))))))))))))))))))))) (by kernel_rfl) (by kernel_rfl) (fun _ _ d _ _ h => by cases d <;> exact h) (by simp only [Ord.fill, nthOp]; rfl) ?_; intro hSm
  repeat
    first | refine lexO_pass rfl ?_ | (refine lexO_take2 ?_ rfl (by kernel_rfl) (by with_reducible assumption) (fun w' hS K Q' hK => ?_) ?_; rotate_left; focus (have hS2 := hS.2; clear hS; go_wp2_with fail; exact hK))
  refine lexO_do rfl (fun K hK => ?_) (lexO_do rfl (fun K hK => ?_) lexO_stop)
  · go_wp2_with (go_at_call 25; refine (number2_c x0 x1 h0 h1 (by go_simp) (by go_simp)).mono ?_; rintro e w' ⟨rfl, rfl⟩)
    refine step_and (by repeat (first | with_reducible assumption | with_reducible exact SameAt.refl _ | with_reducible refine SameAt.drew ?_ | with_reducible refine SameAt.drewN ?_ _ | with_reducible refine SameAt.alloc ?_ _ | (refine SameAt.below ?_ (by with_reducible assumption)))) (fun _ => ?_)
    repeat
      first | refine lexO_pass rfl ?_ | (refine lexO_take2 ?_ rfl (by kernel_rfl) (by with_reducible assumption) (fun w' hS K Q' hK => ?_) ?_; rotate_left; focus (have hS2 := hS.2; clear hS; go_wp2_with fail; exact hK))
    refine lexO_do rfl (fun K hK => ?_) (lexO_do rfl (fun K hK => ?_) lexO_stop)
    · go_wp2_with fail
      refine step_and (by repeat (first | with_reducible assumption | with_reducible exact SameAt.refl _ | with_reducible refine SameAt.drew ?_ | with_reducible refine SameAt.drewN ?_ _ | with_reducible refine SameAt.alloc ?_ _ | (refine SameAt.below ?_ (by with_reducible assumption)))) (fun _ => ?_)
      repeat
        first | refine lexO_pass rfl ?_ | (refine lexO_take2 ?_ rfl (by kernel_rfl) (by with_reducible assumption) (fun w' hS K Q' hK => ?_) ?_; rotate_left; focus (have hS2 := hS.2; clear hS; go_wp2_with fail; exact hK))
      refine lexO_do rfl (fun K hK => ?_) (lexO_do rfl (fun K hK => ?_) lexO_stop)
      · go_wp2_with (go_at_call 24; refine whole_c.mono ?_; rintro e w' ⟨rfl, rfl⟩)
        refine step_and (by repeat (first | with_reducible assumption | with_reducible exact SameAt.refl _ | with_reducible refine SameAt.drew ?_ | with_reducible refine SameAt.drewN ?_ _ | with_reducible refine SameAt.alloc ?_ _ | (refine SameAt.below ?_ (by with_reducible assumption)))) (fun _ => ?_)
        repeat
          first | refine lexO_pass rfl ?_ | (refine lexO_take2 ?_ rfl (by kernel_rfl) (by with_reducible assumption) (fun w' hS K Q' hK => ?_) ?_; rotate_left; focus (have hS2 := hS.2; clear hS; go_wp2_with fail; exact hK))
        refine lexO_do rfl (fun K hK => ?_) lexO_stop
        go_wp2_with fail
        refine step_and (by repeat (first | with_reducible assumption | with_reducible exact SameAt.refl _ | with_reducible refine SameAt.drew ?_ | with_reducible refine SameAt.drewN ?_ _ | with_reducible refine SameAt.alloc ?_ _ | (refine SameAt.below ?_ (by with_reducible assumption)))) (fun _ => ?_)
        repeat
          first | refine lexO_pass rfl ?_ | (refine lexO_take2 ?_ rfl (by kernel_rfl) (by with_reducible assumption) (fun w' hS K Q' hK => ?_) ?_; rotate_left; focus (have hS2 := hS.2; clear hS; go_wp2_with fail; exact hK))
        refine lexO_do rfl (fun K hK => ?_) lexO_stop
        go_wp2_with fail
        refine step_last (by decide) (lexO_done ?_)
        go_wp2_with fail
        rw [wrap_bit1 (x := x20 / 8) (by omega)]
        refine wp_gen (fun W => (W.cell? ⟨w1.heap.size + 2, 0, none⟩ = some (.slice (some ⟨w1.heap.size, 0, none⟩) 5 5) ∧ W.cell? ⟨w1.heap.size + 2, 1, none⟩ = some (.slice (some ⟨w1.heap.size + 3, 0, none⟩) 1 1) ∧ W.cell? ⟨w1.heap.size + 2, 2, none⟩ = some (.slice none 0 0) ∧ W.cell? ⟨w1.heap.size + 2, 3, none⟩ = some (.slice none 0 0)) ∧ (∀ j, W.frozen? ⟨w1.heap.size + 2, j, none⟩ = false) ∧ w1.heap.size + 2 < W.heap.size ∧
          (SN W (fun b => b ≠ w1.heap.size + 2 ∧ b ≠ w.heap.size ∧ b ≠ R) (.slice (some ⟨w1.heap.size, 0, none⟩) 5 5) [(x0 * 256 + x1), (x20 / 8 % 2), (x20 % 8), x21, (N : Int)] ∧ SD W (fun b => b ≠ w1.heap.size + 2 ∧ b ≠ w.heap.size ∧ b ≠ R) (.slice (some ⟨w1.heap.size + 3, 0, none⟩) 1 1) [[x4, x5, x6, x7, x8, x9, x10, x11, x12, x13, x14, x15, x16, x17, x18, x19]] ∧ SB W (fun b => b ≠ w1.heap.size + 2 ∧ b ≠ w.heap.size ∧ b ≠ R) (.slice none 0 0) []) ∧
          (W.cell? ⟨w.heap.size, 0, none⟩ = some (.slice none 0 0) ∧ W.cell? ⟨w.heap.size, 1, none⟩ = some (.slice none 0 0) ∧ W.cell? ⟨w.heap.size, 2, none⟩ = some (.slice none 0 0) ∧ W.cell? ⟨w.heap.size, 3, none⟩ = some (.slice none 0 0)) ∧
          (W.frozen? ⟨w.heap.size, 0, none⟩ = false ∧ W.frozen? ⟨w.heap.size, 1, none⟩ = false ∧ W.frozen? ⟨w.heap.size, 2, none⟩ = false ∧ W.frozen? ⟨w.heap.size, 3, none⟩ = false) ∧
          Keeps (fun b => b < w.heap.size) w W ∧ Below w.heap.size w W) ?F (fun W hW => ?_)
        case F =>
          have q0 := below_new HB.out
          have q1 : Keeps (fun b => b < w.heap.size) w w1 := Keeps.of_below q0
          have q2 : Keeps (fun b => b < w.heap.size ∧ b ≠ R) w w1 := Keeps.of_below q0
          refine ⟨⟨by go_simp, by go_simp, by go_simp, by go_simp⟩, fun j => by go_simp, by first | omega | focus (simp; done) | (simp; omega), ⟨IsSl.block (cs := #[.int .u64 (x0 * 256 + x1), .int .u64 (x20 / 8 % 2), .int .u64 (x20 % 8), .int .u64 x21, .int .u64 (N : Int)]) (e := 39) (f := (0, 0)) (by (try simp only [heap_drew]); repeat (first | (with_reducible refine heap_last ?_; focus (simp; done)) | with_reducible refine heap_past ?_ | (with_reducible refine heap_set ?_ ?_; focus (first | omega | (simp; done) | (simp; omega))) | with_reducible assumption)) ⟨by omega, by omega, by omega⟩ (by omega), SD.one (v := .slice (some ⟨g, o + 4, none⟩) 16 (c - 4)) (e := 22) (f := (0, 0)) (by (try simp only [heap_drew]); repeat (first | (with_reducible refine heap_last ?_; focus (simp; done)) | with_reducible refine heap_past ?_ | (with_reducible refine heap_set ?_ ?_; focus (first | omega | (simp; done) | (simp; omega))) | with_reducible assumption)) ⟨by omega, by omega, by omega⟩ (((HD.out.imp (fun b hb hn => ⟨hb, hn⟩ : ∀ b, b < w.heap.size → b ≠ R → b < w.heap.size ∧ b ≠ R)).keeps (by repeat (first | with_reducible assumption | with_reducible exact Keeps.refl _ _ | with_reducible refine Keeps.drew ?_ | with_reducible refine Keeps.drewN ?_ _ | with_reducible refine Keeps.alloc ?_ _ | with_reducible refine Keeps.setCell ?_ ?_ _ | omega | focus (simp; done) | focus (simp; omega)))).imp (fun b _ hb => ⟨by omega, by omega, hb.2⟩)), SB.nil _ _⟩, ⟨by go_simp, by go_simp, by go_simp, by go_simp⟩, ⟨by go_simp, by go_simp, by go_simp, by go_simp⟩, (by repeat (first | with_reducible assumption | with_reducible exact Keeps.refl _ _ | with_reducible refine Keeps.drew ?_ | with_reducible refine Keeps.drewN ?_ _ | with_reducible refine Keeps.alloc ?_ _ | with_reducible refine Keeps.setCell ?_ ?_ _ | omega | focus (simp; done) | focus (simp; omega))), (by repeat (first | with_reducible assumption | with_reducible refine Below.drew ?_ | with_reducible refine below_drewN' ?_ _ | with_reducible refine Below.alloc ?_ ?_ _ | with_reducible refine Below.setCell ?_ ?_ _ | with_reducible exact Nat.le_refl _ | omega | focus (simp; done) | focus (simp; omega)))⟩
        obtain ⟨⟨lc0, lc1, lc2, lc3⟩, lf, lL, ⟨hN, hD2, hP2⟩, ⟨wr0, wr1, wr2, wr3⟩, ⟨wf0, wf1, wf2, wf3⟩, kW, bW⟩ := hW
        have hF0 : Fills W W (w1.heap.size + 2) W.heap.size (fun b => b ≠ w1.heap.size + 2 ∧ b ≠ w.heap.size ∧ b ≠ R) (.slice none 0 0) ((List.range 0).map (fun k => (([] : List Int), ((x0 :: x1 :: x2 :: x3 :: x4 :: x5 :: x6 :: x7 :: x8 :: x9 :: x10 :: x11 :: x12 :: x13 :: x14 :: x15 :: x16 :: x17 :: x18 :: x19 :: x20 :: x21 :: x22 :: x23 :: rest).drop (24 + 16 * k)).take 16))) := Fills.start lL (Nat.le_refl _) lc2 lf
        have HN3 := Lib.hid (And.intro hN (And.intro hD2 hP2))
        have HK := Lib.hid (And.intro kW bW)
        have wL : w.heap.size < W.heap.size := World.block_lt_of_cell? _ _ wr0
        clear hN hD2 hP2 kW bW lf
        have HF0 := Lib.hid hF0
        clear hF0 
        go_loopw [7, 49] (fun _ i wr => ∃ k : Nat, k ≤ N ∧ i = .int .i64 (k : Int) ∧ ∃ v, Fills W wr (w1.heap.size + 2) W.heap.size (fun b => b ≠ w1.heap.size + 2 ∧ b ≠ w.heap.size ∧ b ≠ R) v ((List.range k).map (fun k => (([] : List Int), ((x0 :: x1 :: x2 :: x3 :: x4 :: x5 :: x6 :: x7 :: x8 :: x9 :: x10 :: x11 :: x12 :: x13 :: x14 :: x15 :: x16 :: x17 :: x18 :: x19 :: x20 :: x21 :: x22 :: x23 :: rest).drop (24 + 16 * k)).take 16)))) (fun _ i _ => N - (intOf i).toNat)
        case atStart => exact ⟨0, Nat.zero_le _, rfl, _, HF0.out⟩
        case round =>
          obtain ⟨k, hk, rfl, v, hF⟩ := hrel
          have HF := Lib.hid hF
          have lLr : w1.heap.size + 2 < wr.heap.size := Nat.lt_of_lt_of_le hF.lt hF.le
          have lwr : w.heap.size < wr.heap.size := Nat.lt_of_lt_of_le wL hF.le
          have leW := hF.le
          have hown := hF.rows.own
          have ef := hF.froz 2
          obtain ⟨p, c', hv⟩ := hF.rows.form
          rw [show ((List.range k).map (fun k => (([] : List Int), ((x0 :: x1 :: x2 :: x3 :: x4 :: x5 :: x6 :: x7 :: x8 :: x9 :: x10 :: x11 :: x12 :: x13 :: x14 :: x15 :: x16 :: x17 :: x18 :: x19 :: x20 :: x21 :: x22 :: x23 :: rest).drop (24 + 16 * k)).take 16))).length = k by simp] at hv
          subst hv
          have e2 := hF.parts
          have e0 := hF.other 0 _ (by decide) lc0
          have e1 := hF.other 1 _ (by decide) lc1
          have e3 := hF.other 3 _ (by decide) lc3
          have v0 := hF.keep.cell (b := w.heap.size) (by constructor <;> omega) wr0
          have v1 := hF.keep.cell (b := w.heap.size) (by constructor <;> omega) wr1
          have v2 := hF.keep.cell (b := w.heap.size) (by constructor <;> omega) wr2
          have v3 := hF.keep.cell (b := w.heap.size) (by constructor <;> omega) wr3
          have y0 := hF.keep.frozen (b := w.heap.size) (by constructor <;> omega) wL wf0
          have y1 := hF.keep.frozen (b := w.heap.size) (by constructor <;> omega) wL wf1
          have y2 := hF.keep.frozen (b := w.heap.size) (by constructor <;> omega) wL wf2
          have y3 := hF.keep.frozen (b := w.heap.size) (by constructor <;> omega) wL wf3
          have HO := Lib.hid hown
          have HKG := Lib.hid ((HK.out.1.trans (hF.keep.imp (fun b hb => ⟨by omega, by omega⟩ : ∀ b, b < w.heap.size → b < W.heap.size ∧ b ≠ w1.heap.size + 2))).imp (fun b hb => hb.1 : ∀ b, b < w.heap.size ∧ b ≠ R → b < w.heap.size))
          clear hF hown
          by_cases hlt : k < N
          · have hat : (k : Int) < (N : Int) := by omega
            have ha1 : 24 + 16 * (k : Int) + 16 ≤ (c : Int) := by omega
            have ha3 : 40 + 16 * (k : Int) ≤ (c : Int) := by omega
            have ha2 : ¬ c = 24 + 16 * k := by omega
            have hS : SB w (fun b => b ≠ R) (.slice (some ⟨g, o + (24 + 16 * k), none⟩) 16 (c - (24 + 16 * k))) (((x0 :: x1 :: x2 :: x3 :: x4 :: x5 :: x6 :: x7 :: x8 :: x9 :: x10 :: x11 :: x12 :: x13 :: x14 :: x15 :: x16 :: x17 :: x18 :: x19 :: x20 :: x21 :: x22 :: x23 :: rest).drop (24 + 16 * k)).take 16) := by
              have := SB.from (lo := 24 + 16 * k) (hi := 24 + 16 * k + 16) (A := some ⟨g, o + (24 + 16 * k), none⟩) HR.out (by omega) (by have := HN.out; simp at *; omega) (by have := HN.out; simp at *; omega) hm (by rw [if_neg ha2])
              rwa [show 24 + 16 * k + 16 - (24 + 16 * k) = 16 by omega] at this
            have HS := Lib.hid hS
            clear hS
            go_wp2_with fail
            refine wp_region_to (W.heap.size) (by first | omega | exact Nat.le_refl _ | (simp; omega)) [14] (.q 0 (.q 1 (.q 2 (.q 3 (.q 4 (.q 5 (.q 6 (.q 7 (.q 8 (.q 9 (.q 10 (.l 11 (.l 12 (.q 13 (.l 14 .done .stop)) .stop) .stop)))))))))))) (by kernel_rfl) (by kernel_rfl) (fun _ _ d _ _ h => by cases d <;> exact h) (by simp only [Ord.fill, nthOp]; rfl) ?_; intro hSm
            repeat
              first | refine lexO_pass rfl ?_ | (refine lexO_take2 ?_ rfl (by kernel_rfl) (by with_reducible assumption) (fun w' hS K Q' hK => ?_) ?_; rotate_left; focus (have hS2 := hS.2; clear hS; go_wp2_with fail; exact hK))
            refine lexO_do rfl (fun K hK => ?_) lexO_stop
            go_wp2_with fail
            refine step_and (by repeat (first | with_reducible assumption | (with_reducible refine SameTo.refl ?_) | with_reducible refine SameTo.drew ?_ | with_reducible refine SameTo.alloc ?_ _ | (with_reducible refine SameTo.setCell ?_ ?_ _) | (refine SameTo.below ?_ (by with_reducible assumption)) | omega | exact Nat.le_refl _ | focus (simp; done) | focus (simp; omega))) (fun _ => ?_)
            repeat
              first | refine lexO_pass rfl ?_ | (refine lexO_take2 ?_ rfl (by kernel_rfl) (by with_reducible assumption) (fun w' hS K Q' hK => ?_) ?_; rotate_left; focus (have hS2 := hS.2; clear hS; go_wp2_with fail; exact hK))
            refine lexO_do rfl (fun K hK => ?_) lexO_stop
            refine wp_append_N (E := eP) (.tmp 53) (.tmp 63) 27 44 _ 48 rfl Tryz.underlying27 infoPart rfl (by decide) (by decide) (HF.out.rows.keeps (by repeat (first | with_reducible assumption | with_reducible exact Keeps.refl _ _ | with_reducible refine Keeps.drew ?_ | with_reducible refine Keeps.drewN ?_ _ | with_reducible refine Keeps.alloc ?_ _ | with_reducible refine Keeps.setCell ?_ ?_ _ | omega | focus (simp; done) | focus (simp; omega)))) wr.heap.size (fun k hk => (HO.out k hk).2) rfl rfl (cs := [.slice none 0 0, .slice (some ⟨g, o + (24 + 16 * k), none⟩) 16 (c - (24 + 16 * k))]) (y := (fun k => (([] : List Int), ((x0 :: x1 :: x2 :: x3 :: x4 :: x5 :: x6 :: x7 :: x8 :: x9 :: x10 :: x11 :: x12 :: x13 :: x14 :: x15 :: x16 :: x17 :: x18 :: x19 :: x20 :: x21 :: x22 :: x23 :: rest).drop (24 + 16 * k)).take 16)) k) ?hcells ?hrep (by simp; omega) (by first | omega | (simp; omega)) (fun q' c2 w5 hr5 hs5 hk5 hb5 => hK _ _ ?_)
            case hcells =>
              intro j u hu
              rcases j with _ | _ | j
              · simp at hu; subst hu; (go_simp <;> omega)
              · simp at hu; subst hu; (go_simp <;> omega)
              · simp at hu
            case hrep => exact ⟨_, _, rfl, SN.nil _ _, ((HS.out.imp (fun b hb hn => ⟨hb, hn⟩ : ∀ b, b < w.heap.size → b ≠ R → b < w.heap.size ∧ b ≠ R)).keeps (HKG.out.trans (by repeat (first | with_reducible assumption | with_reducible exact Keeps.refl _ _ | with_reducible refine Keeps.drew ?_ | with_reducible refine Keeps.drewN ?_ _ | with_reducible refine Keeps.alloc ?_ _ | with_reducible refine Keeps.setCell ?_ ?_ _ | omega | focus (simp; done) | focus (simp; omega))))).imp (fun b _ hb => ⟨⟨by omega, by omega, hb.2⟩, .inl (by omega)⟩)⟩
            refine step_and (SameTo.keeps (by repeat (first | with_reducible assumption | (with_reducible refine SameTo.refl ?_) | with_reducible refine SameTo.drew ?_ | with_reducible refine SameTo.alloc ?_ _ | (with_reducible refine SameTo.setCell ?_ ?_ _) | (refine SameTo.below ?_ (by with_reducible assumption)) | omega | exact Nat.le_refl _ | focus (simp; done) | focus (simp; omega))) hk5) (fun _ => ?_)
            rw [show ((List.range k).map (fun k => (([] : List Int), ((x0 :: x1 :: x2 :: x3 :: x4 :: x5 :: x6 :: x7 :: x8 :: x9 :: x10 :: x11 :: x12 :: x13 :: x14 :: x15 :: x16 :: x17 :: x18 :: x19 :: x20 :: x21 :: x22 :: x23 :: rest).drop (24 + 16 * k)).take 16))).length = k by simp] at hr5
            have hL5 : w5.cell? ⟨w1.heap.size + 2, 2, none⟩ = some (.slice p k c') := hk5.cell lL (by go_simp)
            have hf5 : w5.frozen? ⟨w1.heap.size + 2, 2, none⟩ = false := hk5.frozen lL (by first | omega | (simp; omega)) (by go_simp)
            have l5 : w1.heap.size + 2 < w5.heap.size := World.block_lt_of_cell? _ _ hL5
            have H5 := Lib.hid (HF.out.step (w5 := w5) (fun b hb => hb.1) (show Below wr.heap.size wr _ from (by have h0 := Below.refl wr.heap.size wr; exact (by repeat (first | with_reducible assumption | with_reducible refine Below.drew ?_ | with_reducible refine below_drewN' ?_ _ | with_reducible refine Below.alloc ?_ ?_ _ | with_reducible refine Below.setCell ?_ ?_ _ | with_reducible exact Nat.le_refl _ | omega | focus (simp; done) | focus (simp; omega))))) hr5 hs5 hk5 hb5)
            clear hr5 hs5 hk5 hb5
            repeat
              first | refine lexO_pass rfl ?_ | (refine lexO_take2 ?_ rfl (by kernel_rfl) (by with_reducible assumption) (fun w' hS K Q' hK => ?_) ?_; rotate_left; focus (have hS2 := hS.2; clear hS; go_wp2_with fail; exact hK))
            refine lexO_do rfl (fun K hK => ?_) lexO_stop
            go_wp2_with fail
            first | refine step_last (by decide) (lexO_done ?_) | refine lexO_done ?_
            go_wp2_with fail
            go_roundw
            case rel => exact ⟨k + 1, hlt, by go_num, _, by have := H5.out; rwa [range_snoc] at this⟩
            case measure => simp [intOf]; omega
          · obtain rfl : k = N := by omega
            have hat : ¬ (k : Int) < (k : Int) := by omega
            go_wp2_with fail
            refine bodyPost_ret (v := .tuple #[.agg #[.slice (some ⟨w1.heap.size, 0, none⟩) 5 5, .slice (some ⟨w1.heap.size + 3, 0, none⟩) 1 1, .slice p k c', .slice none 0 0], .bool true, .bool true]) (by simp only [results, Tryz.results27]; go_simp) rfl ?_
            have hF := HF.out
            have h0 : Below w.heap.size w wr := hF.below _ _ (by omega) HK.out.2
            refine ⟨_, rfl, ((hF.lay (ok' := fun b => b ≠ w.heap.size ∧ b ≠ R) rfl HN3.out.1 HN3.out.2.1 HN3.out.2.2 (fun b hb => hb.1) (fun b hb => ⟨by omega, by omega⟩) (fun b hb => hb.2) (fun b hb => hb.2)).keeps (by repeat (first | with_reducible assumption | with_reducible exact Keeps.refl _ _ | with_reducible refine Keeps.drew ?_ | with_reducible refine Keeps.drewN ?_ _ | with_reducible refine Keeps.alloc ?_ _ | with_reducible refine Keeps.setCell ?_ ?_ _ | omega | focus (simp; done) | focus (simp; omega)))).imp (fun b _ hb => hb.2), (by repeat (first | with_reducible assumption | with_reducible refine Below.drew ?_ | with_reducible refine below_drewN' ?_ _ | with_reducible refine Below.alloc ?_ ?_ _ | with_reducible refine Below.setCell ?_ ?_ _ | with_reducible exact Nat.le_refl _ | omega | focus (simp; done) | focus (simp; omega)))⟩
      · go_wp2_with fail
        refine step_and (by repeat (first | with_reducible assumption | with_reducible exact SameAt.refl _ | with_reducible refine SameAt.drew ?_ | with_reducible refine SameAt.drewN ?_ _ | with_reducible refine SameAt.alloc ?_ _ | (refine SameAt.below ?_ (by with_reducible assumption)))) (fun _ => ?_)
        repeat
          first | refine lexO_pass rfl ?_ | (refine lexO_take2 ?_ rfl (by kernel_rfl) (by with_reducible assumption) (fun w' hS K Q' hK => ?_) ?_; rotate_left; focus (have hS2 := hS.2; clear hS; go_wp2_with fail; exact hK))
        refine lexO_do rfl (fun K hK => ?_) lexO_stop
        go_wp2_with (go_at_call 24; refine whole_c.mono ?_; rintro e w' ⟨rfl, rfl⟩)
        refine step_and (by repeat (first | with_reducible assumption | with_reducible exact SameAt.refl _ | with_reducible refine SameAt.drew ?_ | with_reducible refine SameAt.drewN ?_ _ | with_reducible refine SameAt.alloc ?_ _ | (refine SameAt.below ?_ (by with_reducible assumption)))) (fun _ => ?_)
        repeat
          first | refine lexO_pass rfl ?_ | (refine lexO_take2 ?_ rfl (by kernel_rfl) (by with_reducible assumption) (fun w' hS K Q' hK => ?_) ?_; rotate_left; focus (have hS2 := hS.2; clear hS; go_wp2_with fail; exact hK))
        refine lexO_do rfl (fun K hK => ?_) lexO_stop
        go_wp2_with fail
        refine step_last (by decide) (lexO_done ?_)
        go_wp2_with fail
        rw [wrap_bit1 (x := x20 / 8) (by omega)]
        refine wp_gen (fun W => (W.cell? ⟨w1.heap.size + 1, 0, none⟩ = some (.slice (some ⟨w1.heap.size, 0, none⟩) 5 5) ∧ W.cell? ⟨w1.heap.size + 1, 1, none⟩ = some (.slice (some ⟨w1.heap.size + 3, 0, none⟩) 1 1) ∧ W.cell? ⟨w1.heap.size + 1, 2, none⟩ = some (.slice none 0 0) ∧ W.cell? ⟨w1.heap.size + 1, 3, none⟩ = some (.slice none 0 0)) ∧ (∀ j, W.frozen? ⟨w1.heap.size + 1, j, none⟩ = false) ∧ w1.heap.size + 1 < W.heap.size ∧
          (SN W (fun b => b ≠ w1.heap.size + 1 ∧ b ≠ w.heap.size ∧ b ≠ R) (.slice (some ⟨w1.heap.size, 0, none⟩) 5 5) [(x0 * 256 + x1), (x20 / 8 % 2), (x20 % 8), x21, (N : Int)] ∧ SD W (fun b => b ≠ w1.heap.size + 1 ∧ b ≠ w.heap.size ∧ b ≠ R) (.slice (some ⟨w1.heap.size + 3, 0, none⟩) 1 1) [[x4, x5, x6, x7, x8, x9, x10, x11, x12, x13, x14, x15, x16, x17, x18, x19]] ∧ SB W (fun b => b ≠ w1.heap.size + 1 ∧ b ≠ w.heap.size ∧ b ≠ R) (.slice none 0 0) []) ∧
          (W.cell? ⟨w.heap.size, 0, none⟩ = some (.slice none 0 0) ∧ W.cell? ⟨w.heap.size, 1, none⟩ = some (.slice none 0 0) ∧ W.cell? ⟨w.heap.size, 2, none⟩ = some (.slice none 0 0) ∧ W.cell? ⟨w.heap.size, 3, none⟩ = some (.slice none 0 0)) ∧
          (W.frozen? ⟨w.heap.size, 0, none⟩ = false ∧ W.frozen? ⟨w.heap.size, 1, none⟩ = false ∧ W.frozen? ⟨w.heap.size, 2, none⟩ = false ∧ W.frozen? ⟨w.heap.size, 3, none⟩ = false) ∧
          Keeps (fun b => b < w.heap.size) w W ∧ Below w.heap.size w W) ?F (fun W hW => ?_)
        case F =>
          have q0 := below_new HB.out
          have q1 : Keeps (fun b => b < w.heap.size) w w1 := Keeps.of_below q0
          have q2 : Keeps (fun b => b < w.heap.size ∧ b ≠ R) w w1 := Keeps.of_below q0
          refine ⟨⟨by go_simp, by go_simp, by go_simp, by go_simp⟩, fun j => by go_simp, by first | omega | focus (simp; done) | (simp; omega), ⟨IsSl.block (cs := #[.int .u64 (x0 * 256 + x1), .int .u64 (x20 / 8 % 2), .int .u64 (x20 % 8), .int .u64 x21, .int .u64 (N : Int)]) (e := 39) (f := (0, 0)) (by (try simp only [heap_drew]); repeat (first | (with_reducible refine heap_last ?_; focus (simp; done)) | with_reducible refine heap_past ?_ | (with_reducible refine heap_set ?_ ?_; focus (first | omega | (simp; done) | (simp; omega))) | with_reducible assumption)) ⟨by omega, by omega, by omega⟩ (by omega), SD.one (v := .slice (some ⟨g, o + 4, none⟩) 16 (c - 4)) (e := 22) (f := (0, 0)) (by (try simp only [heap_drew]); repeat (first | (with_reducible refine heap_last ?_; focus (simp; done)) | with_reducible refine heap_past ?_ | (with_reducible refine heap_set ?_ ?_; focus (first | omega | (simp; done) | (simp; omega))) | with_reducible assumption)) ⟨by omega, by omega, by omega⟩ (((HD.out.imp (fun b hb hn => ⟨hb, hn⟩ : ∀ b, b < w.heap.size → b ≠ R → b < w.heap.size ∧ b ≠ R)).keeps (by repeat (first | with_reducible assumption | with_reducible exact Keeps.refl _ _ | with_reducible refine Keeps.drew ?_ | with_reducible refine Keeps.drewN ?_ _ | with_reducible refine Keeps.alloc ?_ _ | with_reducible refine Keeps.setCell ?_ ?_ _ | omega | focus (simp; done) | focus (simp; omega)))).imp (fun b _ hb => ⟨by omega, by omega, hb.2⟩)), SB.nil _ _⟩, ⟨by go_simp, by go_simp, by go_simp, by go_simp⟩, ⟨by go_simp, by go_simp, by go_simp, by go_simp⟩, (by repeat (first | with_reducible assumption | with_reducible exact Keeps.refl _ _ | with_reducible refine Keeps.drew ?_ | with_reducible refine Keeps.drewN ?_ _ | with_reducible refine Keeps.alloc ?_ _ | with_reducible refine Keeps.setCell ?_ ?_ _ | omega | focus (simp; done) | focus (simp; omega))), (by repeat (first | with_reducible assumption | with_reducible refine Below.drew ?_ | with_reducible refine below_drewN' ?_ _ | with_reducible refine Below.alloc ?_ ?_ _ | with_reducible refine Below.setCell ?_ ?_ _ | with_reducible exact Nat.le_refl _ | omega | focus (simp; done) | focus (simp; omega)))⟩
        obtain ⟨⟨lc0, lc1, lc2, lc3⟩, lf, lL, ⟨hN, hD2, hP2⟩, ⟨wr0, wr1, wr2, wr3⟩, ⟨wf0, wf1, wf2, wf3⟩, kW, bW⟩ := hW
        have hF0 : Fills W W (w1.heap.size + 1) W.heap.size (fun b => b ≠ w1.heap.size + 1 ∧ b ≠ w.heap.size ∧ b ≠ R) (.slice none 0 0) ((List.range 0).map (fun k => (([] : List Int), ((x0 :: x1 :: x2 :: x3 :: x4 :: x5 :: x6 :: x7 :: x8 :: x9 :: x10 :: x11 :: x12 :: x13 :: x14 :: x15 :: x16 :: x17 :: x18 :: x19 :: x20 :: x21 :: x22 :: x23 :: rest).drop (24 + 16 * k)).take 16))) := Fills.start lL (Nat.le_refl _) lc2 lf
        have HN3 := Lib.hid (And.intro hN (And.intro hD2 hP2))
        have HK := Lib.hid (And.intro kW bW)
        have wL : w.heap.size < W.heap.size := World.block_lt_of_cell? _ _ wr0
        clear hN hD2 hP2 kW bW lf
        have HF0 := Lib.hid hF0
        clear hF0 
        go_loopw [7, 49] (fun _ i wr => ∃ k : Nat, k ≤ N ∧ i = .int .i64 (k : Int) ∧ ∃ v, Fills W wr (w1.heap.size + 1) W.heap.size (fun b => b ≠ w1.heap.size + 1 ∧ b ≠ w.heap.size ∧ b ≠ R) v ((List.range k).map (fun k => (([] : List Int), ((x0 :: x1 :: x2 :: x3 :: x4 :: x5 :: x6 :: x7 :: x8 :: x9 :: x10 :: x11 :: x12 :: x13 :: x14 :: x15 :: x16 :: x17 :: x18 :: x19 :: x20 :: x21 :: x22 :: x23 :: rest).drop (24 + 16 * k)).take 16)))) (fun _ i _ => N - (intOf i).toNat)
        case atStart => exact ⟨0, Nat.zero_le _, rfl, _, HF0.out⟩
        case round =>
          obtain ⟨k, hk, rfl, v, hF⟩ := hrel
          have HF := Lib.hid hF
          have lLr : w1.heap.size + 1 < wr.heap.size := Nat.lt_of_lt_of_le hF.lt hF.le
          have lwr : w.heap.size < wr.heap.size := Nat.lt_of_lt_of_le wL hF.le
          have leW := hF.le
          have hown := hF.rows.own
          have ef := hF.froz 2
          obtain ⟨p, c', hv⟩ := hF.rows.form
          rw [show ((List.range k).map (fun k => (([] : List Int), ((x0 :: x1 :: x2 :: x3 :: x4 :: x5 :: x6 :: x7 :: x8 :: x9 :: x10 :: x11 :: x12 :: x13 :: x14 :: x15 :: x16 :: x17 :: x18 :: x19 :: x20 :: x21 :: x22 :: x23 :: rest).drop (24 + 16 * k)).take 16))).length = k by simp] at hv
          subst hv
          have e2 := hF.parts
          have e0 := hF.other 0 _ (by decide) lc0
          have e1 := hF.other 1 _ (by decide) lc1
          have e3 := hF.other 3 _ (by decide) lc3
          have v0 := hF.keep.cell (b := w.heap.size) (by constructor <;> omega) wr0
          have v1 := hF.keep.cell (b := w.heap.size) (by constructor <;> omega) wr1
          have v2 := hF.keep.cell (b := w.heap.size) (by constructor <;> omega) wr2
          have v3 := hF.keep.cell (b := w.heap.size) (by constructor <;> omega) wr3
          have y0 := hF.keep.frozen (b := w.heap.size) (by constructor <;> omega) wL wf0
          have y1 := hF.keep.frozen (b := w.heap.size) (by constructor <;> omega) wL wf1
          have y2 := hF.keep.frozen (b := w.heap.size) (by constructor <;> omega) wL wf2
          have y3 := hF.keep.frozen (b := w.heap.size) (by constructor <;> omega) wL wf3
          have HO := Lib.hid hown
          have HKG := Lib.hid ((HK.out.1.trans (hF.keep.imp (fun b hb => ⟨by omega, by omega⟩ : ∀ b, b < w.heap.size → b < W.heap.size ∧ b ≠ w1.heap.size + 1))).imp (fun b hb => hb.1 : ∀ b, b < w.heap.size ∧ b ≠ R → b < w.heap.size))
          clear hF hown
          by_cases hlt : k < N
          · have hat : (k : Int) < (N : Int) := by omega
            have ha1 : 24 + 16 * (k : Int) + 16 ≤ (c : Int) := by omega
            have ha3 : 40 + 16 * (k : Int) ≤ (c : Int) := by omega
            have ha2 : ¬ c = 24 + 16 * k := by omega
            have hS : SB w (fun b => b ≠ R) (.slice (some ⟨g, o + (24 + 16 * k), none⟩) 16 (c - (24 + 16 * k))) (((x0 :: x1 :: x2 :: x3 :: x4 :: x5 :: x6 :: x7 :: x8 :: x9 :: x10 :: x11 :: x12 :: x13 :: x14 :: x15 :: x16 :: x17 :: x18 :: x19 :: x20 :: x21 :: x22 :: x23 :: rest).drop (24 + 16 * k)).take 16) := by
              have := SB.from (lo := 24 + 16 * k) (hi := 24 + 16 * k + 16) (A := some ⟨g, o + (24 + 16 * k), none⟩) HR.out (by omega) (by have := HN.out; simp at *; omega) (by have := HN.out; simp at *; omega) hm (by rw [if_neg ha2])
              rwa [show 24 + 16 * k + 16 - (24 + 16 * k) = 16 by omega] at this
            have HS := Lib.hid hS
            clear hS
            go_wp2_with fail
            refine wp_region_to (W.heap.size) (by first | omega | exact Nat.le_refl _ | (simp; omega)) [14] (.q 0 (.q 1 (.q 2 (.q 3 (.q 4 (.q 5 (.q 6 (.q 7 (.q 8 (.q 9 (.q 10 (.l 11 (.l 12 (.q 13 (.l 14 .done .stop)) .stop) .stop)))))))))))) (by kernel_rfl) (by kernel_rfl) (fun _ _ d _ _ h => by cases d <;> exact h) (by simp only [Ord.fill, nthOp]; rfl) ?_; intro hSm
            repeat
              first | refine lexO_pass rfl ?_ | (refine lexO_take2 ?_ rfl (by kernel_rfl) (by with_reducible assumption) (fun w' hS K Q' hK => ?_) ?_; rotate_left; focus (have hS2 := hS.2; clear hS; go_wp2_with fail; exact hK))
            refine lexO_do rfl (fun K hK => ?_) lexO_stop
            go_wp2_with fail
            refine step_and (by repeat (first | with_reducible assumption | (with_reducible refine SameTo.refl ?_) | with_reducible refine SameTo.drew ?_ | with_reducible refine SameTo.alloc ?_ _ | (with_reducible refine SameTo.setCell ?_ ?_ _) | (refine SameTo.below ?_ (by with_reducible assumption)) | omega | exact Nat.le_refl _ | focus (simp; done) | focus (simp; omega))) (fun _ => ?_)
            repeat
              first | refine lexO_pass rfl ?_ | (refine lexO_take2 ?_ rfl (by kernel_rfl) (by with_reducible assumption) (fun w' hS K Q' hK => ?_) ?_; rotate_left; focus (have hS2 := hS.2; clear hS; go_wp2_with fail; exact hK))
            refine lexO_do rfl (fun K hK => ?_) lexO_stop
            refine wp_append_N (E := eP) (.tmp 53) (.tmp 63) 27 44 _ 48 rfl Tryz.underlying27 infoPart rfl (by decide) (by decide) (HF.out.rows.keeps (by repeat (first | with_reducible assumption | with_reducible exact Keeps.refl _ _ | with_reducible refine Keeps.drew ?_ | with_reducible refine Keeps.drewN ?_ _ | with_reducible refine Keeps.alloc ?_ _ | with_reducible refine Keeps.setCell ?_ ?_ _ | omega | focus (simp; done) | focus (simp; omega)))) wr.heap.size (fun k hk => (HO.out k hk).2) rfl rfl (cs := [.slice none 0 0, .slice (some ⟨g, o + (24 + 16 * k), none⟩) 16 (c - (24 + 16 * k))]) (y := (fun k => (([] : List Int), ((x0 :: x1 :: x2 :: x3 :: x4 :: x5 :: x6 :: x7 :: x8 :: x9 :: x10 :: x11 :: x12 :: x13 :: x14 :: x15 :: x16 :: x17 :: x18 :: x19 :: x20 :: x21 :: x22 :: x23 :: rest).drop (24 + 16 * k)).take 16)) k) ?hcells ?hrep (by simp; omega) (by first | omega | (simp; omega)) (fun q' c2 w5 hr5 hs5 hk5 hb5 => hK _ _ ?_)
            case hcells =>
              intro j u hu
              rcases j with _ | _ | j
              · simp at hu; subst hu; (go_simp <;> omega)
              · simp at hu; subst hu; (go_simp <;> omega)
              · simp at hu
            case hrep => exact ⟨_, _, rfl, SN.nil _ _, ((HS.out.imp (fun b hb hn => ⟨hb, hn⟩ : ∀ b, b < w.heap.size → b ≠ R → b < w.heap.size ∧ b ≠ R)).keeps (HKG.out.trans (by repeat (first | with_reducible assumption | with_reducible exact Keeps.refl _ _ | with_reducible refine Keeps.drew ?_ | with_reducible refine Keeps.drewN ?_ _ | with_reducible refine Keeps.alloc ?_ _ | with_reducible refine Keeps.setCell ?_ ?_ _ | omega | focus (simp; done) | focus (simp; omega))))).imp (fun b _ hb => ⟨⟨by omega, by omega, hb.2⟩, .inl (by omega)⟩)⟩
            refine step_and (SameTo.keeps (by repeat (first | with_reducible assumption | (with_reducible refine SameTo.refl ?_) | with_reducible refine SameTo.drew ?_ | with_reducible refine SameTo.alloc ?_ _ | (with_reducible refine SameTo.setCell ?_ ?_ _) | (refine SameTo.below ?_ (by with_reducible assumption)) | omega | exact Nat.le_refl _ | focus (simp; done) | focus (simp; omega))) hk5) (fun _ => ?_)
            rw [show ((List.range k).map (fun k => (([] : List Int), ((x0 :: x1 :: x2 :: x3 :: x4 :: x5 :: x6 :: x7 :: x8 :: x9 :: x10 :: x11 :: x12 :: x13 :: x14 :: x15 :: x16 :: x17 :: x18 :: x19 :: x20 :: x21 :: x22 :: x23 :: rest).drop (24 + 16 * k)).take 16))).length = k by simp] at hr5
            have hL5 : w5.cell? ⟨w1.heap.size + 1, 2, none⟩ = some (.slice p k c') := hk5.cell lL (by go_simp)
            have hf5 : w5.frozen? ⟨w1.heap.size + 1, 2, none⟩ = false := hk5.frozen lL (by first | omega | (simp; omega)) (by go_simp)
            have l5 : w1.heap.size + 1 < w5.heap.size := World.block_lt_of_cell? _ _ hL5
            have H5 := Lib.hid (HF.out.step (w5 := w5) (fun b hb => hb.1) (show Below wr.heap.size wr _ from (by have h0 := Below.refl wr.heap.size wr; exact (by repeat (first | with_reducible assumption | with_reducible refine Below.drew ?_ | with_reducible refine below_drewN' ?_ _ | with_reducible refine Below.alloc ?_ ?_ _ | with_reducible refine Below.setCell ?_ ?_ _ | with_reducible exact Nat.le_refl _ | omega | focus (simp; done) | focus (simp; omega))))) hr5 hs5 hk5 hb5)
            clear hr5 hs5 hk5 hb5
            repeat
              first | refine lexO_pass rfl ?_ | (refine lexO_take2 ?_ rfl (by kernel_rfl) (by with_reducible assumption) (fun w' hS K Q' hK => ?_) ?_; rotate_left; focus (have hS2 := hS.2; clear hS; go_wp2_with fail; exact hK))
            refine lexO_do rfl (fun K hK => ?_) lexO_stop
            go_wp2_with fail
            first | refine step_last (by decide) (lexO_done ?_) | refine lexO_done ?_
            go_wp2_with fail
            go_roundw
            case rel => exact ⟨k + 1, hlt, by go_num, _, by have := H5.out; rwa [range_snoc] at this⟩
            case measure => simp [intOf]; omega
          · obtain rfl : k = N := by omega
            have hat : ¬ (k : Int) < (k : Int) := by omega
            go_wp2_with fail
            refine bodyPost_ret (v := .tuple #[.agg #[.slice (some ⟨w1.heap.size, 0, none⟩) 5 5, .slice (some ⟨w1.heap.size + 3, 0, none⟩) 1 1, .slice p k c', .slice none 0 0], .bool true, .bool true]) (by simp only [results, Tryz.results27]; go_simp) rfl ?_
            have hF := HF.out
            have h0 : Below w.heap.size w wr := hF.below _ _ (by omega) HK.out.2
            refine ⟨_, rfl, ((hF.lay (ok' := fun b => b ≠ w.heap.size ∧ b ≠ R) rfl HN3.out.1 HN3.out.2.1 HN3.out.2.2 (fun b hb => hb.1) (fun b hb => ⟨by omega, by omega⟩) (fun b hb => hb.2) (fun b hb => hb.2)).keeps (by repeat (first | with_reducible assumption | with_reducible exact Keeps.refl _ _ | with_reducible refine Keeps.drew ?_ | with_reducible refine Keeps.drewN ?_ _ | with_reducible refine Keeps.alloc ?_ _ | with_reducible refine Keeps.setCell ?_ ?_ _ | omega | focus (simp; done) | focus (simp; omega)))).imp (fun b _ hb => hb.2), (by repeat (first | with_reducible assumption | with_reducible refine Below.drew ?_ | with_reducible refine below_drewN' ?_ _ | with_reducible refine Below.alloc ?_ ?_ _ | with_reducible refine Below.setCell ?_ ?_ _ | with_reducible exact Nat.le_refl _ | omega | focus (simp; done) | focus (simp; omega)))⟩
    · go_wp2_with fail
      refine step_and (by repeat (first | with_reducible assumption | with_reducible exact SameAt.refl _ | with_reducible refine SameAt.drew ?_ | with_reducible refine SameAt.drewN ?_ _ | with_reducible refine SameAt.alloc ?_ _ | (refine SameAt.below ?_ (by with_reducible assumption)))) (fun _ => ?_)
      repeat
        first | refine lexO_pass rfl ?_ | (refine lexO_take2 ?_ rfl (by kernel_rfl) (by with_reducible assumption) (fun w' hS K Q' hK => ?_) ?_; rotate_left; focus (have hS2 := hS.2; clear hS; go_wp2_with fail; exact hK))
      refine lexO_do rfl (fun K hK => ?_) lexO_stop
      go_wp2_with fail
      refine step_and (by repeat (first | with_reducible assumption | with_reducible exact SameAt.refl _ | with_reducible refine SameAt.drew ?_ | with_reducible refine SameAt.drewN ?_ _ | with_reducible refine SameAt.alloc ?_ _ | (refine SameAt.below ?_ (by with_reducible assumption)))) (fun _ => ?_)
      repeat
        first | refine lexO_pass rfl ?_ | (refine lexO_take2 ?_ rfl (by kernel_rfl) (by with_reducible assumption) (fun w' hS K Q' hK => ?_) ?_; rotate_left; focus (have hS2 := hS.2; clear hS; go_wp2_with fail; exact hK))
      refine lexO_do rfl (fun K hK => ?_) lexO_stop
      go_wp2_with (go_at_call 24; refine whole_c.mono ?_; rintro e w' ⟨rfl, rfl⟩)
      refine step_and (by repeat (first | with_reducible assumption | with_reducible exact SameAt.refl _ | with_reducible refine SameAt.drew ?_ | with_reducible refine SameAt.drewN ?_ _ | with_reducible refine SameAt.alloc ?_ _ | (refine SameAt.below ?_ (by with_reducible assumption)))) (fun _ => ?_)
      repeat
        first | refine lexO_pass rfl ?_ | (refine lexO_take2 ?_ rfl (by kernel_rfl) (by with_reducible assumption) (fun w' hS K Q' hK => ?_) ?_; rotate_left; focus (have hS2 := hS.2; clear hS; go_wp2_with fail; exact hK))
      refine lexO_do rfl (fun K hK => ?_) lexO_stop
      go_wp2_with fail
      refine step_last (by decide) (lexO_done ?_)
      go_wp2_with fail
      rw [wrap_bit1 (x := x20 / 8) (by omega)]
      refine wp_gen (fun W => (W.cell? ⟨w1.heap.size, 0, none⟩ = some (.slice (some ⟨w1.heap.size + 1, 0, none⟩) 5 5) ∧ W.cell? ⟨w1.heap.size, 1, none⟩ = some (.slice (some ⟨w1.heap.size + 3, 0, none⟩) 1 1) ∧ W.cell? ⟨w1.heap.size, 2, none⟩ = some (.slice none 0 0) ∧ W.cell? ⟨w1.heap.size, 3, none⟩ = some (.slice none 0 0)) ∧ (∀ j, W.frozen? ⟨w1.heap.size, j, none⟩ = false) ∧ w1.heap.size < W.heap.size ∧
        (SN W (fun b => b ≠ w1.heap.size ∧ b ≠ w.heap.size ∧ b ≠ R) (.slice (some ⟨w1.heap.size + 1, 0, none⟩) 5 5) [(x0 * 256 + x1), (x20 / 8 % 2), (x20 % 8), x21, (N : Int)] ∧ SD W (fun b => b ≠ w1.heap.size ∧ b ≠ w.heap.size ∧ b ≠ R) (.slice (some ⟨w1.heap.size + 3, 0, none⟩) 1 1) [[x4, x5, x6, x7, x8, x9, x10, x11, x12, x13, x14, x15, x16, x17, x18, x19]] ∧ SB W (fun b => b ≠ w1.heap.size ∧ b ≠ w.heap.size ∧ b ≠ R) (.slice none 0 0) []) ∧
        (W.cell? ⟨w.heap.size, 0, none⟩ = some (.slice none 0 0) ∧ W.cell? ⟨w.heap.size, 1, none⟩ = some (.slice none 0 0) ∧ W.cell? ⟨w.heap.size, 2, none⟩ = some (.slice none 0 0) ∧ W.cell? ⟨w.heap.size, 3, none⟩ = some (.slice none 0 0)) ∧
        (W.frozen? ⟨w.heap.size, 0, none⟩ = false ∧ W.frozen? ⟨w.heap.size, 1, none⟩ = false ∧ W.frozen? ⟨w.heap.size, 2, none⟩ = false ∧ W.frozen? ⟨w.heap.size, 3, none⟩ = false) ∧
        Keeps (fun b => b < w.heap.size) w W ∧ Below w.heap.size w W) ?F (fun W hW => ?_)
      case F =>
        have q0 := below_new HB.out
        have q1 : Keeps (fun b => b < w.heap.size) w w1 := Keeps.of_below q0
        have q2 : Keeps (fun b => b < w.heap.size ∧ b ≠ R) w w1 := Keeps.of_below q0
        refine ⟨⟨by go_simp, by go_simp, by go_simp, by go_simp⟩, fun j => by go_simp, by first | omega | focus (simp; done) | (simp; omega), ⟨IsSl.block (cs := #[.int .u64 (x0 * 256 + x1), .int .u64 (x20 / 8 % 2), .int .u64 (x20 % 8), .int .u64 x21, .int .u64 (N : Int)]) (e := 39) (f := (0, 0)) (by (try simp only [heap_drew]); repeat (first | (with_reducible refine heap_last ?_; focus (simp; done)) | with_reducible refine heap_past ?_ | (with_reducible refine heap_set ?_ ?_; focus (first | omega | (simp; done) | (simp; omega))) | with_reducible assumption)) ⟨by omega, by omega, by omega⟩ (by omega), SD.one (v := .slice (some ⟨g, o + 4, none⟩) 16 (c - 4)) (e := 22) (f := (0, 0)) (by (try simp only [heap_drew]); repeat (first | (with_reducible refine heap_last ?_; focus (simp; done)) | with_reducible refine heap_past ?_ | (with_reducible refine heap_set ?_ ?_; focus (first | omega | (simp; done) | (simp; omega))) | with_reducible assumption)) ⟨by omega, by omega, by omega⟩ (((HD.out.imp (fun b hb hn => ⟨hb, hn⟩ : ∀ b, b < w.heap.size → b ≠ R → b < w.heap.size ∧ b ≠ R)).keeps (by repeat (first | with_reducible assumption | with_reducible exact Keeps.refl _ _ | with_reducible refine Keeps.drew ?_ | with_reducible refine Keeps.drewN ?_ _ | with_reducible refine Keeps.alloc ?_ _ | with_reducible refine Keeps.setCell ?_ ?_ _ | omega | focus (simp; done) | focus (simp; omega)))).imp (fun b _ hb => ⟨by omega, by omega, hb.2⟩)), SB.nil _ _⟩, ⟨by go_simp, by go_simp, by go_simp, by go_simp⟩, ⟨by go_simp, by go_simp, by go_simp, by go_simp⟩, (by repeat (first | with_reducible assumption | with_reducible exact Keeps.refl _ _ | with_reducible refine Keeps.drew ?_ | with_reducible refine Keeps.drewN ?_ _ | with_reducible refine Keeps.alloc ?_ _ | with_reducible refine Keeps.setCell ?_ ?_ _ | omega | focus (simp; done) | focus (simp; omega))), (by repeat (first | with_reducible assumption | with_reducible refine Below.drew ?_ | with_reducible refine below_drewN' ?_ _ | with_reducible refine Below.alloc ?_ ?_ _ | with_reducible refine Below.setCell ?_ ?_ _ | with_reducible exact Nat.le_refl _ | omega | focus (simp; done) | focus (simp; omega)))⟩
      obtain ⟨⟨lc0, lc1, lc2, lc3⟩, lf, lL, ⟨hN, hD2, hP2⟩, ⟨wr0, wr1, wr2, wr3⟩, ⟨wf0, wf1, wf2, wf3⟩, kW, bW⟩ := hW
      have hF0 : Fills W W (w1.heap.size) W.heap.size (fun b => b ≠ w1.heap.size ∧ b ≠ w.heap.size ∧ b ≠ R) (.slice none 0 0) ((List.range 0).map (fun k => (([] : List Int), ((x0 :: x1 :: x2 :: x3 :: x4 :: x5 :: x6 :: x7 :: x8 :: x9 :: x10 :: x11 :: x12 :: x13 :: x14 :: x15 :: x16 :: x17 :: x18 :: x19 :: x20 :: x21 :: x22 :: x23 :: rest).drop (24 + 16 * k)).take 16))) := Fills.start lL (Nat.le_refl _) lc2 lf
      have HN3 := Lib.hid (And.intro hN (And.intro hD2 hP2))
      have HK := Lib.hid (And.intro kW bW)
      have wL : w.heap.size < W.heap.size := World.block_lt_of_cell? _ _ wr0
      clear hN hD2 hP2 kW bW lf
      have HF0 := Lib.hid hF0
      clear hF0 
      go_loopw [7, 49] (fun _ i wr => ∃ k : Nat, k ≤ N ∧ i = .int .i64 (k : Int) ∧ ∃ v, Fills W wr (w1.heap.size) W.heap.size (fun b => b ≠ w1.heap.size ∧ b ≠ w.heap.size ∧ b ≠ R) v ((List.range k).map (fun k => (([] : List Int), ((x0 :: x1 :: x2 :: x3 :: x4 :: x5 :: x6 :: x7 :: x8 :: x9 :: x10 :: x11 :: x12 :: x13 :: x14 :: x15 :: x16 :: x17 :: x18 :: x19 :: x20 :: x21 :: x22 :: x23 :: rest).drop (24 + 16 * k)).take 16)))) (fun _ i _ => N - (intOf i).toNat)
      case atStart => exact ⟨0, Nat.zero_le _, rfl, _, HF0.out⟩
      case round =>
        obtain ⟨k, hk, rfl, v, hF⟩ := hrel
        have HF := Lib.hid hF
        have lLr : w1.heap.size < wr.heap.size := Nat.lt_of_lt_of_le hF.lt hF.le
        have lwr : w.heap.size < wr.heap.size := Nat.lt_of_lt_of_le wL hF.le
        have leW := hF.le
        have hown := hF.rows.own
        have ef := hF.froz 2
        obtain ⟨p, c', hv⟩ := hF.rows.form
        rw [show ((List.range k).map (fun k => (([] : List Int), ((x0 :: x1 :: x2 :: x3 :: x4 :: x5 :: x6 :: x7 :: x8 :: x9 :: x10 :: x11 :: x12 :: x13 :: x14 :: x15 :: x16 :: x17 :: x18 :: x19 :: x20 :: x21 :: x22 :: x23 :: rest).drop (24 + 16 * k)).take 16))).length = k by simp] at hv
        subst hv
        have e2 := hF.parts
        have e0 := hF.other 0 _ (by decide) lc0
        have e1 := hF.other 1 _ (by decide) lc1
        have e3 := hF.other 3 _ (by decide) lc3
        have v0 := hF.keep.cell (b := w.heap.size) (by constructor <;> omega) wr0
        have v1 := hF.keep.cell (b := w.heap.size) (by constructor <;> omega) wr1
        have v2 := hF.keep.cell (b := w.heap.size) (by constructor <;> omega) wr2
        have v3 := hF.keep.cell (b := w.heap.size) (by constructor <;> omega) wr3
        have y0 := hF.keep.frozen (b := w.heap.size) (by constructor <;> omega) wL wf0
        have y1 := hF.keep.frozen (b := w.heap.size) (by constructor <;> omega) wL wf1
        have y2 := hF.keep.frozen (b := w.heap.size) (by constructor <;> omega) wL wf2
        have y3 := hF.keep.frozen (b := w.heap.size) (by constructor <;> omega) wL wf3
        have HO := Lib.hid hown
        have HKG := Lib.hid ((HK.out.1.trans (hF.keep.imp (fun b hb => ⟨by omega, by omega⟩ : ∀ b, b < w.heap.size → b < W.heap.size ∧ b ≠ w1.heap.size))).imp (fun b hb => hb.1 : ∀ b, b < w.heap.size ∧ b ≠ R → b < w.heap.size))
        clear hF hown
        by_cases hlt : k < N
        · have hat : (k : Int) < (N : Int) := by omega
          have ha1 : 24 + 16 * (k : Int) + 16 ≤ (c : Int) := by omega
          have ha3 : 40 + 16 * (k : Int) ≤ (c : Int) := by omega
          have ha2 : ¬ c = 24 + 16 * k := by omega
          have hS : SB w (fun b => b ≠ R) (.slice (some ⟨g, o + (24 + 16 * k), none⟩) 16 (c - (24 + 16 * k))) (((x0 :: x1 :: x2 :: x3 :: x4 :: x5 :: x6 :: x7 :: x8 :: x9 :: x10 :: x11 :: x12 :: x13 :: x14 :: x15 :: x16 :: x17 :: x18 :: x19 :: x20 :: x21 :: x22 :: x23 :: rest).drop (24 + 16 * k)).take 16) := by
            have := SB.from (lo := 24 + 16 * k) (hi := 24 + 16 * k + 16) (A := some ⟨g, o + (24 + 16 * k), none⟩) HR.out (by omega) (by have := HN.out; simp at *; omega) (by have := HN.out; simp at *; omega) hm (by rw [if_neg ha2])
            rwa [show 24 + 16 * k + 16 - (24 + 16 * k) = 16 by omega] at this
          have HS := Lib.hid hS
          clear hS
          go_wp2_with fail
          refine wp_region_to (W.heap.size) (by first | omega | exact Nat.le_refl _ | (simp; omega)) [14] (.q 0 (.q 1 (.q 2 (.q 3 (.q 4 (.q 5 (.q 6 (.q 7 (.q 8 (.q 9 (.q 10 (.l 11 (.l 12 (.q 13 (.l 14 .done .stop)) .stop) .stop)))))))))))) (by kernel_rfl) (by kernel_rfl) (fun _ _ d _ _ h => by cases d <;> exact h) (by simp only [Ord.fill, nthOp]; rfl) ?_; intro hSm
          repeat
            first | refine lexO_pass rfl ?_ | (refine lexO_take2 ?_ rfl (by kernel_rfl) (by with_reducible assumption) (fun w' hS K Q' hK => ?_) ?_; rotate_left; focus (have hS2 := hS.2; clear hS; go_wp2_with fail; exact hK))
          refine lexO_do rfl (fun K hK => ?_) lexO_stop
          go_wp2_with fail
          refine step_and (by repeat (first | with_reducible assumption | (with_reducible refine SameTo.refl ?_) | with_reducible refine SameTo.drew ?_ | with_reducible refine SameTo.alloc ?_ _ | (with_reducible refine SameTo.setCell ?_ ?_ _) | (refine SameTo.below ?_ (by with_reducible assumption)) | omega | exact Nat.le_refl _ | focus (simp; done) | focus (simp; omega))) (fun _ => ?_)
          repeat
            first | refine lexO_pass rfl ?_ | (refine lexO_take2 ?_ rfl (by kernel_rfl) (by with_reducible assumption) (fun w' hS K Q' hK => ?_) ?_; rotate_left; focus (have hS2 := hS.2; clear hS; go_wp2_with fail; exact hK))
          refine lexO_do rfl (fun K hK => ?_) lexO_stop
          refine wp_append_N (E := eP) (.tmp 53) (.tmp 63) 27 44 _ 48 rfl Tryz.underlying27 infoPart rfl (by decide) (by decide) (HF.out.rows.keeps (by repeat (first | with_reducible assumption | with_reducible exact Keeps.refl _ _ | with_reducible refine Keeps.drew ?_ | with_reducible refine Keeps.drewN ?_ _ | with_reducible refine Keeps.alloc ?_ _ | with_reducible refine Keeps.setCell ?_ ?_ _ | omega | focus (simp; done) | focus (simp; omega)))) wr.heap.size (fun k hk => (HO.out k hk).2) rfl rfl (cs := [.slice none 0 0, .slice (some ⟨g, o + (24 + 16 * k), none⟩) 16 (c - (24 + 16 * k))]) (y := (fun k => (([] : List Int), ((x0 :: x1 :: x2 :: x3 :: x4 :: x5 :: x6 :: x7 :: x8 :: x9 :: x10 :: x11 :: x12 :: x13 :: x14 :: x15 :: x16 :: x17 :: x18 :: x19 :: x20 :: x21 :: x22 :: x23 :: rest).drop (24 + 16 * k)).take 16)) k) ?hcells ?hrep (by simp; omega) (by first | omega | (simp; omega)) (fun q' c2 w5 hr5 hs5 hk5 hb5 => hK _ _ ?_)
          case hcells =>
            intro j u hu
            rcases j with _ | _ | j
            · simp at hu; subst hu; (go_simp <;> omega)
            · simp at hu; subst hu; (go_simp <;> omega)
            · simp at hu
          case hrep => exact ⟨_, _, rfl, SN.nil _ _, ((HS.out.imp (fun b hb hn => ⟨hb, hn⟩ : ∀ b, b < w.heap.size → b ≠ R → b < w.heap.size ∧ b ≠ R)).keeps (HKG.out.trans (by repeat (first | with_reducible assumption | with_reducible exact Keeps.refl _ _ | with_reducible refine Keeps.drew ?_ | with_reducible refine Keeps.drewN ?_ _ | with_reducible refine Keeps.alloc ?_ _ | with_reducible refine Keeps.setCell ?_ ?_ _ | omega | focus (simp; done) | focus (simp; omega))))).imp (fun b _ hb => ⟨⟨by omega, by omega, hb.2⟩, .inl (by omega)⟩)⟩
          refine step_and (SameTo.keeps (by repeat (first | with_reducible assumption | (with_reducible refine SameTo.refl ?_) | with_reducible refine SameTo.drew ?_ | with_reducible refine SameTo.alloc ?_ _ | (with_reducible refine SameTo.setCell ?_ ?_ _) | (refine SameTo.below ?_ (by with_reducible assumption)) | omega | exact Nat.le_refl _ | focus (simp; done) | focus (simp; omega))) hk5) (fun _ => ?_)
          rw [show ((List.range k).map (fun k => (([] : List Int), ((x0 :: x1 :: x2 :: x3 :: x4 :: x5 :: x6 :: x7 :: x8 :: x9 :: x10 :: x11 :: x12 :: x13 :: x14 :: x15 :: x16 :: x17 :: x18 :: x19 :: x20 :: x21 :: x22 :: x23 :: rest).drop (24 + 16 * k)).take 16))).length = k by simp] at hr5
          have hL5 : w5.cell? ⟨w1.heap.size, 2, none⟩ = some (.slice p k c') := hk5.cell lL (by go_simp)
          have hf5 : w5.frozen? ⟨w1.heap.size, 2, none⟩ = false := hk5.frozen lL (by first | omega | (simp; omega)) (by go_simp)
          have l5 : w1.heap.size < w5.heap.size := World.block_lt_of_cell? _ _ hL5
          have H5 := Lib.hid (HF.out.step (w5 := w5) (fun b hb => hb.1) (show Below wr.heap.size wr _ from (by have h0 := Below.refl wr.heap.size wr; exact (by repeat (first | with_reducible assumption | with_reducible refine Below.drew ?_ | with_reducible refine below_drewN' ?_ _ | with_reducible refine Below.alloc ?_ ?_ _ | with_reducible refine Below.setCell ?_ ?_ _ | with_reducible exact Nat.le_refl _ | omega | focus (simp; done) | focus (simp; omega))))) hr5 hs5 hk5 hb5)
          clear hr5 hs5 hk5 hb5
          repeat
            first | refine lexO_pass rfl ?_ | (refine lexO_take2 ?_ rfl (by kernel_rfl) (by with_reducible assumption) (fun w' hS K Q' hK => ?_) ?_; rotate_left; focus (have hS2 := hS.2; clear hS; go_wp2_with fail; exact hK))
          refine lexO_do rfl (fun K hK => ?_) lexO_stop
          go_wp2_with fail
          first | refine step_last (by decide) (lexO_done ?_) | refine lexO_done ?_
          go_wp2_with fail
          go_roundw
          case rel => exact ⟨k + 1, hlt, by go_num, _, by have := H5.out; rwa [range_snoc] at this⟩
          case measure => simp [intOf]; omega
        · obtain rfl : k = N := by omega
          have hat : ¬ (k : Int) < (k : Int) := by omega
          go_wp2_with fail
          refine bodyPost_ret (v := .tuple #[.agg #[.slice (some ⟨w1.heap.size + 1, 0, none⟩) 5 5, .slice (some ⟨w1.heap.size + 3, 0, none⟩) 1 1, .slice p k c', .slice none 0 0], .bool true, .bool true]) (by simp only [results, Tryz.results27]; go_simp) rfl ?_
          have hF := HF.out
          have h0 : Below w.heap.size w wr := hF.below _ _ (by omega) HK.out.2
          refine ⟨_, rfl, ((hF.lay (ok' := fun b => b ≠ w.heap.size ∧ b ≠ R) rfl HN3.out.1 HN3.out.2.1 HN3.out.2.2 (fun b hb => hb.1) (fun b hb => ⟨by omega, by omega⟩) (fun b hb => hb.2) (fun b hb => hb.2)).keeps (by repeat (first | with_reducible assumption | with_reducible exact Keeps.refl _ _ | with_reducible refine Keeps.drew ?_ | with_reducible refine Keeps.drewN ?_ _ | with_reducible refine Keeps.alloc ?_ _ | with_reducible refine Keeps.setCell ?_ ?_ _ | omega | focus (simp; done) | focus (simp; omega)))).imp (fun b _ hb => hb.2), (by repeat (first | with_reducible assumption | with_reducible refine Below.drew ?_ | with_reducible refine below_drewN' ?_ _ | with_reducible refine Below.alloc ?_ ?_ _ | with_reducible refine Below.setCell ?_ ?_ _ | with_reducible exact Nat.le_refl _ | omega | focus (simp; done) | focus (simp; omega)))⟩
  · go_wp2_with fail
    refine step_and (by repeat (first | with_reducible assumption | with_reducible exact SameAt.refl _ | with_reducible refine SameAt.drew ?_ | with_reducible refine SameAt.drewN ?_ _ | with_reducible refine SameAt.alloc ?_ _ | (refine SameAt.below ?_ (by with_reducible assumption)))) (fun _ => ?_)
    repeat
      first | refine lexO_pass rfl ?_ | (refine lexO_take2 ?_ rfl (by kernel_rfl) (by with_reducible assumption) (fun w' hS K Q' hK => ?_) ?_; rotate_left; focus (have hS2 := hS.2; clear hS; go_wp2_with fail; exact hK))
    refine lexO_do rfl (fun K hK => ?_) lexO_stop
    go_wp2_with (go_at_call 25; refine (number2_c x0 x1 h0 h1 (by go_simp) (by go_simp)).mono ?_; rintro e w' ⟨rfl, rfl⟩)
    refine step_and (by repeat (first | with_reducible assumption | with_reducible exact SameAt.refl _ | with_reducible refine SameAt.drew ?_ | with_reducible refine SameAt.drewN ?_ _ | with_reducible refine SameAt.alloc ?_ _ | (refine SameAt.below ?_ (by with_reducible assumption)))) (fun _ => ?_)
    repeat
      first | refine lexO_pass rfl ?_ | (refine lexO_take2 ?_ rfl (by kernel_rfl) (by with_reducible assumption) (fun w' hS K Q' hK => ?_) ?_; rotate_left; focus (have hS2 := hS.2; clear hS; go_wp2_with fail; exact hK))
    refine lexO_do rfl (fun K hK => ?_) lexO_stop
    go_wp2_with fail
    refine step_and (by repeat (first | with_reducible assumption | with_reducible exact SameAt.refl _ | with_reducible refine SameAt.drew ?_ | with_reducible refine SameAt.drewN ?_ _ | with_reducible refine SameAt.alloc ?_ _ | (refine SameAt.below ?_ (by with_reducible assumption)))) (fun _ => ?_)
    repeat
      first | refine lexO_pass rfl ?_ | (refine lexO_take2 ?_ rfl (by kernel_rfl) (by with_reducible assumption) (fun w' hS K Q' hK => ?_) ?_; rotate_left; focus (have hS2 := hS.2; clear hS; go_wp2_with fail; exact hK))
    refine lexO_do rfl (fun K hK => ?_) lexO_stop
    go_wp2_with (go_at_call 24; refine whole_c.mono ?_; rintro e w' ⟨rfl, rfl⟩)
    refine step_and (by repeat (first | with_reducible assumption | with_reducible exact SameAt.refl _ | with_reducible refine SameAt.drew ?_ | with_reducible refine SameAt.drewN ?_ _ | with_reducible refine SameAt.alloc ?_ _ | (refine SameAt.below ?_ (by with_reducible assumption)))) (fun _ => ?_)
    repeat
      first | refine lexO_pass rfl ?_ | (refine lexO_take2 ?_ rfl (by kernel_rfl) (by with_reducible assumption) (fun w' hS K Q' hK => ?_) ?_; rotate_left; focus (have hS2 := hS.2; clear hS; go_wp2_with fail; exact hK))
    refine lexO_do rfl (fun K hK => ?_) lexO_stop
    go_wp2_with fail
    refine step_last (by decide) (lexO_done ?_)
    go_wp2_with fail
    rw [wrap_bit1 (x := x20 / 8) (by omega)]
    refine wp_gen (fun W => (W.cell? ⟨w1.heap.size, 0, none⟩ = some (.slice (some ⟨w1.heap.size + 1, 0, none⟩) 5 5) ∧ W.cell? ⟨w1.heap.size, 1, none⟩ = some (.slice (some ⟨w1.heap.size + 3, 0, none⟩) 1 1) ∧ W.cell? ⟨w1.heap.size, 2, none⟩ = some (.slice none 0 0) ∧ W.cell? ⟨w1.heap.size, 3, none⟩ = some (.slice none 0 0)) ∧ (∀ j, W.frozen? ⟨w1.heap.size, j, none⟩ = false) ∧ w1.heap.size < W.heap.size ∧
      (SN W (fun b => b ≠ w1.heap.size ∧ b ≠ w.heap.size ∧ b ≠ R) (.slice (some ⟨w1.heap.size + 1, 0, none⟩) 5 5) [(x0 * 256 + x1), (x20 / 8 % 2), (x20 % 8), x21, (N : Int)] ∧ SD W (fun b => b ≠ w1.heap.size ∧ b ≠ w.heap.size ∧ b ≠ R) (.slice (some ⟨w1.heap.size + 3, 0, none⟩) 1 1) [[x4, x5, x6, x7, x8, x9, x10, x11, x12, x13, x14, x15, x16, x17, x18, x19]] ∧ SB W (fun b => b ≠ w1.heap.size ∧ b ≠ w.heap.size ∧ b ≠ R) (.slice none 0 0) []) ∧
      (W.cell? ⟨w.heap.size, 0, none⟩ = some (.slice none 0 0) ∧ W.cell? ⟨w.heap.size, 1, none⟩ = some (.slice none 0 0) ∧ W.cell? ⟨w.heap.size, 2, none⟩ = some (.slice none 0 0) ∧ W.cell? ⟨w.heap.size, 3, none⟩ = some (.slice none 0 0)) ∧
      (W.frozen? ⟨w.heap.size, 0, none⟩ = false ∧ W.frozen? ⟨w.heap.size, 1, none⟩ = false ∧ W.frozen? ⟨w.heap.size, 2, none⟩ = false ∧ W.frozen? ⟨w.heap.size, 3, none⟩ = false) ∧
      Keeps (fun b => b < w.heap.size) w W ∧ Below w.heap.size w W) ?F (fun W hW => ?_)
    case F =>
      have q0 := below_new HB.out
      have q1 : Keeps (fun b => b < w.heap.size) w w1 := Keeps.of_below q0
      have q2 : Keeps (fun b => b < w.heap.size ∧ b ≠ R) w w1 := Keeps.of_below q0
      refine ⟨⟨by go_simp, by go_simp, by go_simp, by go_simp⟩, fun j => by go_simp, by first | omega | focus (simp; done) | (simp; omega), ⟨IsSl.block (cs := #[.int .u64 (x0 * 256 + x1), .int .u64 (x20 / 8 % 2), .int .u64 (x20 % 8), .int .u64 x21, .int .u64 (N : Int)]) (e := 39) (f := (0, 0)) (by (try simp only [heap_drew]); repeat (first | (with_reducible refine heap_last ?_; focus (simp; done)) | with_reducible refine heap_past ?_ | (with_reducible refine heap_set ?_ ?_; focus (first | omega | (simp; done) | (simp; omega))) | with_reducible assumption)) ⟨by omega, by omega, by omega⟩ (by omega), SD.one (v := .slice (some ⟨g, o + 4, none⟩) 16 (c - 4)) (e := 22) (f := (0, 0)) (by (try simp only [heap_drew]); repeat (first | (with_reducible refine heap_last ?_; focus (simp; done)) | with_reducible refine heap_past ?_ | (with_reducible refine heap_set ?_ ?_; focus (first | omega | (simp; done) | (simp; omega))) | with_reducible assumption)) ⟨by omega, by omega, by omega⟩ (((HD.out.imp (fun b hb hn => ⟨hb, hn⟩ : ∀ b, b < w.heap.size → b ≠ R → b < w.heap.size ∧ b ≠ R)).keeps (by repeat (first | with_reducible assumption | with_reducible exact Keeps.refl _ _ | with_reducible refine Keeps.drew ?_ | with_reducible refine Keeps.drewN ?_ _ | with_reducible refine Keeps.alloc ?_ _ | with_reducible refine Keeps.setCell ?_ ?_ _ | omega | focus (simp; done) | focus (simp; omega)))).imp (fun b _ hb => ⟨by omega, by omega, hb.2⟩)), SB.nil _ _⟩, ⟨by go_simp, by go_simp, by go_simp, by go_simp⟩, ⟨by go_simp, by go_simp, by go_simp, by go_simp⟩, (by repeat (first | with_reducible assumption | with_reducible exact Keeps.refl _ _ | with_reducible refine Keeps.drew ?_ | with_reducible refine Keeps.drewN ?_ _ | with_reducible refine Keeps.alloc ?_ _ | with_reducible refine Keeps.setCell ?_ ?_ _ | omega | focus (simp; done) | focus (simp; omega))), (by repeat (first | with_reducible assumption | with_reducible refine Below.drew ?_ | with_reducible refine below_drewN' ?_ _ | with_reducible refine Below.alloc ?_ ?_ _ | with_reducible refine Below.setCell ?_ ?_ _ | with_reducible exact Nat.le_refl _ | omega | focus (simp; done) | focus (simp; omega)))⟩
    obtain ⟨⟨lc0, lc1, lc2, lc3⟩, lf, lL, ⟨hN, hD2, hP2⟩, ⟨wr0, wr1, wr2, wr3⟩, ⟨wf0, wf1, wf2, wf3⟩, kW, bW⟩ := hW
    have hF0 : Fills W W (w1.heap.size) W.heap.size (fun b => b ≠ w1.heap.size ∧ b ≠ w.heap.size ∧ b ≠ R) (.slice none 0 0) ((List.range 0).map (fun k => (([] : List Int), ((x0 :: x1 :: x2 :: x3 :: x4 :: x5 :: x6 :: x7 :: x8 :: x9 :: x10 :: x11 :: x12 :: x13 :: x14 :: x15 :: x16 :: x17 :: x18 :: x19 :: x20 :: x21 :: x22 :: x23 :: rest).drop (24 + 16 * k)).take 16))) := Fills.start lL (Nat.le_refl _) lc2 lf
    have HN3 := Lib.hid (And.intro hN (And.intro hD2 hP2))
    have HK := Lib.hid (And.intro kW bW)
    have wL : w.heap.size < W.heap.size := World.block_lt_of_cell? _ _ wr0
    clear hN hD2 hP2 kW bW lf
    have HF0 := Lib.hid hF0
    clear hF0 
    go_loopw [7, 49] (fun _ i wr => ∃ k : Nat, k ≤ N ∧ i = .int .i64 (k : Int) ∧ ∃ v, Fills W wr (w1.heap.size) W.heap.size (fun b => b ≠ w1.heap.size ∧ b ≠ w.heap.size ∧ b ≠ R) v ((List.range k).map (fun k => (([] : List Int), ((x0 :: x1 :: x2 :: x3 :: x4 :: x5 :: x6 :: x7 :: x8 :: x9 :: x10 :: x11 :: x12 :: x13 :: x14 :: x15 :: x16 :: x17 :: x18 :: x19 :: x20 :: x21 :: x22 :: x23 :: rest).drop (24 + 16 * k)).take 16)))) (fun _ i _ => N - (intOf i).toNat)
    case atStart => exact ⟨0, Nat.zero_le _, rfl, _, HF0.out⟩
    case round =>
      obtain ⟨k, hk, rfl, v, hF⟩ := hrel
      have HF := Lib.hid hF
      have lLr : w1.heap.size < wr.heap.size := Nat.lt_of_lt_of_le hF.lt hF.le
      have lwr : w.heap.size < wr.heap.size := Nat.lt_of_lt_of_le wL hF.le
      have leW := hF.le
      have hown := hF.rows.own
      have ef := hF.froz 2
      obtain ⟨p, c', hv⟩ := hF.rows.form
      rw [show ((List.range k).map (fun k => (([] : List Int), ((x0 :: x1 :: x2 :: x3 :: x4 :: x5 :: x6 :: x7 :: x8 :: x9 :: x10 :: x11 :: x12 :: x13 :: x14 :: x15 :: x16 :: x17 :: x18 :: x19 :: x20 :: x21 :: x22 :: x23 :: rest).drop (24 + 16 * k)).take 16))).length = k by simp] at hv
      subst hv
      have e2 := hF.parts
      have e0 := hF.other 0 _ (by decide) lc0
      have e1 := hF.other 1 _ (by decide) lc1
      have e3 := hF.other 3 _ (by decide) lc3
      have v0 := hF.keep.cell (b := w.heap.size) (by constructor <;> omega) wr0
      have v1 := hF.keep.cell (b := w.heap.size) (by constructor <;> omega) wr1
      have v2 := hF.keep.cell (b := w.heap.size) (by constructor <;> omega) wr2
      have v3 := hF.keep.cell (b := w.heap.size) (by constructor <;> omega) wr3
      have y0 := hF.keep.frozen (b := w.heap.size) (by constructor <;> omega) wL wf0
      have y1 := hF.keep.frozen (b := w.heap.size) (by constructor <;> omega) wL wf1
      have y2 := hF.keep.frozen (b := w.heap.size) (by constructor <;> omega) wL wf2
      have y3 := hF.keep.frozen (b := w.heap.size) (by constructor <;> omega) wL wf3
      have HO := Lib.hid hown
      have HKG := Lib.hid ((HK.out.1.trans (hF.keep.imp (fun b hb => ⟨by omega, by omega⟩ : ∀ b, b < w.heap.size → b < W.heap.size ∧ b ≠ w1.heap.size))).imp (fun b hb => hb.1 : ∀ b, b < w.heap.size ∧ b ≠ R → b < w.heap.size))
      clear hF hown
      by_cases hlt : k < N
      · have hat : (k : Int) < (N : Int) := by omega
        have ha1 : 24 + 16 * (k : Int) + 16 ≤ (c : Int) := by omega
        have ha3 : 40 + 16 * (k : Int) ≤ (c : Int) := by omega
        have ha2 : ¬ c = 24 + 16 * k := by omega
        have hS : SB w (fun b => b ≠ R) (.slice (some ⟨g, o + (24 + 16 * k), none⟩) 16 (c - (24 + 16 * k))) (((x0 :: x1 :: x2 :: x3 :: x4 :: x5 :: x6 :: x7 :: x8 :: x9 :: x10 :: x11 :: x12 :: x13 :: x14 :: x15 :: x16 :: x17 :: x18 :: x19 :: x20 :: x21 :: x22 :: x23 :: rest).drop (24 + 16 * k)).take 16) := by
          have := SB.from (lo := 24 + 16 * k) (hi := 24 + 16 * k + 16) (A := some ⟨g, o + (24 + 16 * k), none⟩) HR.out (by omega) (by have := HN.out; simp at *; omega) (by have := HN.out; simp at *; omega) hm (by rw [if_neg ha2])
          rwa [show 24 + 16 * k + 16 - (24 + 16 * k) = 16 by omega] at this
        have HS := Lib.hid hS
        clear hS
        go_wp2_with fail
        refine wp_region_to (W.heap.size) (by first | omega | exact Nat.le_refl _ | (simp; omega)) [14] (.q 0 (.q 1 (.q 2 (.q 3 (.q 4 (.q 5 (.q 6 (.q 7 (.q 8 (.q 9 (.q 10 (.l 11 (.l 12 (.q 13 (.l 14 .done .stop)) .stop) .stop)))))))))))) (by kernel_rfl) (by kernel_rfl) (fun _ _ d _ _ h => by cases d <;> exact h) (by simp only [Ord.fill, nthOp]; rfl) ?_; intro hSm
        repeat
          first | refine lexO_pass rfl ?_ | (refine lexO_take2 ?_ rfl (by kernel_rfl) (by with_reducible assumption) (fun w' hS K Q' hK => ?_) ?_; rotate_left; focus (have hS2 := hS.2; clear hS; go_wp2_with fail; exact hK))
        refine lexO_do rfl (fun K hK => ?_) lexO_stop
        go_wp2_with fail
        refine step_and (by repeat (first | with_reducible assumption | (with_reducible refine SameTo.refl ?_) | with_reducible refine SameTo.drew ?_ | with_reducible refine SameTo.alloc ?_ _ | (with_reducible refine SameTo.setCell ?_ ?_ _) | (refine SameTo.below ?_ (by with_reducible assumption)) | omega | exact Nat.le_refl _ | focus (simp; done) | focus (simp; omega))) (fun _ => ?_)
        repeat
          first | refine lexO_pass rfl ?_ | (refine lexO_take2 ?_ rfl (by kernel_rfl) (by with_reducible assumption) (fun w' hS K Q' hK => ?_) ?_; rotate_left; focus (have hS2 := hS.2; clear hS; go_wp2_with fail; exact hK))
        refine lexO_do rfl (fun K hK => ?_) lexO_stop
        refine wp_append_N (E := eP) (.tmp 53) (.tmp 63) 27 44 _ 48 rfl Tryz.underlying27 infoPart rfl (by decide) (by decide) (HF.out.rows.keeps (by repeat (first | with_reducible assumption | with_reducible exact Keeps.refl _ _ | with_reducible refine Keeps.drew ?_ | with_reducible refine Keeps.drewN ?_ _ | with_reducible refine Keeps.alloc ?_ _ | with_reducible refine Keeps.setCell ?_ ?_ _ | omega | focus (simp; done) | focus (simp; omega)))) wr.heap.size (fun k hk => (HO.out k hk).2) rfl rfl (cs := [.slice none 0 0, .slice (some ⟨g, o + (24 + 16 * k), none⟩) 16 (c - (24 + 16 * k))]) (y := (fun k => (([] : List Int), ((x0 :: x1 :: x2 :: x3 :: x4 :: x5 :: x6 :: x7 :: x8 :: x9 :: x10 :: x11 :: x12 :: x13 :: x14 :: x15 :: x16 :: x17 :: x18 :: x19 :: x20 :: x21 :: x22 :: x23 :: rest).drop (24 + 16 * k)).take 16)) k) ?hcells ?hrep (by simp; omega) (by first | omega | (simp; omega)) (fun q' c2 w5 hr5 hs5 hk5 hb5 => hK _ _ ?_)
        case hcells =>
          intro j u hu
          rcases j with _ | _ | j
          · simp at hu; subst hu; (go_simp <;> omega)
          · simp at hu; subst hu; (go_simp <;> omega)
          · simp at hu
        case hrep => exact ⟨_, _, rfl, SN.nil _ _, ((HS.out.imp (fun b hb hn => ⟨hb, hn⟩ : ∀ b, b < w.heap.size → b ≠ R → b < w.heap.size ∧ b ≠ R)).keeps (HKG.out.trans (by repeat (first | with_reducible assumption | with_reducible exact Keeps.refl _ _ | with_reducible refine Keeps.drew ?_ | with_reducible refine Keeps.drewN ?_ _ | with_reducible refine Keeps.alloc ?_ _ | with_reducible refine Keeps.setCell ?_ ?_ _ | omega | focus (simp; done) | focus (simp; omega))))).imp (fun b _ hb => ⟨⟨by omega, by omega, hb.2⟩, .inl (by omega)⟩)⟩
        refine step_and (SameTo.keeps (by repeat (first | with_reducible assumption | (with_reducible refine SameTo.refl ?_) | with_reducible refine SameTo.drew ?_ | with_reducible refine SameTo.alloc ?_ _ | (with_reducible refine SameTo.setCell ?_ ?_ _) | (refine SameTo.below ?_ (by with_reducible assumption)) | omega | exact Nat.le_refl _ | focus (simp; done) | focus (simp; omega))) hk5) (fun _ => ?_)
        rw [show ((List.range k).map (fun k => (([] : List Int), ((x0 :: x1 :: x2 :: x3 :: x4 :: x5 :: x6 :: x7 :: x8 :: x9 :: x10 :: x11 :: x12 :: x13 :: x14 :: x15 :: x16 :: x17 :: x18 :: x19 :: x20 :: x21 :: x22 :: x23 :: rest).drop (24 + 16 * k)).take 16))).length = k by simp] at hr5
        have hL5 : w5.cell? ⟨w1.heap.size, 2, none⟩ = some (.slice p k c') := hk5.cell lL (by go_simp)
        have hf5 : w5.frozen? ⟨w1.heap.size, 2, none⟩ = false := hk5.frozen lL (by first | omega | (simp; omega)) (by go_simp)
        have l5 : w1.heap.size < w5.heap.size := World.block_lt_of_cell? _ _ hL5
        have H5 := Lib.hid (HF.out.step (w5 := w5) (fun b hb => hb.1) (show Below wr.heap.size wr _ from (by have h0 := Below.refl wr.heap.size wr; exact (by repeat (first | with_reducible assumption | with_reducible refine Below.drew ?_ | with_reducible refine below_drewN' ?_ _ | with_reducible refine Below.alloc ?_ ?_ _ | with_reducible refine Below.setCell ?_ ?_ _ | with_reducible exact Nat.le_refl _ | omega | focus (simp; done) | focus (simp; omega))))) hr5 hs5 hk5 hb5)
        clear hr5 hs5 hk5 hb5
        repeat
          first | refine lexO_pass rfl ?_ | (refine lexO_take2 ?_ rfl (by kernel_rfl) (by with_reducible assumption) (fun w' hS K Q' hK => ?_) ?_; rotate_left; focus (have hS2 := hS.2; clear hS; go_wp2_with fail; exact hK))
        refine lexO_do rfl (fun K hK => ?_) lexO_stop
        go_wp2_with fail
        first | refine step_last (by decide) (lexO_done ?_) | refine lexO_done ?_
        go_wp2_with fail
        go_roundw
        case rel => exact ⟨k + 1, hlt, by go_num, _, by have := H5.out; rwa [range_snoc] at this⟩
        case measure => simp [intOf]; omega
      · obtain rfl : k = N := by omega
        have hat : ¬ (k : Int) < (k : Int) := by omega
        go_wp2_with fail
        refine bodyPost_ret (v := .tuple #[.agg #[.slice (some ⟨w1.heap.size + 1, 0, none⟩) 5 5, .slice (some ⟨w1.heap.size + 3, 0, none⟩) 1 1, .slice p k c', .slice none 0 0], .bool true, .bool true]) (by simp only [results, Tryz.results27]; go_simp) rfl ?_
        have hF := HF.out
        have h0 : Below w.heap.size w wr := hF.below _ _ (by omega) HK.out.2
        refine ⟨_, rfl, ((hF.lay (ok' := fun b => b ≠ w.heap.size ∧ b ≠ R) rfl HN3.out.1 HN3.out.2.1 HN3.out.2.2 (fun b hb => hb.1) (fun b hb => ⟨by omega, by omega⟩) (fun b hb => hb.2) (fun b hb => hb.2)).keeps (by repeat (first | with_reducible assumption | with_reducible exact Keeps.refl _ _ | with_reducible refine Keeps.drew ?_ | with_reducible refine Keeps.drewN ?_ _ | with_reducible refine Keeps.alloc ?_ _ | with_reducible refine Keeps.setCell ?_ ?_ _ | omega | focus (simp; done) | focus (simp; omega)))).imp (fun b _ hb => hb.2), (by repeat (first | with_reducible assumption | with_reducible refine Below.drew ?_ | with_reducible refine below_drewN' ?_ _ | with_reducible refine Below.alloc ?_ ?_ _ | with_reducible refine Below.setCell ?_ ?_ _ | with_reducible exact Nat.le_refl _ | omega | focus (simp; done) | focus (simp; omega)))⟩

set_option maxRecDepth 100000 in
set_option maxHeartbeats 1000000 in
theorem query_no {g o n c N R : Nat} (x0 x1 x2 x3 x4 x5 x6 x7 x8 x9 x10 x11 x12 x13 x14 x15 x16 x17 x18 x19 x20 x21 x22 x23 : Int) {rest : List Int} {w : World} (hn : n = rest.length + 24) (hc : n ≤ c) (hm : c ≤ 9223372036854775807) (hN : x22 * 256 + x23 = (N : Int)) (hmn : n < 24 + 16 * N)
    (hb : ∀ z ∈ [x0, x1, x2, x3, x4, x5, x6, x7, x8, x9, x10, x11, x12, x13, x14, x15, x16, x17, x18, x19, x20, x21, x22, x23], 0 ≤ z ∧ z ≤ 255) (hr : RowAt w (fun b => b ≠ R) (some ⟨g, o, none⟩) ((x0 :: x1 :: x2 :: x3 :: x4 :: x5 :: x6 :: x7 :: x8 :: x9 :: x10 :: x11 :: x12 :: x13 :: x14 :: x15 :: x16 :: x17 :: x18 :: x19 :: x20 :: x21 :: x22 :: x23 :: rest).map (.int .u8))) :
    Calls Tryz.prog 27 #[.slice (some ⟨g, o, none⟩) n c] w fun e w' => e = .returned (.tuple #[zlay, .bool false, .bool true]) ∧ Below w.heap.size w w' := by
  have hnm : 24 ≤ n := by omega
  have b22 : (22 : Int) ≤ (c : Int) := by omega
  have b24 : (24 : Int) ≤ (c : Int) := by omega
  have e22 : ¬ (c = 22) := by omega
  have hmle : (n : Int) < 24 + 16 * (N : Int) := by omega
  obtain ⟨hg, hcell⟩ := rowCells hr (by simp)
  have c22 := hcell 22 _ (by simp; rfl)
  have c23 := hcell 23 _ (by simp; rfl)
  have h22 := hb x22 (by simp)
  have h23 := hb x23 (by simp)
  clear hn hr hcell hb
  have lg1 : g < w.heap.size + 1 := by omega
  go_enter Tryz.func27, Tryz.ntmps27
  go_wp2_with (first | (go_at_call 25; refine (number2_c x22 x23 h22 h23 (by go_simp) (by go_simp)).mono ?_; rintro e w' ⟨rfl, rfl⟩) | (go_at_call 23; refine none_c.mono ?_; rintro e w' ⟨rfl, rfl⟩))
  refine bodyPost_ret (v := .tuple #[zlay, .bool false, .bool true]) (by simp only [results, Tryz.results27]; go_simp) rfl ?_
  have h0 := Below.refl w.heap.size w
  exact ⟨rfl, (by repeat (first | with_reducible assumption | with_reducible refine Below.drew ?_ | with_reducible refine below_drewN' ?_ _ | with_reducible refine Below.alloc ?_ ?_ _ | with_reducible refine Below.setCell ?_ ?_ _ | with_reducible exact Nat.le_refl _ | omega | focus (simp; done) | focus (simp; omega)))⟩

theorem helpOf_query {bs : List Int} (hb : ∀ z ∈ bs, 0 ≤ z ∧ z ≤ 255) (h24 : 24 ≤ bs.length) : HelpOf 27 bs (some (dQuery bs)) := by
  intro R v w hR h
  obtain ⟨p, c, rfl, hnc, hc, hp, hr⟩ := h
  obtain ⟨x0, x1, x2, x3, x4, x5, x6, x7, x8, x9, x10, x11, x12, x13, x14, x15, x16, x17, x18, x19, x20, x21, x22, x23, rest, rfl⟩ := long24 h24
  rcases hr with h | ⟨b, o, rfl, g1, g2, g3⟩
  · simp at h
  · have hb' : ∀ z ∈ [x0, x1, x2, x3, x4, x5, x6, x7, x8, x9, x10, x11, x12, x13, x14, x15, x16, x17, x18, x19, x20, x21, x22, x23], 0 ≤ z ∧ z ≤ 255 := fun z hz => hb z (List.mem_append_left rest hz)
    have h22 := hb' x22 (by simp)
    have h23 := hb' x23 (by simp)
    have hr' : RowAt w (fun b => b ≠ R) (some ⟨b, o, none⟩) ((x0 :: x1 :: x2 :: x3 :: x4 :: x5 :: x6 :: x7 :: x8 :: x9 :: x10 :: x11 :: x12 :: x13 :: x14 :: x15 :: x16 :: x17 :: x18 :: x19 :: x20 :: x21 :: x22 :: x23 :: rest).map (.int .u8)) := .inr ⟨b, o, rfl, g1, g2, g3⟩
    by_cases hm : 24 + 16 * (x22 * 256 + x23) ≤ ((x0 :: x1 :: x2 :: x3 :: x4 :: x5 :: x6 :: x7 :: x8 :: x9 :: x10 :: x11 :: x12 :: x13 :: x14 :: x15 :: x16 :: x17 :: x18 :: x19 :: x20 :: x21 :: x22 :: x23 :: rest).length : Int)
    · rw [dQuery_yes (N := (x22 * 256 + x23).toNat) hm (by omega)]
      refine (query_yes x0 x1 x2 x3 x4 x5 x6 x7 x8 x9 x10 x11 x12 x13 x14 x15 x16 x17 x18 x19 x20 x21 x22 x23 (N := (x22 * 256 + x23).toNat) (rest := rest) (by simp) hnc hc (by omega) (by simp only [List.length_cons] at hm ⊢; omega) hb' hR hr').mono ?_
      rintro e w' ⟨v, he, hi, hb⟩
      exact ⟨hb, v, _, hi, .inr (.inr ⟨rfl, he⟩)⟩
    · rw [dQuery_no hm]
      exact (query_no x0 x1 x2 x3 x4 x5 x6 x7 x8 x9 x10 x11 x12 x13 x14 x15 x16 x17 x18 x19 x20 x21 x22 x23 (N := (x22 * 256 + x23).toNat) (rest := rest) (by simp) hnc hc (by omega) (by simp only [List.length_cons] at hm ⊢; omega) hb' hr').mono fun e w' h => ⟨h.2, _, _, layOn_zlay2 _ _, .inr (.inl ⟨rfl, h.1⟩)⟩
end Go.Proofs.YtaejicpdaldpiaaGreat
