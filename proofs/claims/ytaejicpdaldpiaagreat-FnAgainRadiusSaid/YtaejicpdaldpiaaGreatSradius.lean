/-
  spec.radius.
-/
import Derived.Test.YtaejicpdaldpiaaGreatHelp
import Derived.Test.YtaejicpdaldpiaaGreatAttr
import Derived.Test.YtaejicpdaldpiaaGreatTwo
import Derived.Deep.DeepCutAuto
namespace Go.Proofs.YtaejicpdaldpiaaGreat
open Go Go.RowKit

def AttrsPost (all : List Int) (nums : List Int) (data : List (List Int)) (R : Nat) (e : Ending) (w' : World) : Prop :=
  (dAttrs all = none ∧ e = .returned (.tuple #[zlay, .bool false, .bool false])) ∨ (dAttrs all = some none ∧ e = .returned (.tuple #[zlay, .bool false, .bool true])) ∨
    ∃ ps v, dAttrs all = some (some ps) ∧ e = .returned (.tuple #[v, .bool true, .bool true]) ∧ LayOn w' (fun b => b ≠ R) v ⟨nums, data, ps, rPay ps⟩

set_option maxRecDepth 100000 in
set_option maxHeartbeats 8000000 in
theorem radius_walk {g o n c R : Nat} (x0 x1 x2 x3 : Int) {rest : List Int} {w : World} (hn : n = rest.length + 4) (h20 : 20 ≤ n) (hc : n ≤ c) (hm : c ≤ 9223372036854775807) (hLIM : n ≤ 2147483648) (hx : x2 * 256 + x3 = (n : Int)) (hgR : g ≠ R) {all : List Int} (hAll : all = (x0 :: x1 :: x2 :: x3 :: rest).drop 20) (hall : ∀ z ∈ x0 :: x1 :: x2 :: x3 :: rest, 0 ≤ z ∧ z ≤ 255)
    (hR : R < w.heap.size) (hr : RowAt w (fun b => b ≠ R) (some ⟨g, o, none⟩) ((x0 :: x1 :: x2 :: x3 :: rest).map (.int .u8))) :
    Calls Tryz.prog 30 #[.slice (some ⟨g, o, none⟩) n c] w fun e w' => AttrsPost all [x0, x1, (n : Int)] [((x0 :: x1 :: x2 :: x3 :: rest).drop 4).take 16] R e w' ∧ Below w.heap.size w w' := by
  have HA := Lib.hid hAll
  clear hAll
  have HBB := Lib.hid hall
  have HR := Lib.hid hr
  have HN := Lib.hid hn
  have h0 := hall x0 (by simp)
  have h1 := hall x1 (by simp)
  have h2 := hall x2 (by simp)
  have h3 := hall x3 (by simp)
  clear hall hn
  have b2 : (2 : Int) ≤ (c : Int) := by omega
  have b4 : (4 : Int) ≤ (c : Int) := by omega
  have b20 : (20 : Int) ≤ (c : Int) := by omega
  have n0 : (0 : Int) < (n : Int) := by omega
  have n1 : (1 : Int) < (n : Int) := by omega
  have n4 : (4 : Int) ≤ (n : Int) := by omega
  have n20 : (20 : Int) ≤ (n : Int) := by omega
  have ec2 : ¬ (c = 2) := by omega
  have ec4 : ¬ (c = 4) := by omega
  obtain ⟨AS, hAS⟩ : ∃ A, (if c = 20 then some (⟨g, o, none⟩ : Addr) else some ⟨g, o + 20, none⟩) = A := ⟨_, rfl⟩
  have HD1 := Lib.hid (show SB w (fun b => b ≠ R) (.slice (some ⟨g, o + 4, none⟩) 16 (c - 4)) (((x0 :: x1 :: x2 :: x3 :: rest).drop 4).take 16) from SB.from (lo := 4) (hi := 20) hr (by omega) (by have := HN.out; simp; omega) (by have := HN.out; simp; omega) hm (by rw [if_neg (by omega)]))
  obtain ⟨hg, hcell⟩ := rowCells hr (by simp)
  have c0 := hcell 0 _ (by simp; rfl)
  have c1 := hcell 1 _ (by simp; rfl)
  have c2 := hcell 2 _ (by simp; rfl)
  have c3 := hcell 3 _ (by simp; rfl)
  rw [Nat.add_zero] at c0
  have HAS := Lib.hid hAS
  clear hr hcell
  have lg1 : g < w.heap.size + 1 := by omega
  have lg2 : g < w.heap.size + 1 + 1 := by omega
  have lg3 : g < w.heap.size + 1 + 1 + 1 := by omega
  have lg4 : g < w.heap.size + 1 + 1 + 1 + 1 := by omega
  go_enter Tryz.func30, Tryz.ntmps30
  go_upto_region 4 with (go_at_call 25; refine (number2_c x2 x3 h2 h3 (by go_simp) (by go_simp)).mono ?_; rintro e w' ⟨rfl, rfl⟩)
  go_cut [6] (fun s wx => ∃ L NB, s = .pointer (some ⟨L, 0, none⟩) ∧ (w.heap.size < L ∧ w.heap.size < NB ∧ L ≠ NB ∧ L < wx.heap.size) ∧ wx.heap[NB]? = some (.cells #[.int .u64 x0, .int .u64 x1, .int .u64 (n : Int)] 39 (0, 0)) ∧
    (wx.cell? ⟨L, 0, none⟩ = some (.slice (some ⟨NB, 0, none⟩) 3 3) ∧ wx.cell? ⟨L, 1, none⟩ = some (.slice none 0 0) ∧ wx.cell? ⟨L, 2, none⟩ = some (.slice none 0 0) ∧ wx.cell? ⟨L, 3, none⟩ = some (.slice none 0 0)) ∧ (∀ j, wx.frozen? ⟨L, j, none⟩ = false) ∧ Below w.heap.size w wx ∧
    (wx.cell? ⟨w.heap.size, 0, none⟩ = some (.slice none 0 0) ∧ wx.cell? ⟨w.heap.size, 1, none⟩ = some (.slice none 0 0) ∧ wx.cell? ⟨w.heap.size, 2, none⟩ = some (.slice none 0 0) ∧ wx.cell? ⟨w.heap.size, 3, none⟩ = some (.slice none 0 0)) ∧
    (wx.frozen? ⟨w.heap.size, 0, none⟩ = false ∧ wx.frozen? ⟨w.heap.size, 1, none⟩ = false ∧ wx.frozen? ⟨w.heap.size, 2, none⟩ = false ∧ wx.frozen? ⟨w.heap.size, 3, none⟩ = false))
  case first =>
    refine wp_region_same [10,11,13] (.q 0 (.q 1 (.q 2 (.q 3 (.q 4 (.q 5 (.q 6 (.q 7 (.q 8 (.q 9 (.l 10 (.l 11 (.l 12 (.l 13 .done .stop) .stop) (.l 12 (.l 11 (.l 13 .done .stop) .stop) .stop)) (.l 12 (.l 10 (.l 11 (.l 13 .done .stop) .stop) .stop) .stop)))))))))))) (by kernel_rfl) (by kernel_rfl) (fun _ _ d _ _ h => by cases d <;> exact h) (by simp only [Ord.fill, nthOp]; rfl) ?_; intro hSm
    repeat
      first | refine lexO_pass rfl ?_ | (refine lexO_take2 ?_ rfl (by kernel_rfl) (by with_reducible assumption) (fun w' hS K Q' hK => ?_) ?_; rotate_left; focus (have hS2 := hS.2; clear hS; go_wp2_with fail; exact hK))
    refine lexO_do rfl (fun K hK => ?_) (lexO_do rfl (fun K hK => ?_) lexO_stop)
    · go_wp2_with fail
      refine step_and (by repeat (first | with_reducible assumption | with_reducible exact SameAt.refl _ | with_reducible refine SameAt.drew ?_ | with_reducible refine SameAt.drewN ?_ _ | with_reducible refine SameAt.alloc ?_ _ | (refine SameAt.below ?_ (by with_reducible assumption)))) (fun _ => ?_)
      repeat
        first | refine lexO_pass rfl ?_ | (refine lexO_take2 ?_ rfl (by kernel_rfl) (by with_reducible assumption) (fun w' hS K Q' hK => ?_) ?_; rotate_left; focus (have hS2 := hS.2; clear hS; go_wp2_with fail; exact hK))
      refine lexO_do rfl (fun K hK => ?_) (lexO_do rfl (fun K hK => ?_) lexO_stop)
      · go_wp2_with (go_at_call 24; refine whole_c.mono ?_; rintro e w' ⟨rfl, rfl⟩)
        refine step_and (by repeat (first | with_reducible assumption | with_reducible exact SameAt.refl _ | with_reducible refine SameAt.drew ?_ | with_reducible refine SameAt.drewN ?_ _ | with_reducible refine SameAt.alloc ?_ _ | (refine SameAt.below ?_ (by with_reducible assumption)))) (fun _ => ?_)
        repeat
          first | refine lexO_pass rfl ?_ | (refine lexO_take2 ?_ rfl (by kernel_rfl) (by with_reducible assumption) (fun w' hS K Q' hK => ?_) ?_; rotate_left; focus (have hS2 := hS.2; clear hS; go_wp2_with fail; exact hK))
        refine lexO_do rfl (fun K hK => ?_) lexO_stop
        go_wp2_with fail
        refine step_and (by repeat (first | with_reducible assumption | with_reducible exact SameAt.refl _ | with_reducible refine SameAt.drew ?_ | with_reducible refine SameAt.drewN ?_ _ | with_reducible refine SameAt.alloc ?_ _ | (refine SameAt.below ?_ (by with_reducible assumption)))) (fun _ => ?_)
        repeat
          first | refine lexO_pass rfl ?_ | (refine lexO_take2 ?_ rfl (by kernel_rfl) (by with_reducible assumption) (fun w' hS K Q' hK => ?_) ?_; rotate_left; focus (have hS2 := hS.2; clear hS; go_wp2_with fail; exact hK))
        refine lexO_do rfl (fun K hK => ?_) lexO_stop
        go_wp2_with fail
        first | refine step_last (by decide) (lexO_done ?_) | refine lexO_done ?_
        go_wp2_with fail
        go_meet
        exact ⟨w.heap.size + 1 + 1 + 1, w.heap.size + 1, rfl, ⟨by first | omega | (simp; omega), by first | omega | (simp; omega), by first | omega | (simp; omega), by first | omega | (simp; done) | (simp; omega)⟩, (by (try simp only [heap_drew]); repeat (first | (with_reducible refine heap_last ?_; focus (simp; done)) | with_reducible refine heap_past ?_)), ⟨by go_simp, by go_simp, by go_simp, by go_simp⟩, fun j => by go_simp, by have h0 := Below.refl w.heap.size w; exact (by repeat (first | with_reducible assumption | with_reducible refine Below.drew ?_ | with_reducible refine below_drewN' ?_ _ | with_reducible refine Below.alloc ?_ ?_ _ | with_reducible refine Below.setCell ?_ ?_ _ | with_reducible exact Nat.le_refl _ | omega | focus (simp; done) | focus (simp; omega))), ⟨by go_simp, by go_simp, by go_simp, by go_simp⟩, ⟨by go_simp, by go_simp, by go_simp, by go_simp⟩⟩
      · go_wp2_with fail
        refine step_and (by repeat (first | with_reducible assumption | with_reducible exact SameAt.refl _ | with_reducible refine SameAt.drew ?_ | with_reducible refine SameAt.drewN ?_ _ | with_reducible refine SameAt.alloc ?_ _ | (refine SameAt.below ?_ (by with_reducible assumption)))) (fun _ => ?_)
        repeat
          first | refine lexO_pass rfl ?_ | (refine lexO_take2 ?_ rfl (by kernel_rfl) (by with_reducible assumption) (fun w' hS K Q' hK => ?_) ?_; rotate_left; focus (have hS2 := hS.2; clear hS; go_wp2_with fail; exact hK))
        refine lexO_do rfl (fun K hK => ?_) lexO_stop
        go_wp2_with (go_at_call 24; refine whole_c.mono ?_; rintro e w' ⟨rfl, rfl⟩)
        refine step_and (by repeat (first | with_reducible assumption | with_reducible exact SameAt.refl _ | with_reducible refine SameAt.drew ?_ | with_reducible refine SameAt.drewN ?_ _ | with_reducible refine SameAt.alloc ?_ _ | (refine SameAt.below ?_ (by with_reducible assumption)))) (fun _ => ?_)
        repeat
          first | refine lexO_pass rfl ?_ | (refine lexO_take2 ?_ rfl (by kernel_rfl) (by with_reducible assumption) (fun w' hS K Q' hK => ?_) ?_; rotate_left; focus (have hS2 := hS.2; clear hS; go_wp2_with fail; exact hK))
        refine lexO_do rfl (fun K hK => ?_) lexO_stop
        go_wp2_with fail
        first | refine step_last (by decide) (lexO_done ?_) | refine lexO_done ?_
        go_wp2_with fail
        go_meet
        exact ⟨w.heap.size + 1 + 1, w.heap.size + 1, rfl, ⟨by first | omega | (simp; omega), by first | omega | (simp; omega), by first | omega | (simp; omega), by first | omega | (simp; done) | (simp; omega)⟩, (by (try simp only [heap_drew]); repeat (first | (with_reducible refine heap_last ?_; focus (simp; done)) | with_reducible refine heap_past ?_)), ⟨by go_simp, by go_simp, by go_simp, by go_simp⟩, fun j => by go_simp, by have h0 := Below.refl w.heap.size w; exact (by repeat (first | with_reducible assumption | with_reducible refine Below.drew ?_ | with_reducible refine below_drewN' ?_ _ | with_reducible refine Below.alloc ?_ ?_ _ | with_reducible refine Below.setCell ?_ ?_ _ | with_reducible exact Nat.le_refl _ | omega | focus (simp; done) | focus (simp; omega))), ⟨by go_simp, by go_simp, by go_simp, by go_simp⟩, ⟨by go_simp, by go_simp, by go_simp, by go_simp⟩⟩
    · go_wp2_with fail
      refine step_and (by repeat (first | with_reducible assumption | with_reducible exact SameAt.refl _ | with_reducible refine SameAt.drew ?_ | with_reducible refine SameAt.drewN ?_ _ | with_reducible refine SameAt.alloc ?_ _ | (refine SameAt.below ?_ (by with_reducible assumption)))) (fun _ => ?_)
      repeat
        first | refine lexO_pass rfl ?_ | (refine lexO_take2 ?_ rfl (by kernel_rfl) (by with_reducible assumption) (fun w' hS K Q' hK => ?_) ?_; rotate_left; focus (have hS2 := hS.2; clear hS; go_wp2_with fail; exact hK))
      refine lexO_do rfl (fun K hK => ?_) lexO_stop
      go_wp2_with fail
      refine step_and (by repeat (first | with_reducible assumption | with_reducible exact SameAt.refl _ | with_reducible refine SameAt.drew ?_ | with_reducible refine SameAt.drewN ?_ _ | with_reducible refine SameAt.alloc ?_ _ | (refine SameAt.below ?_ (by with_reducible assumption)))) (fun _ => ?_)
      repeat
        first | refine lexO_pass rfl ?_ | (refine lexO_take2 ?_ rfl (by kernel_rfl) (by with_reducible assumption) (fun w' hS K Q' hK => ?_) ?_; rotate_left; focus (have hS2 := hS.2; clear hS; go_wp2_with fail; exact hK))
      refine lexO_do rfl (fun K hK => ?_) lexO_stop
      go_wp2_with (go_at_call 24; refine whole_c.mono ?_; rintro e w' ⟨rfl, rfl⟩)
      refine step_and (by repeat (first | with_reducible assumption | with_reducible exact SameAt.refl _ | with_reducible refine SameAt.drew ?_ | with_reducible refine SameAt.drewN ?_ _ | with_reducible refine SameAt.alloc ?_ _ | (refine SameAt.below ?_ (by with_reducible assumption)))) (fun _ => ?_)
      repeat
        first | refine lexO_pass rfl ?_ | (refine lexO_take2 ?_ rfl (by kernel_rfl) (by with_reducible assumption) (fun w' hS K Q' hK => ?_) ?_; rotate_left; focus (have hS2 := hS.2; clear hS; go_wp2_with fail; exact hK))
      refine lexO_do rfl (fun K hK => ?_) lexO_stop
      go_wp2_with fail
      first | refine step_last (by decide) (lexO_done ?_) | refine lexO_done ?_
      go_wp2_with fail
      go_meet
      exact ⟨w.heap.size + 1, w.heap.size + 1 + 1, rfl, ⟨by first | omega | (simp; omega), by first | omega | (simp; omega), by first | omega | (simp; omega), by first | omega | (simp; done) | (simp; omega)⟩, (by (try simp only [heap_drew]); repeat (first | (with_reducible refine heap_last ?_; focus (simp; done)) | with_reducible refine heap_past ?_)), ⟨by go_simp, by go_simp, by go_simp, by go_simp⟩, fun j => by go_simp, by have h0 := Below.refl w.heap.size w; exact (by repeat (first | with_reducible assumption | with_reducible refine Below.drew ?_ | with_reducible refine below_drewN' ?_ _ | with_reducible refine Below.alloc ?_ ?_ _ | with_reducible refine Below.setCell ?_ ?_ _ | with_reducible exact Nat.le_refl _ | omega | focus (simp; done) | focus (simp; omega))), ⟨by go_simp, by go_simp, by go_simp, by go_simp⟩, ⟨by go_simp, by go_simp, by go_simp, by go_simp⟩⟩
  case rest =>
    obtain ⟨L, NB, rfl, ⟨lL1, lNB, nLN, lLc⟩, hNB, ⟨q0, q1, q2, q3⟩, hqf, hbc, ⟨vc0, vc1, vc2, vc3⟩, ⟨fc0, fc1, fc2, fc3⟩⟩ := hcut
    have HNB := Lib.hid hNB
    have HQF := Lib.hid hqf
    have HBC := Lib.hid hbc
    have qf1 := hqf 1
    have lwc : w.heap.size < wc.heap.size := World.block_lt_of_cell? _ _ vc0
    have nwL : ¬ w.heap.size = L := by omega
    have nLw : ¬ L = w.heap.size := by omega
    clear hNB hqf hbc c0 c1 c2 c3
    go_wp2_with fail
    refine wp_gen (fun W => (W.cell? ⟨L, 0, none⟩ = some (.slice (some ⟨NB, 0, none⟩) 3 3) ∧ W.cell? ⟨L, 1, none⟩ = some (.slice (some ⟨wc.heap.size, 0, none⟩) 1 1) ∧ W.cell? ⟨L, 2, none⟩ = some (.slice none 0 0) ∧ W.cell? ⟨L, 3, none⟩ = some (.slice none 0 0)) ∧ (∀ j, W.frozen? ⟨L, j, none⟩ = false) ∧ L < W.heap.size ∧
      (SN W (fun b => b ≠ L ∧ b ≠ w.heap.size ∧ b ≠ R) (.slice (some ⟨NB, 0, none⟩) 3 3) [x0, x1, (n : Int)] ∧ SD W (fun b => b ≠ L ∧ b ≠ w.heap.size ∧ b ≠ R) (.slice (some ⟨wc.heap.size, 0, none⟩) 1 1) [((x0 :: x1 :: x2 :: x3 :: rest).drop 4).take 16]) ∧
      (W.cell? ⟨w.heap.size, 0, none⟩ = some (.slice none 0 0) ∧ W.cell? ⟨w.heap.size, 1, none⟩ = some (.slice none 0 0) ∧ W.cell? ⟨w.heap.size, 2, none⟩ = some (.slice none 0 0) ∧ W.cell? ⟨w.heap.size, 3, none⟩ = some (.slice none 0 0)) ∧
      (W.frozen? ⟨w.heap.size, 0, none⟩ = false ∧ W.frozen? ⟨w.heap.size, 1, none⟩ = false ∧ W.frozen? ⟨w.heap.size, 2, none⟩ = false ∧ W.frozen? ⟨w.heap.size, 3, none⟩ = false) ∧
      Keeps (fun b => b < w.heap.size) w W ∧ Below w.heap.size w W) ?F (fun W hW => ?_)
    case F =>
      have h0 := HBC.out
      have q4 : Keeps (fun b => b < w.heap.size) w wc := Keeps.of_below h0
      have q5 : Keeps (fun b => b < w.heap.size ∧ b ≠ R) w wc := Keeps.of_below h0
      have hnb := HNB.out
      have hdd := HD1.out
      refine ⟨⟨by go_simp, by go_simp, by go_simp, by go_simp⟩, fun j => ?_, by first | omega | focus (simp; done) | (simp; omega), ⟨IsSl.block (cs := #[.int .u64 x0, .int .u64 x1, .int .u64 (n : Int)]) (e := 39) (f := (0, 0)) (by (try simp only [heap_drew]); repeat (first | (with_reducible refine heap_last ?_; focus (simp; done)) | with_reducible refine heap_past ?_ | (with_reducible refine heap_set ?_ ?_; focus (first | omega | (simp; done) | (simp; omega))) | with_reducible assumption)) ⟨by omega, by omega, by omega⟩ (by omega), SD.one (v := .slice (some ⟨g, o + 4, none⟩) 16 (c - 4)) (e := 22) (f := (0, 0)) (by (try simp only [heap_drew]); repeat (first | (with_reducible refine heap_last ?_; focus (simp; done)) | with_reducible refine heap_past ?_ | (with_reducible refine heap_set ?_ ?_; focus (first | omega | (simp; done) | (simp; omega))) | with_reducible assumption)) ⟨by omega, by omega, by omega⟩ (((hdd.imp (fun b hb hn => ⟨hb, hn⟩ : ∀ b, b < w.heap.size → b ≠ R → b < w.heap.size ∧ b ≠ R)).keeps (by repeat (first | with_reducible assumption | with_reducible exact Keeps.refl _ _ | with_reducible refine Keeps.drew ?_ | with_reducible refine Keeps.drewN ?_ _ | with_reducible refine Keeps.alloc ?_ _ | with_reducible refine Keeps.setCell ?_ ?_ _ | omega | focus (simp; done) | focus (simp; omega)))).imp (fun b _ hb => ⟨by omega, by omega, hb.2⟩))⟩, ⟨by go_simp, by go_simp, by go_simp, by go_simp⟩, ⟨by go_simp, by go_simp, by go_simp, by go_simp⟩, (by repeat (first | with_reducible assumption | with_reducible exact Keeps.refl _ _ | with_reducible refine Keeps.drew ?_ | with_reducible refine Keeps.drewN ?_ _ | with_reducible refine Keeps.alloc ?_ _ | with_reducible refine Keeps.setCell ?_ ?_ _ | omega | focus (simp; done) | focus (simp; omega))), (by repeat (first | with_reducible assumption | with_reducible refine Below.drew ?_ | with_reducible refine below_drewN' ?_ _ | with_reducible refine Below.alloc ?_ ?_ _ | with_reducible refine Below.setCell ?_ ?_ _ | with_reducible exact Nat.le_refl _ | omega | focus (simp; done) | focus (simp; omega)))⟩
      have := HQF.out j
      go_simp
    obtain ⟨⟨lc0, lc1, lc2, lc3⟩, lf, lL, ⟨hN, hD2⟩, ⟨wr0, wr1, wr2, wr3⟩, ⟨wf0, wf1, wf2, wf3⟩, kW, bW⟩ := hW
    have HF0 := Lib.hid (Fills2.start (ok := fun b => b ≠ L ∧ b ≠ w.heap.size ∧ b ≠ R) lL (Nat.le_refl _) lc2 lc3 lf)
    have HN3 := Lib.hid (And.intro hN hD2)
    have HK := Lib.hid (And.intro kW bW)
    have wL : w.heap.size < W.heap.size := World.block_lt_of_cell? _ _ wr0
    have hgw : g < W.heap.size := by omega
    have ngL : ¬ g = L := by omega
    have nLg : ¬ L = g := by omega
    clear hN hD2 kW bW lf q0 q1 q2 q3 vc0 vc1 vc2 vc3 fc0 fc1 fc2 fc3 qf1 lLc lwc
    go_loopw [7, 8] (fun s _ wr => ∃ (j : Nat) (D : Option Addr) (l e : Nat) (v pv : Value) (done : List (List Int × List Int)) (pay : List Int), s = .slice D l e ∧ j + l = n ∧ e = c - j ∧ (0 < l → D = some ⟨g, o + j, none⟩) ∧ done.length ≤ j ∧ pay.length ≤ j ∧ Fills2 W wr L W.heap.size (fun b => b ≠ L ∧ b ≠ w.heap.size ∧ b ≠ R) v done pv pay ∧ pay = rPay done ∧ ReadsA all done ((x0 :: x1 :: x2 :: x3 :: rest).drop j)) (fun s _ _ => match s with | .slice _ l _ => l | _ => 0)
    case atStart => exact ⟨20, AS, n - 20, c - 20, _, _, [], [], rfl, by omega, rfl, fun h => by rw [← HAS.out, if_neg (by omega)], by simp, by simp, HF0.out, rfl, by rw [← HA.out]; exact ReadsA.start _⟩
    case round =>
      obtain ⟨j, D, l, e, v, pv, done, pay, rfl, hj, he, hD, hdl0, hpl0, hF, hpay, hrd⟩ := hrel
      have HF := Lib.hid hF
      have lLr : L < wr.heap.size := Nat.lt_of_lt_of_le hF.lt hF.le
      have lwr : w.heap.size < wr.heap.size := Nat.lt_of_lt_of_le wL hF.le
      have lgr : g < wr.heap.size := Nat.lt_of_lt_of_le hgw hF.le
      have lgr1 : g < wr.heap.size + 1 := by omega
      have lgr2 : g < wr.heap.size + 1 + 1 := by omega
      have leW := hF.le
      have hown := hF.rows.own
      have hpown := hF.own.lt
      have ef := hF.froz 2
      obtain ⟨p, c', hv⟩ := hF.rows.form
      subst hv
      obtain ⟨pp, pc, hpv, -⟩ := SB.own hF.own
      subst hpv
      have e2 := hF.parts
      have e3 := hF.pay
      have e0 := hF.other 0 _ (by decide) (by decide) lc0
      have e1 := hF.other 1 _ (by decide) (by decide) lc1
      have v0 := hF.keep.cell (b := w.heap.size) (by constructor <;> omega) wr0
      have v1 := hF.keep.cell (b := w.heap.size) (by constructor <;> omega) wr1
      have v2 := hF.keep.cell (b := w.heap.size) (by constructor <;> omega) wr2
      have v3 := hF.keep.cell (b := w.heap.size) (by constructor <;> omega) wr3
      have y0' := hF.keep.frozen (b := w.heap.size) (by constructor <;> omega) wL wf0
      have y1' := hF.keep.frozen (b := w.heap.size) (by constructor <;> omega) wL wf1
      have y2' := hF.keep.frozen (b := w.heap.size) (by constructor <;> omega) wL wf2
      have y3' := hF.keep.frozen (b := w.heap.size) (by constructor <;> omega) wL wf3
      have HO := Lib.hid hown
      have HPO := Lib.hid hpown
      have HKG := Lib.hid ((HK.out.1.trans (hF.keep.imp (fun b hb => ⟨by omega, by omega⟩ : ∀ b, b < w.heap.size → b < W.heap.size ∧ b ≠ L))).imp (fun b hb => hb.1 : ∀ b, b < w.heap.size ∧ b ≠ R → b < w.heap.size))
      have lLr1 : L < wr.heap.size + 1 := by omega
      have lwr1 : w.heap.size < wr.heap.size + 1 := by omega
      have HJ := Lib.hid hj
      have HE := Lib.hid he
      have HD := Lib.hid hD
      have HDL := Lib.hid (Nat.le_trans hdl0 (by omega : j ≤ n))
      have HDJ := Lib.hid hdl0
      have HPL := Lib.hid hpl0
      have HPAY := Lib.hid hpay
      have HRD := Lib.hid hrd
      clear hF hown hpown hj he hD hdl0 hpl0 hrd hpay
      by_cases hl0 : l = 0
      · have hl1 : ¬ (0 : Int) < (l : Int) := by omega
        go_wp2_with fail
        refine bodyPost_ret (v := .tuple #[.agg #[.slice (some ⟨NB, 0, none⟩) 3 3, .slice (some ⟨wc.heap.size, 0, none⟩) 1 1, .slice p done.length c', .slice pp pay.length pc], .bool true, .bool true]) (by simp only [results, Tryz.results30]; go_simp) rfl ?_
        have hF := HF.out
        have h0 : Below w.heap.size w wr := hF.below _ _ (by omega) HK.out.2
        have hnil : (x0 :: x1 :: x2 :: x3 :: rest).drop j = [] := List.drop_eq_nil_of_le (by have := HN.out; have := HJ.out; simp at *; omega)
        have hD := HRD.out
        rw [hnil] at hD
        unfold ReadsA at hD
        rw [dAttrs_nil] at hD
        have hlay := hF.lay (ok' := fun b => b ≠ w.heap.size ∧ b ≠ R) rfl HN3.out.1 HN3.out.2 (fun b hb => hb.1) (fun b hb => ⟨by omega, by omega⟩) (fun b hb => hb.2) (fun b hb => hb.2)
        refine ⟨.inr (.inr ⟨done, _, by rw [hD]; simp, rfl, ?_⟩), (by repeat (first | with_reducible assumption | with_reducible refine Below.drew ?_ | with_reducible refine below_drewN' ?_ _ | with_reducible refine Below.alloc ?_ ?_ _ | with_reducible refine Below.setCell ?_ ?_ _ | with_reducible exact Nat.le_refl _ | omega | focus (simp; done) | focus (simp; omega)))⟩
        rw [← HPAY.out]
        exact (hlay.keeps (by repeat (first | with_reducible assumption | with_reducible exact Keeps.refl _ _ | with_reducible refine Keeps.drew ?_ | with_reducible refine Keeps.drewN ?_ _ | with_reducible refine Keeps.alloc ?_ _ | with_reducible refine Keeps.setCell ?_ ?_ _ | omega | focus (simp; done) | focus (simp; omega)))).imp (fun b _ hb => hb.2)
      · have hl1 : (0 : Int) < (l : Int) := by omega
        obtain ⟨O, hO⟩ : ∃ O, O = o + j := ⟨_, rfl⟩
        have hD' := HD.out (by omega)
        rw [← hO] at hD'
        obtain rfl := hD'
        have HOO := Lib.hid hO
        clear hO
        have hdl : ((x0 :: x1 :: x2 :: x3 :: rest).drop j).length = l := by have := HN.out; have := HJ.out; simp at *; omega
        by_cases hl2 : l < 2
        · have hl3 : (l : Int) < 2 := by omega
          obtain ⟨y0, hy0⟩ : ∃ y0, (x0 :: x1 :: x2 :: x3 :: rest).drop j = [y0] := by
            match h : (x0 :: x1 :: x2 :: x3 :: rest).drop j, hdl with
            | [a], _ => exact ⟨a, rfl⟩
            | [], hdl => simp at hdl; omega
            | a :: b :: r, hdl => simp at hdl; omega
          have HY := Lib.hid hy0
          clear hy0 hdl
          go_wp2_with (go_at_call 23; refine none_c.mono ?_; rintro e w' ⟨rfl, rfl⟩)
          refine bodyPost_ret (v := .tuple #[zlay, .bool false, .bool true]) (by simp only [results, Tryz.results30]; go_simp) rfl ?_
          have h0 : Below w.heap.size w wr := HF.out.below _ _ (by omega) HK.out.2
          have hD := HRD.out
          unfold ReadsA at hD
          rw [HY.out, dAttrs_one] at hD
          exact ⟨.inr (.inl ⟨by rw [hD]; rfl, rfl⟩), (by repeat (first | with_reducible assumption | with_reducible refine Below.drew ?_ | with_reducible refine below_drewN' ?_ _ | with_reducible refine Below.alloc ?_ ?_ _ | with_reducible refine Below.setCell ?_ ?_ _ | with_reducible exact Nat.le_refl _ | omega | focus (simp; done) | focus (simp; omega)))⟩
        · have hl3 : ¬ (l : Int) < 2 := by omega
          have he2 : (2 : Int) ≤ (e : Int) := by have := HE.out; have := HJ.out; omega
          obtain ⟨y0, y1, rest2, hrest⟩ : ∃ a b r, (x0 :: x1 :: x2 :: x3 :: rest).drop j = a :: b :: r := by
            match h : (x0 :: x1 :: x2 :: x3 :: rest).drop j, hdl with
            | a :: b :: r, _ => exact ⟨a, b, r, rfl⟩
            | [_], hdl => simp at hdl; omega
            | [], hdl => simp at hdl; omega
          have hrow := HR.out.drop j
          rw [← List.map_drop, hrest, ← HOO.out] at hrow
          have hbb : ∀ z ∈ [y0, y1], 0 ≤ z ∧ z ≤ 255 := fun z hz => HBB.out z (List.mem_of_mem_drop (i := j) (by rw [hrest]; exact List.mem_append_left rest2 hz))
          obtain ⟨-, hcell2⟩ := rowCells hrow (by simp)
          have b0 := hbb y0 (by simp)
          have b1 := hbb y1 (by simp)
          obtain ⟨M, rfl⟩ : ∃ M : Nat, y1 = (M : Int) := ⟨y1.toNat, by omega⟩
          have e0' := HKG.out.cell (b := g) ⟨hg, hgR⟩ (hcell2 0 (.int .u8 y0) (by simp))
          have e1' := HKG.out.cell (b := g) ⟨hg, hgR⟩ (hcell2 1 (.int .u8 (M : Int)) (by simp))
          rw [Nat.add_zero] at e0'
          have hlr : l = rest2.length + 2 := by rw [hrest] at hdl; simp at hdl; omega
          have HROW := Lib.hid hrow
          have HREST := Lib.hid hrest
          have HLR := Lib.hid hlr
          clear hrow hcell2 hbb hdl hrest hlr
          by_cases hm2 : M < 2
          · have hm3 : (M : Int) < 2 := by omega
            go_wp2_with (go_at_call 23; refine none_c.mono ?_; rintro e w' ⟨rfl, rfl⟩)
            refine bodyPost_ret (v := .tuple #[zlay, .bool false, .bool true]) (by simp only [results, Tryz.results30]; go_simp) rfl ?_
            have h0 : Below w.heap.size w wr := HF.out.below _ _ (by omega) HK.out.2
            have hD := HRD.out
            unfold ReadsA at hD
            rw [HREST.out, dAttrs_bad (.inl (by omega))] at hD
            exact ⟨.inr (.inl ⟨by rw [hD]; rfl, rfl⟩), (by repeat (first | with_reducible assumption | with_reducible refine Below.drew ?_ | with_reducible refine below_drewN' ?_ _ | with_reducible refine Below.alloc ?_ ?_ _ | with_reducible refine Below.setCell ?_ ?_ _ | with_reducible exact Nat.le_refl _ | omega | focus (simp; done) | focus (simp; omega)))⟩
          · have hm3 : ¬ (M : Int) < 2 := by omega
            by_cases hml : l < M
            · have hm4 : (l : Int) < (M : Int) := by omega
              go_wp2_with (go_at_call 23; refine none_c.mono ?_; rintro e w' ⟨rfl, rfl⟩)
              refine bodyPost_ret (v := .tuple #[zlay, .bool false, .bool true]) (by simp only [results, Tryz.results30]; go_simp) rfl ?_
              have h0 : Below w.heap.size w wr := HF.out.below _ _ (by omega) HK.out.2
              have hD := HRD.out
              unfold ReadsA at hD
              rw [HREST.out, dAttrs_bad (.inr (by have := HLR.out; omega))] at hD
              exact ⟨.inr (.inl ⟨by rw [hD]; rfl, rfl⟩), (by repeat (first | with_reducible assumption | with_reducible refine Below.drew ?_ | with_reducible refine below_drewN' ?_ _ | with_reducible refine Below.alloc ?_ ?_ _ | with_reducible refine Below.setCell ?_ ?_ _ | with_reducible exact Nat.le_refl _ | omega | focus (simp; done) | focus (simp; omega)))⟩
            · have hm4 : ¬ (l : Int) < (M : Int) := by omega
              by_cases hme : M = 2
              · have hm5 : ((M : Int) == 2) = true := by simp; omega
                go_wp2_with (go_at_call 31; refine open_c.mono ?_; rintro e w' ⟨rfl, rfl⟩)
                refine bodyPost_ret (v := .tuple #[zlay, .bool false, .bool false]) (by simp only [results, Tryz.results30]; go_simp) rfl ?_
                have h0 : Below w.heap.size w wr := HF.out.below _ _ (by omega) HK.out.2
                have hD := HRD.out
                unfold ReadsA at hD
                rw [HREST.out, show ((M : Nat) : Int) = 2 by omega, dAttrs_open] at hD
                exact ⟨.inl ⟨by rw [hD]; rfl, rfl⟩, (by repeat (first | with_reducible assumption | with_reducible refine Below.drew ?_ | with_reducible refine below_drewN' ?_ _ | with_reducible refine Below.alloc ?_ ?_ _ | with_reducible refine Below.setCell ?_ ?_ _ | with_reducible exact Nat.le_refl _ | omega | focus (simp; done) | focus (simp; omega)))⟩
              · have hm5 : ((M : Int) == 2) = false := by simp; omega
                have hmle : (M : Int) ≤ (e : Int) := by have := HE.out; have := HJ.out; omega
                have hm2' : (2 : Int) ≤ (M : Int) := by omega
                have hen : ¬ e = 2 := by have := HE.out; have := HJ.out; omega
                have hM8 : (M : Int) ≤ 255 := b1.2
                obtain ⟨A5, hA5⟩ : ∃ A, (if e = M then some (⟨g, O, none⟩ : Addr) else some ⟨g, O + M, none⟩) = A := ⟨_, rfl⟩
                have hS : SB w (fun b => b ≠ R) (.slice (some ⟨g, O + 2, none⟩) (M - 2) (e - 2)) (rest2.take (M - 2)) := by
                  have := SB.from (lo := 2) (hi := M) (A := some ⟨g, O + 2, none⟩) HROW.out (by omega) (by simp; have := HLR.out; omega) (by have := HE.out; have := HJ.out; have := HLR.out; simp; omega) (by have := HE.out; omega) (if_neg hen)
                  simpa using this
                have HS := Lib.hid hS
                clear hS
                go_wp2_with fail
                refine wp_region_to (W.heap.size) (by first | omega | exact Nat.le_refl _ | (simp; omega)) [16] (.q 0 (.q 1 (.q 2 (.q 3 (.q 4 (.q 5 (.q 6 (.q 7 (.q 9 (.q 10 (.q 11 (.l 8 (.q 12 (.l 13 (.l 14 (.q 15 (.l 16 .done .stop)) .stop) .stop)) .stop)))))))))))) (by kernel_rfl) (by kernel_rfl) (fun _ _ d _ _ h => by cases d <;> exact h) (by simp only [Ord.fill, nthOp]; rfl) ?_; intro hSm
                repeat
                  first | refine lexO_pass rfl ?_ | (refine lexO_take2 ?_ rfl (by kernel_rfl) (by with_reducible assumption) (fun w' hS K Q' hK => ?_) ?_; rotate_left; focus (have hS2 := hS.2; clear hS; go_wp2_with fail; exact hK))
                refine lexO_do rfl (fun K hK => ?_) lexO_stop
                go_wp2_with fail
                refine step_and (by repeat (first | with_reducible assumption | (with_reducible refine SameTo.refl ?_) | with_reducible refine SameTo.drew ?_ | with_reducible refine SameTo.alloc ?_ _ | (with_reducible refine SameTo.setCell ?_ ?_ _) | (refine SameTo.below ?_ (by with_reducible assumption)) | omega | exact Nat.le_refl _ | focus (simp; done) | focus (simp; omega))) (fun _ => ?_)
                repeat
                  first | refine lexO_pass rfl ?_ | (refine lexO_take2 ?_ rfl (by kernel_rfl) (by with_reducible assumption) (fun w' hS K Q' hK => ?_) ?_; rotate_left; focus (have hS2 := hS.2; clear hS; go_wp2_with fail; exact hK))
                refine lexO_do rfl (fun K hK => ?_) lexO_stop
                go_wp2_with fail
                refine step_and (by repeat (first | with_reducible assumption | (with_reducible refine SameTo.refl ?_) | with_reducible refine SameTo.drew ?_ | with_reducible refine SameTo.alloc ?_ _ | (with_reducible refine SameTo.setCell ?_ ?_ _) | (refine SameTo.below ?_ (by with_reducible assumption)) | omega | exact Nat.le_refl _ | focus (simp; done) | focus (simp; omega))) (fun _ => ?_)
                repeat
                  first | refine lexO_pass rfl ?_ | (refine lexO_take2 ?_ rfl (by kernel_rfl) (by with_reducible assumption) (fun w' hS K Q' hK => ?_) ?_; rotate_left; focus (have hS2 := hS.2; clear hS; go_wp2_with fail; exact hK))
                refine lexO_do rfl (fun K hK => ?_) lexO_stop
                refine wp_append_all (E := eP) (.tmp 76) (.tmp 88) 27 44 _ 48 rfl Tryz.underlying27 infoPart rfl (by decide) (by decide) rfl ((HF.out.rows.keeps2 (Keeps.of_below (show Below wr.heap.size wr _ from by have h0 := Below.refl wr.heap.size wr; exact (by repeat (first | with_reducible assumption | with_reducible refine Below.drew ?_ | with_reducible refine below_drewN' ?_ _ | with_reducible refine Below.alloc ?_ ?_ _ | with_reducible refine Below.setCell ?_ ?_ _ | with_reducible exact Nat.le_refl _ | omega | focus (simp; done) | focus (simp; omega)))))) ) rfl (cs := [.slice (some ⟨wr.heap.size, 0, none⟩) 2 2, .slice (some ⟨g, O + 2, none⟩) (M - 2) (e - 2)]) (y := ([y0, (M : Int)], rest2.take (M - 2))) ?hcells ?hrep (by have := HDL.out; have := hLIM; omega) (by first | omega | (simp; omega)) (fun q' c2 w5 hr5 hg5 ha5 => hK _ _ ?_)
                case hcells =>
                  intro j u hu
                  rcases j with _ | _ | j
                  · simp at hu; subst hu; go_simp
                  · simp at hu; subst hu; go_simp
                  · simp at hu
                case hrep => exact ⟨_, _, rfl, IsSl.block (cs := #[.int .u64 y0, .int .u64 (M : Int)]) (e := 39) (f := (0, 0)) (by (try simp only [heap_drew]); repeat (first | (with_reducible refine heap_last ?_; focus (simp; done)) | with_reducible refine heap_past ?_ | (with_reducible refine heap_set ?_ ?_; focus (first | omega | (simp; done) | (simp; omega))) | with_reducible assumption)) ⟨⟨⟨by omega, by omega, by omega⟩, fun he => by have := (HPO.out _ he).2; omega⟩, fun he => by have := (HO.out _ he.symm).2; omega⟩ (by omega), ((HS.out.imp (fun b hb hn => ⟨hb, hn⟩ : ∀ b, b < w.heap.size → b ≠ R → b < w.heap.size ∧ b ≠ R)).keeps (HKG.out.trans (by repeat (first | with_reducible assumption | with_reducible exact Keeps.refl _ _ | with_reducible refine Keeps.drew ?_ | with_reducible refine Keeps.drewN ?_ _ | with_reducible refine Keeps.alloc ?_ _ | with_reducible refine Keeps.setCell ?_ ?_ _ | omega | focus (simp; done) | focus (simp; omega))))).imp (fun b _ hb => ⟨⟨⟨by omega, by omega, hb.2⟩, fun he => by have := (HPO.out _ he).1; omega⟩, fun he => by have := (HO.out _ he.symm).1; omega⟩)⟩
                have hk5 := grown_keeps (N := W.heap.size) hg5 (fun k hk => (HO.out k hk).1)
                refine step_and (SameTo.keeps (by repeat (first | with_reducible assumption | (with_reducible refine SameTo.refl ?_) | with_reducible refine SameTo.drew ?_ | with_reducible refine SameTo.alloc ?_ _ | (with_reducible refine SameTo.setCell ?_ ?_ _) | (refine SameTo.below ?_ (by with_reducible assumption)) | omega | exact Nat.le_refl _ | focus (simp; done) | focus (simp; omega))) hk5) (fun _ => ?_)
                have hL5 : w5.cell? ⟨L, 2, none⟩ = some (.slice p done.length c') := hk5.cell lL (by go_simp)
                have hf5 : w5.frozen? ⟨L, 2, none⟩ = false := hk5.frozen lL (by first | omega | (simp; omega)) (by go_simp)
                have l5 : L < w5.heap.size := World.block_lt_of_cell? _ _ hL5
                have eg5 : w5.cell? ⟨g, O, none⟩ = some (.int .u8 y0) := hk5.cell (by omega) (by go_simp)
                have lg5 : g < w5.heap.size := World.block_lt_of_cell? _ _ eg5
                have H5 := Lib.hid (HF.out.step (w5 := w5) (fun b hb => hb.1) (show Below wr.heap.size wr _ from (by have h0 := Below.refl wr.heap.size wr; exact (by repeat (first | with_reducible assumption | with_reducible refine Below.drew ?_ | with_reducible refine below_drewN' ?_ _ | with_reducible refine Below.alloc ?_ ?_ _ | with_reducible refine Below.setCell ?_ ?_ _ | with_reducible exact Nat.le_refl _ | omega | focus (simp; done) | focus (simp; omega))))) hr5 hg5 ha5)
                clear hr5 hg5 ha5 hk5
                repeat
                  first | refine lexO_pass rfl ?_ | (refine lexO_take2 ?_ rfl (by kernel_rfl) (by with_reducible assumption) (fun w' hS K Q' hK => ?_) ?_; rotate_left; focus (have hS2 := hS.2; clear hS; go_wp2_with fail; exact hK))
                refine lexO_do rfl (fun K hK => ?_) lexO_stop
                go_wp2_with fail
                first | refine step_last (by decide) (lexO_done ?_) | refine lexO_done ?_
                by_cases h79 : y0 = 79
                · have h79' : (y0 == 79) = true := by simp [h79]
                  go_wp2_with fail
                  generalize hw6 : World.setCell w5 _ _ = w6
                  rw [hw6] at H5
                  have HG := Lib.hid H5.out
                  have lg6 : g < w6.heap.size := by rw [← hw6]; simpa using lg5
                  clear hw6 H5 hL5 hf5 l5 eg5 lg5 e0 e1 e2 e3 v0 v1 v2 v3 y0' y1' y2' y3'
                  have z3 := HG.out.pay
                  have zf := HG.out.froz 3
                  have lL6 : L < w6.heap.size := Nat.lt_of_lt_of_le HG.out.lt HG.out.le
                  have le6 := HG.out.le
                  have HPO6 := Lib.hid HG.out.own.lt
                  clear hSm
                  refine wp_region_to (W.heap.size) (by first | omega | exact Nat.le_refl _ | (simp; omega)) [7] (.q 0 (.q 1 (.q 2 (.q 3 (.q 4 (.l 5 (.q 6 (.l 7 .done .stop)) .stop)))))) (by kernel_rfl) (by kernel_rfl) (fun _ _ d _ _ h => by cases d <;> exact h) (by simp only [Ord.fill, nthOp]; rfl) ?_; intro hSm
                  repeat
                    first | refine lexO_pass rfl ?_ | (refine lexO_take2 ?_ rfl (by kernel_rfl) (by with_reducible assumption) (fun w' hS K Q' hK => ?_) ?_; rotate_left; focus (have hS2 := hS.2; clear hS; go_wp2_with fail; exact hK))
                  refine lexO_do rfl (fun K hK => ?_) lexO_stop
                  refine wp_append_bytes (.tmp 96) (.tmp 99) 22 22 rfl Tryz.underlying22 Tryz.underlying22 rfl (ownsRow_keeps HG.out.own (show Keeps (fun _ => True) w6 _ from (by repeat (first | with_reducible assumption | with_reducible exact Keeps.refl _ _ | with_reducible refine Keeps.drew ?_ | with_reducible refine Keeps.drewN ?_ _ | with_reducible refine Keeps.alloc ?_ _ | with_reducible refine Keeps.setCell ?_ ?_ _ | omega | focus (simp; done) | focus (simp; omega)))) (fun _ _ => trivial)) rfl (HS.out.imp (fun b hb hn => ⟨hb, hn⟩ : ∀ b, b < w.heap.size → b ≠ R → b < w.heap.size ∧ b ≠ R) |>.keeps ((HK.out.1.imp (fun b hb => hb.1 : ∀ b, b < w.heap.size ∧ b ≠ R → b < w.heap.size)).trans ((HG.out.keep.imp (fun b hb => ⟨by omega, by omega⟩ : ∀ b, b < w.heap.size ∧ b ≠ R → b < W.heap.size ∧ b ≠ L)).trans (by repeat (first | with_reducible assumption | with_reducible exact Keeps.refl _ _ | with_reducible refine Keeps.drew ?_ | with_reducible refine Keeps.drewN ?_ _ | with_reducible refine Keeps.alloc ?_ _ | with_reducible refine Keeps.setCell ?_ ?_ _ | omega | focus (simp; done) | focus (simp; omega)))))) (by have := HPL.out; have := hLIM; have := HLR.out; have := HJ.out; simp; omega) (by first | omega | (simp; omega)) (fun p' c2 n2 w7 hr7 hg7 ha7 => hK _ _ ?_)
                  have hk7 := grown_keeps (N := W.heap.size) hg7.out (fun k hk => (HPO6.out k hk).1)
                  refine step_and (SameTo.keeps (by repeat (first | with_reducible assumption | (with_reducible refine SameTo.refl ?_) | with_reducible refine SameTo.drew ?_ | with_reducible refine SameTo.alloc ?_ _ | (with_reducible refine SameTo.setCell ?_ ?_ _) | (refine SameTo.below ?_ (by with_reducible assumption)) | omega | exact Nat.le_refl _ | focus (simp; done) | focus (simp; omega))) hk7) (fun _ => ?_)
                  have hL7 : w7.cell? ⟨L, 3, none⟩ = some (.slice pp pay.length pc) := hk7.cell lL (by go_simp)
                  have hf7 : w7.frozen? ⟨L, 3, none⟩ = false := hk7.frozen lL (by first | omega | (simp; omega)) (by go_simp)
                  have l7 : L < w7.heap.size := World.block_lt_of_cell? _ _ hL7
                  have H7 := Lib.hid (HG.out.more (w5 := w7) (fun b hb => hb.1) (show Below w6.heap.size w6 _ from (by have h0 := Below.refl w6.heap.size w6; exact (by repeat (first | with_reducible assumption | with_reducible refine Below.drew ?_ | with_reducible refine below_drewN' ?_ _ | with_reducible refine Below.alloc ?_ ?_ _ | with_reducible refine Below.setCell ?_ ?_ _ | with_reducible exact Nat.le_refl _ | omega | focus (simp; done) | focus (simp; omega))))) hr7.out hg7.out ha7.out)
                  clear hr7 hg7 ha7 hk7
                  repeat
                    first | refine lexO_pass rfl ?_ | (refine lexO_take2 ?_ rfl (by kernel_rfl) (by with_reducible assumption) (fun w' hS K Q' hK => ?_) ?_; rotate_left; focus (have hS2 := hS.2; clear hS; go_wp2_with fail; exact hK))
                  refine lexO_do rfl (fun K hK => ?_) lexO_stop
                  go_wp2_with fail
                  first | refine step_last (by decide) (lexO_done ?_) | refine lexO_done ?_
                  go_wp2_with fail
                  go_roundw
                  case rel => exact ⟨j + M, A5, l - M, e - M, _, _, done ++ [([y0, (M : Int)], rest2.take (M - 2))], pay ++ rest2.take (M - 2), by first | rfl | rw [hA5], by have := HJ.out; have := HLR.out; omega, by have := HE.out; omega, fun h => by rw [← hA5, if_neg (by have := HE.out; have := HJ.out; have := HLR.out; omega), HOO.out]; (congr 2 <;> omega), by have := HDJ.out; simp; omega, by have := HPL.out; simp; omega, by have := H7.out; simpa using this, by rw [rPay_snoc, if_pos h79, HPAY.out], ReadsA.more HRD.out (by rw [HREST.out, dAttrs_more (K := M - 2) (by omega) (by omega) (by have := HLR.out; omega), show j + M = j + (2 + (M - 2)) by omega, ← List.drop_drop, ← List.drop_drop, HREST.out]; simp)⟩
                  case measure => simp; have := HLR.out; omega
                · have h79' : (y0 == 79) = false := by simp [h79]
                  go_wp2_with fail
                  go_roundw
                  case rel => exact ⟨j + M, A5, l - M, e - M, _, _, done ++ [([y0, (M : Int)], rest2.take (M - 2))], pay, by first | rfl | rw [hA5], by have := HJ.out; have := HLR.out; omega, by have := HE.out; omega, fun h => by rw [← hA5, if_neg (by have := HE.out; have := HJ.out; have := HLR.out; omega), HOO.out]; (congr 2 <;> omega), by have := HDJ.out; simp; omega, by have := HPL.out; omega, by have := H5.out; simpa using this, by rw [rPay_snoc, if_neg h79, HPAY.out, List.append_nil], ReadsA.more HRD.out (by rw [HREST.out, dAttrs_more (K := M - 2) (by omega) (by omega) (by have := HLR.out; omega), show j + M = j + (2 + (M - 2)) by omega, ← List.drop_drop, ← List.drop_drop, HREST.out]; simp)⟩
                  case measure => simp; have := HLR.out; omega
end Go.Proofs.YtaejicpdaldpiaaGreat
