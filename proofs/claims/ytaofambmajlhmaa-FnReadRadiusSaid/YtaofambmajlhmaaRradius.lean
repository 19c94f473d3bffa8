/-
  impl.told of radius.
-/
import Derived.Test.YtaofambmajlhmaaD2radius
import Derived.Test.YtaofambmajlhmaaTa
namespace Go.Proofs.Ytaofambmajlhmaa
open Go Go.RowKit

theorem take_snocR {α : Type} {l : List α} {k : Nat} {x : α} (h : l[k]? = some x) : l.take k ++ [x] = l.take (k + 1) := by
  rw [List.take_add_one, h]
  rfl

set_option maxRecDepth 100000 in
set_option maxHeartbeats 4000000 in
theorem told_radius {X : Nat} {pl : Value} {l : Lay} {w : World} (hX : IsRadius w X pl l) (hlen : l.payload.length ≤ 140737488355328) :
    Calls Try.prog 36 #[.iface 120 (.pointer (some ⟨X, 0, none⟩)), pl] w fun e' w' => ∃ v, e' = .returned (.tuple #[v, .bool true]) ∧ LayOn w' (fun b => w.heap.size ≤ b) v l ∧ Below w.heap.size w w' := by
  obtain ⟨m, h, nn', auth, iv, ps, pay, rfl, _, hp, c2, c3, c4, h4, hal, c21, hI, b1, b2, b3, b4, b5⟩ := hX
  obtain ⟨pI, cI, hiv⟩ := hI.form
  subst hiv
  have lX := World.block_lt_of_cell? _ _ c2
  have HP := Lib.hid hp
  have HI := Lib.hid hI
  have HAU := Lib.hid h4
  have HAL := Lib.hid hal
  clear hp hI h4 hal
  have a0 := ta10_0
  have a1 := ta10_1
  have a2 := ta10_2
  have a3 := ta10_3
  have a4 := ta10_4
  have a5 := ta10_5
  have a6 := ta10_6
  have a7 := ta10_7
  have a8 := ta10_8
  have a9 := ta10_9
  have a10 := ta10_10
  go_enter Try.func36, Try.ntmps36
  go_wp2_with fail
  refine (clone_c (HP.out.keeps (by repeat (first | with_reducible assumption | with_reducible exact Keeps.refl _ _ | with_reducible refine Keeps.drew ?_ | with_reducible refine Keeps.drewN ?_ _ | with_reducible refine Keeps.alloc ?_ _ | with_reducible refine Keeps.setCell ?_ ?_ _ | omega | focus (simp; done) | focus (simp; omega)))) hlen).mono ?_
  rintro e1 w1 ⟨q, cq, rfl, hq, hb1⟩
  have HQ := Lib.hid hq
  clear hq
  have k2 := cell_keep hb1 c2
  have k3 := cell_keep hb1 c3
  have k4 := cell_keep hb1 c4
  have k21 := cell_keep hb1 c21
  obtain ⟨r0, r1, r2, r3⟩ := cells4 hb1
  obtain ⟨f0, f1, f2, f3⟩ := frozen4 hb1
  have lw := size_new hb1
  have lX1 : X < w1.heap.size := by omega
  have HO : Hid (SB w1 (fun b => b = X) (.slice (some ⟨X, 5, none⟩) 16 16) auth) := ⟨_, _, by rw [HAL.out], by have := HAL.out; omega, by omega, fun h => (by cases h), .inr ⟨X, 5, rfl, rfl, lX1, fun j u hu => by
    rw [List.getElem?_map] at hu
    obtain ⟨x, hx, rfl⟩ := Option.map_eq_some_iff.1 hu
    exact cell_keep hb1 (HAU.out j x hx)⟩⟩
  have HB := Lib.hid hb1
  clear hb1 c2 c3 c4 c21 lX
  go_wp2_with fail
  refine wp_region_same [19] (.q 0 (.q 1 (.q 2 (.q 3 (.q 4 (.q 5 (.q 6 (.q 7 (.q 8 (.q 9 (.q 10 (.q 11 (.q 12 (.q 13 (.q 14 (.q 15 (.l 16 (.q 17 (.q 18 (.l 19 .done .stop))) .stop))))))))))))))))) (by kernel_rfl) (by kernel_rfl) (fun _ _ d _ _ h => by cases d <;> exact h) (by simp only [Ord.fill, nthOp]; rfl) ?_; intro hSm
  repeat
    first | refine lexO_pass rfl ?_ | (refine lexO_take2 ?_ rfl (by kernel_rfl) (by with_reducible assumption) (fun w' hS K Q' hK => ?_) ?_; rotate_left; focus (have hS2 := hS.2; clear hS; go_wp2_with fail; exact hK))
  refine lexO_do rfl (fun K hK => ?_) lexO_stop
  go_wp2_with fail
  refine step_and (by repeat (first | with_reducible assumption | with_reducible exact SameAt.refl _ | with_reducible refine SameAt.drew ?_ | with_reducible refine SameAt.drewN ?_ _ | with_reducible refine SameAt.alloc ?_ _ | (refine SameAt.below ?_ (by with_reducible assumption)))) (fun _ => ?_)
  repeat
    first | refine lexO_pass rfl ?_ | (refine lexO_take2 ?_ rfl (by kernel_rfl) (by with_reducible assumption) (fun w' hS K Q' hK => ?_) ?_; rotate_left; focus (have hS2 := hS.2; clear hS; go_wp2_with fail; exact hK))
  refine lexO_do rfl (fun K hK => ?_) lexO_stop
  go_wp2_with fail
  refine step_last (by decide) (lexO_done ?_)
  go_wp2_with fail
  refine (clone_c (HO.out.keeps (by repeat (first | with_reducible assumption | with_reducible exact Keeps.refl _ _ | with_reducible refine Keeps.drew ?_ | with_reducible refine Keeps.drewN ?_ _ | with_reducible refine Keeps.alloc ?_ _ | with_reducible refine Keeps.setCell ?_ ?_ _ | omega | focus (simp; done) | focus (simp; omega)))) (by have := HAL.out; omega)).mono ?_
  rintro e2 w2 ⟨q2, cq2, rfl, hq2, hb2⟩
  have l2 := hb2.size
  have L0 : w2.cell? ⟨w1.heap.size, 0, none⟩ = some (.slice (some ⟨w1.heap.size + 1, 0, none⟩) 3 3) := (hb2.cell (p := ⟨w1.heap.size, 0, none⟩) (by simp; omega)).trans (by go_simp)
  have L1 : w2.cell? ⟨w1.heap.size, 1, none⟩ = some (.slice none 0 0) := (hb2.cell (p := ⟨w1.heap.size, 1, none⟩) (by simp; omega)).trans (by go_simp)
  have L2 : w2.cell? ⟨w1.heap.size, 2, none⟩ = some (.slice none 0 0) := (hb2.cell (p := ⟨w1.heap.size, 2, none⟩) (by simp; omega)).trans (by go_simp)
  have L3 : w2.cell? ⟨w1.heap.size, 3, none⟩ = some (.slice q pay.length cq) := (hb2.cell (p := ⟨w1.heap.size, 3, none⟩) (by simp; omega)).trans (by go_simp)
  have g0 : w2.frozen? ⟨w1.heap.size, 0, none⟩ = false := (hb2.frozen (p := ⟨w1.heap.size, 0, none⟩) (by simp; omega)).trans (by go_simp)
  have g1 : w2.frozen? ⟨w1.heap.size, 1, none⟩ = false := (hb2.frozen (p := ⟨w1.heap.size, 1, none⟩) (by simp; omega)).trans (by go_simp)
  have g2 : w2.frozen? ⟨w1.heap.size, 2, none⟩ = false := (hb2.frozen (p := ⟨w1.heap.size, 2, none⟩) (by simp; omega)).trans (by go_simp)
  have g3 : w2.frozen? ⟨w1.heap.size, 3, none⟩ = false := (hb2.frozen (p := ⟨w1.heap.size, 3, none⟩) (by simp; omega)).trans (by go_simp)
  have R0 : w2.cell? ⟨w.heap.size, 0, none⟩ = some (.slice none 0 0) := (hb2.cell (p := ⟨w.heap.size, 0, none⟩) (by simp; omega)).trans (by go_simp)
  have R1 : w2.cell? ⟨w.heap.size, 1, none⟩ = some (.slice none 0 0) := (hb2.cell (p := ⟨w.heap.size, 1, none⟩) (by simp; omega)).trans (by go_simp)
  have R2 : w2.cell? ⟨w.heap.size, 2, none⟩ = some (.slice none 0 0) := (hb2.cell (p := ⟨w.heap.size, 2, none⟩) (by simp; omega)).trans (by go_simp)
  have R3 : w2.cell? ⟨w.heap.size, 3, none⟩ = some (.slice none 0 0) := (hb2.cell (p := ⟨w.heap.size, 3, none⟩) (by simp; omega)).trans (by go_simp)
  have z0 : w2.frozen? ⟨w.heap.size, 0, none⟩ = false := (hb2.frozen (p := ⟨w.heap.size, 0, none⟩) (by simp; omega)).trans (by go_simp)
  have z1 : w2.frozen? ⟨w.heap.size, 1, none⟩ = false := (hb2.frozen (p := ⟨w.heap.size, 1, none⟩) (by simp; omega)).trans (by go_simp)
  have z2 : w2.frozen? ⟨w.heap.size, 2, none⟩ = false := (hb2.frozen (p := ⟨w.heap.size, 2, none⟩) (by simp; omega)).trans (by go_simp)
  have z3 : w2.frozen? ⟨w.heap.size, 3, none⟩ = false := (hb2.frozen (p := ⟨w.heap.size, 3, none⟩) (by simp; omega)).trans (by go_simp)
  have x21 : w2.cell? ⟨X, 21, none⟩ = some (.slice pI ps.length cI) := (hb2.cell (p := ⟨X, 21, none⟩) (by simp; omega)).trans (by go_simp)
  have HGF := Lib.hid (show ∀ j, w2.frozen? ⟨w1.heap.size, j, none⟩ = false from fun j => (hb2.frozen (p := ⟨w1.heap.size, j, none⟩) (by simp; omega)).trans (by go_simp))
  have HQ2 := Lib.hid (hq2.imp (fun b _ hb => (by simp at hb; omega : w1.heap.size < b)))
  have HN2 := Lib.hid ((hb2.block (w1.heap.size + 1) (by simp)).trans (show _ = some (.cells #[.int .u64 m, .int .u64 h, .int .u64 nn'] 39 (0, 0)) from (by (try simp only [heap_drew]); repeat (first | (with_reducible refine heap_last ?_; focus (simp; done)) | with_reducible refine heap_past ?_ | (with_reducible refine heap_set ?_ ?_; focus (first | omega | (simp; done) | (simp; omega))) | with_reducible assumption))))
  have hs := HQ.out
  have HS2 := Lib.hid ((show SB w1 (fun b => w.heap.size + 1 ≤ b ∧ b < w1.heap.size) (.slice q pay.length cq) pay from (by refine hs.imp ?_; intro b hbl hb; exact ⟨by simpa using hb, hbl⟩)).keeps (Keeps.trans (by repeat (first | with_reducible assumption | with_reducible exact Keeps.refl _ _ | with_reducible refine Keeps.drew ?_ | with_reducible refine Keeps.drewN ?_ _ | with_reducible refine Keeps.alloc ?_ _ | with_reducible refine Keeps.setCell ?_ ?_ _ | omega | focus (simp; done) | focus (simp; omega))) (Keeps.of_below hb2)))
  have h0 := below_new HB.out
  have q1 : Keeps (fun b => b < w.heap.size) w w1 := Keeps.of_below h0
  have HB2 := Lib.hid (show Below w.heap.size w w2 from below_next (by repeat (first | with_reducible assumption | with_reducible refine Below.drew ?_ | with_reducible refine below_drewN' ?_ _ | with_reducible refine Below.alloc ?_ ?_ _ | with_reducible refine Below.setCell ?_ ?_ _ | with_reducible exact Nat.le_refl _ | omega | focus (simp; done) | focus (simp; omega))) hb2 (by simp; omega))
  have l21 : w1.heap.size < w2.heap.size := by simp at l2; omega
  have l20 : w.heap.size < w2.heap.size := by omega
  have lX2 : X < w2.heap.size := by omega
  have nX : ¬ X = w1.heap.size := by omega
  have nX2 : ¬ w1.heap.size = X := by omega
  clear hq2 hb2 hs h0 q1 k2 k3 k4 k21 r0 r1 r2 r3 f0 f1 f2 f3
  go_wp2_with fail
  refine wp_gen (fun W => (W.cell? ⟨w1.heap.size, 0, none⟩ = some (.slice (some ⟨w1.heap.size + 1, 0, none⟩) 3 3) ∧ W.cell? ⟨w1.heap.size, 1, none⟩ = some (.slice (some ⟨w2.heap.size, 0, none⟩) 1 1) ∧ W.cell? ⟨w1.heap.size, 2, none⟩ = some (.slice none 0 0) ∧ W.cell? ⟨w1.heap.size, 3, none⟩ = some (.slice q pay.length cq)) ∧ (∀ j, W.frozen? ⟨w1.heap.size, j, none⟩ = false) ∧ w1.heap.size < W.heap.size ∧
    (SN W (fun b => w.heap.size < b ∧ b ≠ w1.heap.size) (.slice (some ⟨w1.heap.size + 1, 0, none⟩) 3 3) [m, h, nn'] ∧ SD W (fun b => w.heap.size < b ∧ b ≠ w1.heap.size) (.slice (some ⟨w2.heap.size, 0, none⟩) 1 1) [auth] ∧ SB W (fun b => w.heap.size < b ∧ b ≠ w1.heap.size) (.slice q pay.length cq) pay) ∧ (W.cell? ⟨w.heap.size, 0, none⟩ = some (.slice none 0 0) ∧ W.cell? ⟨w.heap.size, 1, none⟩ = some (.slice none 0 0) ∧ W.cell? ⟨w.heap.size, 2, none⟩ = some (.slice none 0 0) ∧ W.cell? ⟨w.heap.size, 3, none⟩ = some (.slice none 0 0)) ∧ (W.frozen? ⟨w.heap.size, 0, none⟩ = false ∧ W.frozen? ⟨w.heap.size, 1, none⟩ = false ∧ W.frozen? ⟨w.heap.size, 2, none⟩ = false ∧ W.frozen? ⟨w.heap.size, 3, none⟩ = false) ∧ Keeps (fun b => b < w.heap.size) w W ∧ Below w.heap.size w W) ?F (fun W hW => ?_)
  case F =>
    have h0 := HB2.out
    have q1 : Keeps (fun b => b < w.heap.size) w w2 := Keeps.of_below h0
    have hn2 := HN2.out
    refine ⟨⟨by go_simp, by go_simp, by go_simp, by go_simp⟩, ?_, by first | omega | focus (simp; done) | (simp; omega), ⟨IsSl.block (cs := #[.int .u64 m, .int .u64 h, .int .u64 nn']) (e := 39) (f := (0, 0)) (by (try simp only [heap_drew]); repeat (first | (with_reducible refine heap_last ?_; focus (simp; done)) | with_reducible refine heap_past ?_ | (with_reducible refine heap_set ?_ ?_; focus (first | omega | (simp; done) | (simp; omega))) | with_reducible assumption)) ⟨by omega, by omega⟩ (by omega), SD.one (v := .slice q2 auth.length cq2) (e := 22) (f := (0, 0)) (by (try simp only [heap_drew]); repeat (first | (with_reducible refine heap_last ?_; focus (simp; done)) | with_reducible refine heap_past ?_ | (with_reducible refine heap_set ?_ ?_; focus (first | omega | (simp; done) | (simp; omega))) | with_reducible assumption)) ⟨by omega, by omega⟩ ((HQ2.out.keeps (by repeat (first | with_reducible assumption | with_reducible exact Keeps.refl _ _ | with_reducible refine Keeps.drew ?_ | with_reducible refine Keeps.drewN ?_ _ | with_reducible refine Keeps.alloc ?_ _ | with_reducible refine Keeps.setCell ?_ ?_ _ | omega | focus (simp; done) | focus (simp; omega)))).imp (fun b _ hb => ⟨by omega, by omega⟩)), (HS2.out.keeps (by repeat (first | with_reducible assumption | with_reducible exact Keeps.refl _ _ | with_reducible refine Keeps.drew ?_ | with_reducible refine Keeps.drewN ?_ _ | with_reducible refine Keeps.alloc ?_ _ | with_reducible refine Keeps.setCell ?_ ?_ _ | omega | focus (simp; done) | focus (simp; omega)))).imp (fun b _ hb => ⟨by omega, by omega⟩)⟩, ⟨by go_simp, by go_simp, by go_simp, by go_simp⟩, ⟨by go_simp, by go_simp, by go_simp, by go_simp⟩, (by repeat (first | with_reducible assumption | with_reducible exact Keeps.refl _ _ | with_reducible refine Keeps.drew ?_ | with_reducible refine Keeps.drewN ?_ _ | with_reducible refine Keeps.alloc ?_ _ | with_reducible refine Keeps.setCell ?_ ?_ _ | omega | focus (simp; done) | focus (simp; omega))), (by repeat (first | with_reducible assumption | with_reducible refine Below.drew ?_ | with_reducible refine below_drewN' ?_ _ | with_reducible refine Below.alloc ?_ ?_ _ | with_reducible refine Below.setCell ?_ ?_ _ | with_reducible exact Nat.le_refl _ | omega | focus (simp; done) | focus (simp; omega)))⟩
    intro j
    have := HGF.out j
    go_simp
  obtain ⟨⟨lc0, lc1, lc2, lc3⟩, lf, lL, ⟨hN, hD2, hP2⟩, ⟨wr0, wr1, wr2, wr3⟩, ⟨wf0, wf1, wf2, wf3⟩, kW, bW⟩ := hW
  clear L0 L1 L2 L3 g0 g1 g2 g3 R0 R1 R2 R3 z0 z1 z2 z3 x21
  have hF0 : Fills W W (w1.heap.size) W.heap.size (fun b => w.heap.size < b ∧ b ≠ w1.heap.size) (.slice none 0 0) (ps.take 0) := Fills.start lL (Nat.le_refl _) lc2 lf
  have HN3 := Lib.hid (And.intro hN (And.intro hD2 hP2))
  have HK := Lib.hid (And.intro kW bW)
  have wL : w.heap.size < W.heap.size := World.block_lt_of_cell? _ _ wr0
  clear hN hD2 hP2 kW bW lf
  have HF0 := Lib.hid hF0
  clear hF0 
  go_loopw [30, 500] (fun _ i wr => ∃ k : Nat, k ≤ ps.length ∧ i = .int .i64 (k : Int) ∧ ∃ v, Fills W wr w1.heap.size W.heap.size (fun b => w.heap.size < b ∧ b ≠ w1.heap.size) v (ps.take k)) (fun _ i _ => ps.length - (intOf i).toNat)
  case atStart => exact ⟨0, Nat.zero_le _, rfl, _, HF0.out⟩
  case round =>
    obtain ⟨k, hk, rfl, v, hF⟩ := hrel
    have HF := Lib.hid hF
    have lLr : w1.heap.size < wr.heap.size := Nat.lt_of_lt_of_le hF.lt hF.le
    have lwr : w.heap.size < wr.heap.size := Nat.lt_of_lt_of_le wL hF.le
    have leW := hF.le
    have hown := hF.rows.own
    have ef := hF.froz 2
    obtain ⟨p, c', hv⟩ := hF.rows.form
    rw [show (ps.take k).length = k by simp; omega] at hv
    subst hv
    have e2 := hF.parts
    have e0 := hF.other 0 _ (by decide) lc0
    have e1 := hF.other 1 _ (by decide) lc1
    have e3 := hF.other 3 _ (by decide) lc3
    have v0 := hF.keep.cell (b := w.heap.size) (by constructor <;> omega) wr0
    have v1 := hF.keep.cell (b := w.heap.size) (by constructor <;> omega) wr1
    have v2 := hF.keep.cell (b := w.heap.size) (by constructor <;> omega) wr2
    have v3 := hF.keep.cell (b := w.heap.size) (by constructor <;> omega) wr3
    have y0 := hF.keep.frozen (b := w.heap.size) (by constructor <;> omega) wL wf0
    have y1 := hF.keep.frozen (b := w.heap.size) (by constructor <;> omega) wL wf1
    have y2 := hF.keep.frozen (b := w.heap.size) (by constructor <;> omega) wL wf2
    have y3 := hF.keep.frozen (b := w.heap.size) (by constructor <;> omega) wL wf3
    have HO := Lib.hid hown
    have HKG := Lib.hid ((HK.out.1.trans (hF.keep.imp (fun b hb => ⟨by omega, by omega⟩ : ∀ b, b < w.heap.size → b < W.heap.size ∧ b ≠ w1.heap.size))))
    clear hF hown
    by_cases hlt : k < ps.length
    · obtain ⟨gI, cI', cs, p0, hiv, hgI, -, hdk, hcs, a, nn, u, rfl, hp1, hu, ba, bn, bl⟩ := HI.out.get hlt
      simp only [Value.slice.injEq] at hiv
      obtain ⟨rfl, -, rfl⟩ := hiv
      have hck : ∀ i v, [Value.int .u8 a, .int .u8 nn, u][i]? = some v → wr.cell? ⟨gI, k * 3 + i, none⟩ = some v := fun i v hv => HKG.out.cell hgI (hcs i v hv)
      have HU := Lib.hid ((hu.imp (fun b hb _ => hb : ∀ b, b < w.heap.size → True → b < w.heap.size)).keeps HKG.out)
      obtain ⟨pu, cu, rfl, -⟩ := hu
      have hck0 : wr.cell? ⟨gI, k * 3, none⟩ = some (.int .u8 a) := hck 0 _ rfl
      have hck1 : wr.cell? ⟨gI, k * 3 + 1, none⟩ = some (.int .u8 nn) := hck 1 _ rfl
      have hck2 : wr.cell? ⟨gI, k * 3 + 2, none⟩ = some (.slice pu p0.2.length cu) := hck 2 _ rfl
      have hkI : ((k : Nat) : Int) < ((ps.length : Nat) : Int) := by omega
      have HDK := Lib.hid hdk
      have HP1 := Lib.hid hp1
      have lLr1 : w1.heap.size < wr.heap.size + 1 := by omega
      have lLr2 : w1.heap.size < wr.heap.size + 1 + 1 := by omega
      have lgI : gI < wr.heap.size := by omega
      have lgI1 : gI < wr.heap.size + 1 := by omega
      clear hcs hck hdk hp1
      go_wp2_with fail
      refine wp_region_on (fun b => b < W.heap.size ∨ b = wr.heap.size) (fun b hb => by first | omega | (rcases hb with hb | hb <;> omega) | (rcases hb with hb | hb <;> simp <;> omega)) [20] (.q 0 (.q 1 (.q 2 (.q 3 (.q 4 (.q 5 (.q 6 (.q 7 (.q 8 (.q 9 (.q 10 (.q 12 (.q 13 (.l 11 (.l 14 (.q 15 (.l 16 (.l 17 (.q 18 (.q 19 (.l 20 .done .stop))) .stop) .stop)) .stop) (.l 14 (.l 11 (.q 15 (.l 16 (.l 17 (.q 18 (.q 19 (.l 20 .done .stop))) .stop) .stop)) .stop) .stop))))))))))))))) (by kernel_rfl) (by kernel_rfl) (fun _ _ d _ _ h => by cases d <;> exact h) (by simp only [Ord.fill, nthOp]; rfl) ?_; intro hSm
      repeat
        first | refine lexO_pass rfl ?_ | (refine lexO_take2 ?_ rfl (by kernel_rfl) (by with_reducible assumption) (fun w' hS K Q' hK => ?_) ?_; rotate_left; focus (have hS2 := hS.2; clear hS; go_wp2_with fail; exact hK))
      refine lexO_do rfl (fun K hK => ?_) (lexO_do rfl (fun K hK => ?_) lexO_stop)
      · go_wp2_with fail
        refine step_and (by repeat (first | with_reducible assumption | (with_reducible refine SameOn.refl (fun b hb => ?_); first | omega | (rcases hb with hb | hb <;> omega) | (rcases hb with hb | hb <;> simp <;> omega)) | with_reducible refine SameOn.drew ?_ | with_reducible refine SameOn.alloc ?_ _ | (refine SameOn.below ?_ (by with_reducible assumption)))) (fun _ => ?_)
        repeat
          first | refine lexO_pass rfl ?_ | (refine lexO_take2 ?_ rfl (by kernel_rfl) (by with_reducible assumption) (fun w' hS K Q' hK => ?_) ?_; rotate_left; focus (have hS2 := hS.2; clear hS; go_wp2_with fail; exact hK))
        refine lexO_do rfl (fun K hK => ?_) lexO_stop
        go_wp2_with fail
        refine (clone_c (HU.out.keeps (by repeat (first | with_reducible assumption | with_reducible exact Keeps.refl _ _ | with_reducible refine Keeps.drew ?_ | with_reducible refine Keeps.drewN ?_ _ | with_reducible refine Keeps.alloc ?_ _ | with_reducible refine Keeps.setCell ?_ ?_ _ | omega | focus (simp; done) | focus (simp; omega)))) (by omega)).mono ?_
        rintro e5 w3 ⟨q3', cq3', rfl, hq3, hb3⟩
        have HQ5 := Lib.hid (hq3.imp (fun b _ hb => (by simp at hb; omega : wr.heap.size < b)))
        have hw3 : Below wr.heap.size wr w3 := below_next (by have h0 := Below.refl wr.heap.size wr; exact (by repeat (first | with_reducible assumption | with_reducible refine Below.drew ?_ | with_reducible refine below_drewN' ?_ _ | with_reducible refine Below.alloc ?_ ?_ _ | with_reducible refine Below.setCell ?_ ?_ _ | with_reducible exact Nat.le_refl _ | omega | focus (simp; done) | focus (simp; omega)))) hb3 (by simp <;> omega)
        have HB5 := Lib.hid hw3
        have HNB := Lib.hid ((hb3.block (wr.heap.size + 1) (by simp)).trans (show _ = some (.cells #[.int .u64 a, .int .u64 nn] 39 (0, 0)) from (by (try simp only [heap_drew]); repeat (first | (with_reducible refine heap_last ?_; focus (simp; done)) | with_reducible refine heap_past ?_ | (with_reducible refine heap_set ?_ ?_; focus (first | omega | (simp; done) | (simp; omega))) | with_reducible assumption))))
        have l3 : wr.heap.size < w3.heap.size := by have := hb3.size; simp at this; omega
        have l3b : wr.heap.size + 1 < w3.heap.size := by have := hb3.size; simp at this; omega
        have ll3 : w1.heap.size < w3.heap.size := by omega
        have lw3' : w.heap.size < w3.heap.size := by omega
        have n2' := (hb3.cell (p := ⟨w1.heap.size, 2, none⟩) (by simp; omega)).trans (show _ = some (.slice p k c') by go_simp)
        have nf' := (hb3.frozen (p := ⟨w1.heap.size, 2, none⟩) (by simp; omega)).trans (show _ = false by go_simp)
        go_wp2_with fail
        refine step_and (SameOn.below (by repeat (first | with_reducible assumption | (with_reducible refine SameOn.refl (fun b hb => ?_); first | omega | (rcases hb with hb | hb <;> omega) | (rcases hb with hb | hb <;> simp <;> omega)) | with_reducible refine SameOn.drew ?_ | with_reducible refine SameOn.alloc ?_ _ | (refine SameOn.below ?_ (by with_reducible assumption)))) hb3) (fun _ => ?_)
        clear hb3 hq3 hw3
        repeat
          first | refine lexO_pass rfl ?_ | (refine lexO_take2 ?_ rfl (by kernel_rfl) (by with_reducible assumption) (fun w' hS K Q' hK => ?_) ?_; rotate_left; focus (have hS2 := hS.2; clear hS; go_wp2_with fail; exact hK))
        refine lexO_do rfl (fun K hK => ?_) lexO_stop
        go_wp2_with fail
        refine step_and (by repeat (first | with_reducible assumption | (with_reducible refine SameOn.refl (fun b hb => ?_); first | omega | (rcases hb with hb | hb <;> omega) | (rcases hb with hb | hb <;> simp <;> omega)) | with_reducible refine SameOn.drew ?_ | with_reducible refine SameOn.alloc ?_ _ | (refine SameOn.below ?_ (by with_reducible assumption)))) (fun _ => ?_)
        repeat
          first | refine lexO_pass rfl ?_ | (refine lexO_take2 ?_ rfl (by kernel_rfl) (by with_reducible assumption) (fun w' hS K Q' hK => ?_) ?_; rotate_left; focus (have hS2 := hS.2; clear hS; go_wp2_with fail; exact hK))
        refine lexO_do rfl (fun K hK => ?_) lexO_stop
        refine wp_append_N2 (E := eP) (.tmp 508) (.tmp 520) 27 50 _ 48 rfl Try.underlying27 infoPart rfl (by decide) (by decide) (HF.out.rows.keeps (Keeps.trans (Keeps.of_below HB5.out) (by repeat (first | with_reducible assumption | with_reducible exact Keeps.refl _ _ | with_reducible refine Keeps.drew ?_ | with_reducible refine Keeps.drewN ?_ _ | with_reducible refine Keeps.alloc ?_ _ | with_reducible refine Keeps.setCell ?_ ?_ _ | omega | focus (simp; done) | focus (simp; omega))))) wr.heap.size (fun k hk => (HO.out k hk).2) rfl rfl (cs := [.slice (some ⟨wr.heap.size + 1, 0, none⟩) 2 2, .slice q3' p0.2.length cq3']) (y := p0) ?hcells ?hrep (by simp; omega) (by first | omega | (simp; omega)) (fun q' c2 w5 hr5 hs5 hk5 hb5 => hK _ _ ?_)
        case hcells =>
          intro j u hu
          rcases j with _ | _ | j
          · simp at hu; subst hu; go_simp
          · simp at hu; subst hu; go_simp
          · simp at hu
        case hrep =>
          have hnb := HNB.out
          refine ⟨_, _, rfl, ?_, ((HQ5.out.keeps (by repeat (first | with_reducible assumption | with_reducible exact Keeps.refl _ _ | with_reducible refine Keeps.drew ?_ | with_reducible refine Keeps.drewN ?_ _ | with_reducible refine Keeps.alloc ?_ _ | with_reducible refine Keeps.setCell ?_ ?_ _ | omega | focus (simp; done) | focus (simp; omega)))).imp (fun b _ hb => ⟨⟨by omega, by omega⟩, .inr (by omega)⟩))⟩
          rw [HP1.out]
          exact IsSl.block (cs := #[.int .u64 a, .int .u64 nn]) (e := 39) (f := (0, 0)) (by (try simp only [heap_drew]); repeat (first | (with_reducible refine heap_last ?_; focus (simp; done)) | with_reducible refine heap_past ?_ | (with_reducible refine heap_set ?_ ?_; focus (first | omega | (simp; done) | (simp; omega))) | with_reducible assumption)) ⟨⟨by omega, by omega⟩, .inr (by omega)⟩ (by omega)
        refine step_and (SameOn.keeps (by repeat (first | with_reducible assumption | (with_reducible refine SameOn.refl (fun b hb => ?_); first | omega | (rcases hb with hb | hb <;> omega) | (rcases hb with hb | hb <;> simp <;> omega)) | with_reducible refine SameOn.drew ?_ | with_reducible refine SameOn.alloc ?_ _ | (refine SameOn.below ?_ (by with_reducible assumption)))) hk5 (fun b hb => by omega)) (fun _ => ?_)
        rw [show (ps.take k).length = k by simp; omega] at hr5
        have hL5 : w5.cell? ⟨w1.heap.size, 2, none⟩ = some (.slice p k c') := hk5.cell (.inl lL) (by go_simp)
        have hf5 : w5.frozen? ⟨w1.heap.size, 2, none⟩ = false := hk5.frozen (.inl lL) (by first | omega | (simp; omega)) (by go_simp)
        have l5 : w1.heap.size < w5.heap.size := World.block_lt_of_cell? _ _ hL5
        have H5 := Lib.hid (HF.out.step (w5 := w5) (fun b hb => hb.2) (show Below wr.heap.size wr _ from (by have h0 := HB5.out; exact (by repeat (first | with_reducible assumption | with_reducible refine Below.drew ?_ | with_reducible refine below_drewN' ?_ _ | with_reducible refine Below.alloc ?_ ?_ _ | with_reducible refine Below.setCell ?_ ?_ _ | with_reducible exact Nat.le_refl _ | omega | focus (simp; done) | focus (simp; omega))))) hr5 hs5 (hk5.imp (fun b hb => .inl hb)) hb5)
        clear hr5 hs5 hk5 hb5
        repeat
          first | refine lexO_pass rfl ?_ | (refine lexO_take2 ?_ rfl (by kernel_rfl) (by with_reducible assumption) (fun w' hS K Q' hK => ?_) ?_; rotate_left; focus (have hS2 := hS.2; clear hS; go_wp2_with fail; exact hK))
        refine lexO_do rfl (fun K hK => ?_) lexO_stop
        go_wp2_with fail
        first | refine step_last (by decide) (lexO_done ?_) | refine lexO_done ?_
        go_wp2_with fail
        go_roundw
        case rel => exact ⟨k + 1, hlt, by go_num, _, by have := H5.out; rwa [take_snocR HDK.out] at this⟩
        case measure => simp [intOf]; omega
      · go_wp2_with fail
        refine (clone_c (HU.out.keeps (by repeat (first | with_reducible assumption | with_reducible exact Keeps.refl _ _ | with_reducible refine Keeps.drew ?_ | with_reducible refine Keeps.drewN ?_ _ | with_reducible refine Keeps.alloc ?_ _ | with_reducible refine Keeps.setCell ?_ ?_ _ | omega | focus (simp; done) | focus (simp; omega)))) (by omega)).mono ?_
        rintro e5 w3 ⟨q3', cq3', rfl, hq3, hb3⟩
        have HQ5 := Lib.hid (hq3.imp (fun b _ hb => (by simp at hb; omega : wr.heap.size < b)))
        have hw3 : Below wr.heap.size wr w3 := below_next (by have h0 := Below.refl wr.heap.size wr; exact (by repeat (first | with_reducible assumption | with_reducible refine Below.drew ?_ | with_reducible refine below_drewN' ?_ _ | with_reducible refine Below.alloc ?_ ?_ _ | with_reducible refine Below.setCell ?_ ?_ _ | with_reducible exact Nat.le_refl _ | omega | focus (simp; done) | focus (simp; omega)))) hb3 (by simp <;> omega)
        have HB5 := Lib.hid hw3
        have l3 : wr.heap.size < w3.heap.size := by have := hb3.size; simp at this; omega
        have ll3 : w1.heap.size < w3.heap.size := by omega
        have lw3' : w.heap.size < w3.heap.size := by omega
        have n2' := (hb3.cell (p := ⟨w1.heap.size, 2, none⟩) (by simp; omega)).trans (show _ = some (.slice p k c') by go_simp)
        have nf' := (hb3.frozen (p := ⟨w1.heap.size, 2, none⟩) (by simp; omega)).trans (show _ = false by go_simp)
        go_wp2_with fail
        refine step_and (SameOn.below (by repeat (first | with_reducible assumption | (with_reducible refine SameOn.refl (fun b hb => ?_); first | omega | (rcases hb with hb | hb <;> omega) | (rcases hb with hb | hb <;> simp <;> omega)) | with_reducible refine SameOn.drew ?_ | with_reducible refine SameOn.alloc ?_ _ | (refine SameOn.below ?_ (by with_reducible assumption)))) hb3) (fun _ => ?_)
        clear hb3 hq3 hw3
        repeat
          first | refine lexO_pass rfl ?_ | (refine lexO_take2 ?_ rfl (by kernel_rfl) (by with_reducible assumption) (fun w' hS K Q' hK => ?_) ?_; rotate_left; focus (have hS2 := hS.2; clear hS; go_wp2_with fail; exact hK))
        refine lexO_do rfl (fun K hK => ?_) lexO_stop
        go_wp2_with fail
        refine step_and (by repeat (first | with_reducible assumption | (with_reducible refine SameOn.refl (fun b hb => ?_); first | omega | (rcases hb with hb | hb <;> omega) | (rcases hb with hb | hb <;> simp <;> omega)) | with_reducible refine SameOn.drew ?_ | with_reducible refine SameOn.alloc ?_ _ | (refine SameOn.below ?_ (by with_reducible assumption)))) (fun _ => ?_)
        repeat
          first | refine lexO_pass rfl ?_ | (refine lexO_take2 ?_ rfl (by kernel_rfl) (by with_reducible assumption) (fun w' hS K Q' hK => ?_) ?_; rotate_left; focus (have hS2 := hS.2; clear hS; go_wp2_with fail; exact hK))
        refine lexO_do rfl (fun K hK => ?_) lexO_stop
        go_wp2_with fail
        refine step_and (by repeat (first | with_reducible assumption | (with_reducible refine SameOn.refl (fun b hb => ?_); first | omega | (rcases hb with hb | hb <;> omega) | (rcases hb with hb | hb <;> simp <;> omega)) | with_reducible refine SameOn.drew ?_ | with_reducible refine SameOn.alloc ?_ _ | (refine SameOn.below ?_ (by with_reducible assumption)))) (fun _ => ?_)
        repeat
          first | refine lexO_pass rfl ?_ | (refine lexO_take2 ?_ rfl (by kernel_rfl) (by with_reducible assumption) (fun w' hS K Q' hK => ?_) ?_; rotate_left; focus (have hS2 := hS.2; clear hS; go_wp2_with fail; exact hK))
        refine lexO_do rfl (fun K hK => ?_) lexO_stop
        refine wp_append_N2 (E := eP) (.tmp 508) (.tmp 520) 27 50 _ 48 rfl Try.underlying27 infoPart rfl (by decide) (by decide) (HF.out.rows.keeps (Keeps.trans (Keeps.of_below HB5.out) (by repeat (first | with_reducible assumption | with_reducible exact Keeps.refl _ _ | with_reducible refine Keeps.drew ?_ | with_reducible refine Keeps.drewN ?_ _ | with_reducible refine Keeps.alloc ?_ _ | with_reducible refine Keeps.setCell ?_ ?_ _ | omega | focus (simp; done) | focus (simp; omega))))) wr.heap.size (fun k hk => (HO.out k hk).2) rfl rfl (cs := [.slice (some ⟨w3.heap.size, 0, none⟩) 2 2, .slice q3' p0.2.length cq3']) (y := p0) ?hcells ?hrep (by simp; omega) (by first | omega | (simp; omega)) (fun q' c2 w5 hr5 hs5 hk5 hb5 => hK _ _ ?_)
        case hcells =>
          intro j u hu
          rcases j with _ | _ | j
          · simp at hu; subst hu; go_simp
          · simp at hu; subst hu; go_simp
          · simp at hu
        case hrep =>
          refine ⟨_, _, rfl, ?_, ((HQ5.out.keeps (by repeat (first | with_reducible assumption | with_reducible exact Keeps.refl _ _ | with_reducible refine Keeps.drew ?_ | with_reducible refine Keeps.drewN ?_ _ | with_reducible refine Keeps.alloc ?_ _ | with_reducible refine Keeps.setCell ?_ ?_ _ | omega | focus (simp; done) | focus (simp; omega)))).imp (fun b _ hb => ⟨⟨by omega, by omega⟩, .inr (by omega)⟩))⟩
          rw [HP1.out]
          exact IsSl.block (cs := #[.int .u64 a, .int .u64 nn]) (e := 39) (f := (0, 0)) (by (try simp only [heap_drew]); repeat (first | (with_reducible refine heap_last ?_; focus (simp; done)) | with_reducible refine heap_past ?_ | (with_reducible refine heap_set ?_ ?_; focus (first | omega | (simp; done) | (simp; omega))) | with_reducible assumption)) ⟨⟨by omega, by omega⟩, .inr (by omega)⟩ (by omega)
        refine step_and (SameOn.keeps (by repeat (first | with_reducible assumption | (with_reducible refine SameOn.refl (fun b hb => ?_); first | omega | (rcases hb with hb | hb <;> omega) | (rcases hb with hb | hb <;> simp <;> omega)) | with_reducible refine SameOn.drew ?_ | with_reducible refine SameOn.alloc ?_ _ | (refine SameOn.below ?_ (by with_reducible assumption)))) hk5 (fun b hb => by omega)) (fun _ => ?_)
        rw [show (ps.take k).length = k by simp; omega] at hr5
        have hL5 : w5.cell? ⟨w1.heap.size, 2, none⟩ = some (.slice p k c') := hk5.cell (.inl lL) (by go_simp)
        have hf5 : w5.frozen? ⟨w1.heap.size, 2, none⟩ = false := hk5.frozen (.inl lL) (by first | omega | (simp; omega)) (by go_simp)
        have l5 : w1.heap.size < w5.heap.size := World.block_lt_of_cell? _ _ hL5
        have H5 := Lib.hid (HF.out.step (w5 := w5) (fun b hb => hb.2) (show Below wr.heap.size wr _ from (by have h0 := HB5.out; exact (by repeat (first | with_reducible assumption | with_reducible refine Below.drew ?_ | with_reducible refine below_drewN' ?_ _ | with_reducible refine Below.alloc ?_ ?_ _ | with_reducible refine Below.setCell ?_ ?_ _ | with_reducible exact Nat.le_refl _ | omega | focus (simp; done) | focus (simp; omega))))) hr5 hs5 (hk5.imp (fun b hb => .inl hb)) hb5)
        clear hr5 hs5 hk5 hb5
        repeat
          first | refine lexO_pass rfl ?_ | (refine lexO_take2 ?_ rfl (by kernel_rfl) (by with_reducible assumption) (fun w' hS K Q' hK => ?_) ?_; rotate_left; focus (have hS2 := hS.2; clear hS; go_wp2_with fail; exact hK))
        refine lexO_do rfl (fun K hK => ?_) lexO_stop
        go_wp2_with fail
        first | refine step_last (by decide) (lexO_done ?_) | refine lexO_done ?_
        go_wp2_with fail
        go_roundw
        case rel => exact ⟨k + 1, hlt, by go_num, _, by have := H5.out; rwa [take_snocR HDK.out] at this⟩
        case measure => simp [intOf]; omega
    · obtain rfl : k = ps.length := by omega
      have hkI : ¬ ((ps.length : Nat) : Int) < ((ps.length : Nat) : Int) := by omega
      go_wp2_with fail
      refine bodyPost_ret (v := .tuple #[.agg #[.slice (some ⟨w1.heap.size + 1, 0, none⟩) 3 3, .slice (some ⟨w2.heap.size, 0, none⟩) 1 1, .slice p ps.length c', .slice q pay.length cq], .bool true]) (by simp only [results, Try.results36]; go_simp) rfl ?_
      have hF := HF.out
      rw [List.take_length] at hF
      have h0 : Below w.heap.size w wr := hF.below _ _ (by omega) HK.out.2
      refine ⟨_, rfl, ((hF.lay (ok' := fun b => w.heap.size < b) rfl HN3.out.1 HN3.out.2.1 HN3.out.2.2 (fun b hb => hb.2) (fun b hb => by omega) (fun b hb => hb.1) (fun b hb => hb.1)).keeps (by repeat (first | with_reducible assumption | with_reducible exact Keeps.refl _ _ | with_reducible refine Keeps.drew ?_ | with_reducible refine Keeps.drewN ?_ _ | with_reducible refine Keeps.alloc ?_ _ | with_reducible refine Keeps.setCell ?_ ?_ _ | omega | focus (simp; done) | focus (simp; omega)))).imp (fun b _ hb => by omega), (by repeat (first | with_reducible assumption | with_reducible refine Below.drew ?_ | with_reducible refine below_drewN' ?_ _ | with_reducible refine Below.alloc ?_ ?_ _ | with_reducible refine Below.setCell ?_ ?_ _ | with_reducible exact Nat.le_refl _ | omega | focus (simp; done) | focus (simp; omega)))⟩
end Go.Proofs.Ytaofambmajlhmaa
