/-
  impl.made of asfpong.
-/
import Derived.Test.YtaejicpdaldpiaaGreatMake
namespace Go.Proofs.YtaejicpdaldpiaaGreat
open Go Go.RowKit

def MIsAsfpong (x0 a0 a1 a2 a3 : Int) (t2 t3 t4 t5 : Bool) (w : World) (X : Nat) : Prop :=
  X < w.heap.size ∧ w.cell? ⟨X, 2, none⟩ = some (.int .u32 x0) ∧ w.cell? ⟨X, 3, none⟩ = some (.int .u8 a0) ∧ w.cell? ⟨X, 4, none⟩ = some (.int .u8 a1) ∧ w.cell? ⟨X, 5, none⟩ = some (.int .u8 a2) ∧ w.cell? ⟨X, 6, none⟩ = some (.int .u8 a3) ∧
    w.cell? ⟨X, 7, none⟩ = some (.bool t2) ∧ w.cell? ⟨X, 8, none⟩ = some (.bool t3) ∧ w.cell? ⟨X, 9, none⟩ = some (.bool t4) ∧ w.cell? ⟨X, 10, none⟩ = some (.bool t5)

set_option maxRecDepth 100000 in
set_option maxHeartbeats 4000000 in
theorem made_asfpong {x0 a0 a1 a2 a3 : Int} {t2 t3 t4 t5 : Bool} {pay : List Int} (h0 : 0 ≤ x0 ∧ x0 ≤ 4294967295) :
    MadeOf (.string ⟨#[97, 115, 102, 112, 111, 110, 103]⟩) ⟨[x0, b01 t2, b01 t3, b01 t4, b01 t5], [[a0, a1, a2, a3]], [], pay⟩ 140 (MIsAsfpong x0 a0 a1 a2 a3 t2 t3 t4 t5) := by
  intro vv w h
  obtain ⟨a, b, c, d, rfl, hn, hd, hp, hpl⟩ := h
  obtain ⟨nb, no, nc, rfl, lnb, hnc⟩ := hn.cellsN (n := 5) rfl (by decide)
  obtain ⟨pd, po, cd, rfl, lpd, hdc⟩ := hd.cellsN (n := 1) rfl (by decide)
  obtain ⟨pp, cp, rfl⟩ := hp.form
  obtain ⟨pl, cl, rfl⟩ := hpl.form
  have e0 := hnc 0 _ rfl
  have e1 := hnc 1 _ rfl
  have e2 := hnc 2 _ rfl
  have e3 := hnc 3 _ rfl
  have e4 := hnc 4 _ rfl
  rw [Nat.add_zero] at e0
  obtain ⟨u1, eu1, hu1⟩ := hdc 0 _ rfl
  have HU1 := Lib.hid (hu1.imp (fun b hb _ => hb : ∀ b, b < w.heap.size → True → b < w.heap.size))
  clear hu1
  rw [Nat.add_zero] at eu1
  have l1 : nb < w.heap.size + 1 := by omega
  have l2 : nb < w.heap.size + 1 + 1 := by omega
  have l3 : pd < w.heap.size + 1 := by omega
  have l4 : pd < w.heap.size + 1 + 1 := by omega
  have hdr : ∀ (W : World) (q : Nat) (p : Addr) (v : Value), (W.drewN q).setCell p v = (W.setCell p v).drewN q := fun _ _ _ _ => rfl
  clear hnc hn hd hp hpl hdc
  go_enter Tryz.func34, Tryz.ntmps34
  go_wp2_with fail
  refine (num32_c (n := 0) (N := 0) (b := nb) (o := no) (m := 5) (c := nc) (x := x0) (by go_simp) (by go_simp) (by go_simp) rfl (by go_simp) (by omega) (by omega) h0 (by omega)).mono ?_
  rintro e w' ⟨rfl, q0, rfl⟩
  go_wp2_with fail
  refine (bytes_c (n := 0) (N := 0) (b := pd) (o := po) (m := 1) (c := cd) (u := u1) (bs := [a0, a1, a2, a3]) (by first | omega | (simp; done) | (simp; omega)) (by first | omega | (simp; done) | (simp; omega)) (by go_simp) (by go_simp) (by go_simp) rfl (by go_simp) ((HU1.out.keeps (by repeat (first | with_reducible assumption | with_reducible exact Keeps.refl _ _ | with_reducible refine Keeps.drew ?_ | with_reducible refine Keeps.drewN ?_ _ | with_reducible refine Keeps.alloc ?_ _ | with_reducible refine Keeps.setCell ?_ ?_ _ | omega | focus (simp; done) | focus (simp; omega)))).imp (fun b _ hb => by omega)) (by omega) (by omega) (by simp) (by omega)).mono ?_
  rintro e w1 ⟨pb1, cb1, rfl, hs1, hb1⟩
  have kc1_0 : w1.cell? ⟨w.heap.size + 1, 0, none⟩ = some (.slice (some ⟨nb, no, none⟩) 5 nc) := (hb1.cell (p := ⟨w.heap.size + 1, 0, none⟩) (by first | omega | (simp; done) | (simp; omega))).trans (by go_simp)
  have kc1_1 : w1.cell? ⟨w.heap.size + 1, 1, none⟩ = some (.slice (some ⟨pd, po, none⟩) 1 cd) := (hb1.cell (p := ⟨w.heap.size + 1, 1, none⟩) (by first | omega | (simp; done) | (simp; omega))).trans (by go_simp)
  have kc1_2 : w1.cell? ⟨w.heap.size + 1, 2, none⟩ = some (.slice pp 0 cp) := (hb1.cell (p := ⟨w.heap.size + 1, 2, none⟩) (by first | omega | (simp; done) | (simp; omega))).trans (by go_simp)
  have kc1_3 : w1.cell? ⟨w.heap.size + 1, 3, none⟩ = some (.slice pl pay.length cl) := (hb1.cell (p := ⟨w.heap.size + 1, 3, none⟩) (by first | omega | (simp; done) | (simp; omega))).trans (by go_simp)
  have kc1_4 : w1.cell? ⟨w.heap.size + 1, 4, none⟩ = some (.int .i64 1) := (hb1.cell (p := ⟨w.heap.size + 1, 4, none⟩) (by first | omega | (simp; done) | (simp; omega))).trans (by go_simp)
  have kc1_5 : w1.cell? ⟨w.heap.size + 1, 5, none⟩ = some (.int .i64 1) := (hb1.cell (p := ⟨w.heap.size + 1, 5, none⟩) (by first | omega | (simp; done) | (simp; omega))).trans (by go_simp)
  have kc1_6 : w1.cell? ⟨w.heap.size + 1, 6, none⟩ = some (.bool false) := (hb1.cell (p := ⟨w.heap.size + 1, 6, none⟩) (by first | omega | (simp; done) | (simp; omega))).trans (by go_simp)
  have kc1_7 : w1.cell? ⟨w.heap.size + 1, 7, none⟩ = some (.bool false) := (hb1.cell (p := ⟨w.heap.size + 1, 7, none⟩) (by first | omega | (simp; done) | (simp; omega))).trans (by go_simp)
  have kx1_0 : w1.cell? ⟨w.heap.size + 1 + 1, 0, none⟩ = some (.slice none 0 0) := (hb1.cell (p := ⟨w.heap.size + 1 + 1, 0, none⟩) (by first | omega | (simp; done) | (simp; omega))).trans (by go_simp)
  have kx1_1 : w1.cell? ⟨w.heap.size + 1 + 1, 1, none⟩ = some (.slice none 0 0) := (hb1.cell (p := ⟨w.heap.size + 1 + 1, 1, none⟩) (by first | omega | (simp; done) | (simp; omega))).trans (by go_simp)
  have kx1_2 : w1.cell? ⟨w.heap.size + 1 + 1, 2, none⟩ = some (.int .u32 x0) := (hb1.cell (p := ⟨w.heap.size + 1 + 1, 2, none⟩) (by first | omega | (simp; done) | (simp; omega))).trans (by go_simp)
  have kx1_3 : w1.cell? ⟨w.heap.size + 1 + 1, 3, none⟩ = some (.int .u8 0) := (hb1.cell (p := ⟨w.heap.size + 1 + 1, 3, none⟩) (by first | omega | (simp; done) | (simp; omega))).trans (by go_simp)
  have kx1_4 : w1.cell? ⟨w.heap.size + 1 + 1, 4, none⟩ = some (.int .u8 0) := (hb1.cell (p := ⟨w.heap.size + 1 + 1, 4, none⟩) (by first | omega | (simp; done) | (simp; omega))).trans (by go_simp)
  have kx1_5 : w1.cell? ⟨w.heap.size + 1 + 1, 5, none⟩ = some (.int .u8 0) := (hb1.cell (p := ⟨w.heap.size + 1 + 1, 5, none⟩) (by first | omega | (simp; done) | (simp; omega))).trans (by go_simp)
  have kx1_6 : w1.cell? ⟨w.heap.size + 1 + 1, 6, none⟩ = some (.int .u8 0) := (hb1.cell (p := ⟨w.heap.size + 1 + 1, 6, none⟩) (by first | omega | (simp; done) | (simp; omega))).trans (by go_simp)
  have kx1_7 : w1.cell? ⟨w.heap.size + 1 + 1, 7, none⟩ = some (.bool false) := (hb1.cell (p := ⟨w.heap.size + 1 + 1, 7, none⟩) (by first | omega | (simp; done) | (simp; omega))).trans (by go_simp)
  have kx1_8 : w1.cell? ⟨w.heap.size + 1 + 1, 8, none⟩ = some (.bool false) := (hb1.cell (p := ⟨w.heap.size + 1 + 1, 8, none⟩) (by first | omega | (simp; done) | (simp; omega))).trans (by go_simp)
  have kx1_9 : w1.cell? ⟨w.heap.size + 1 + 1, 9, none⟩ = some (.bool false) := (hb1.cell (p := ⟨w.heap.size + 1 + 1, 9, none⟩) (by first | omega | (simp; done) | (simp; omega))).trans (by go_simp)
  have kx1_10 : w1.cell? ⟨w.heap.size + 1 + 1, 10, none⟩ = some (.bool false) := (hb1.cell (p := ⟨w.heap.size + 1 + 1, 10, none⟩) (by first | omega | (simp; done) | (simp; omega))).trans (by go_simp)
  have fc1 : ∀ j, w1.frozen? ⟨w.heap.size + 1, j, none⟩ = false := fun j => (hb1.frozen (p := ⟨w.heap.size + 1, j, none⟩) (by first | omega | (simp; done) | (simp; omega))).trans (by go_simp)
  have fx1 : ∀ j, w1.frozen? ⟨w.heap.size + 1 + 1, j, none⟩ = false := fun j => (hb1.frozen (p := ⟨w.heap.size + 1 + 1, j, none⟩) (by first | omega | (simp; done) | (simp; omega))).trans (by go_simp)
  have fc1_4 := fc1 4
  have fc1_5 := fc1 5
  have fx1_2 := fx1 2
  have fx1_3 := fx1 3
  have fx1_4 := fx1 4
  have fx1_5 := fx1 5
  have fx1_6 := fx1 6
  have fx1_7 := fx1 7
  have fx1_8 := fx1 8
  have fx1_9 := fx1 9
  have fx1_10 := fx1 10
  have lw1 : w.heap.size + 1 + 1 < w1.heap.size := World.block_lt_of_cell? _ _ kx1_0
  have lC1 : w.heap.size + 1 < w1.heap.size := by omega
  have ke1_1 : w1.cell? ⟨nb, no + 1, none⟩ = some (.int .u64 (b01 t2)) := (hb1.cell (p := ⟨nb, no + 1, none⟩) (by first | omega | (simp; done) | (simp; omega))).trans (by go_simp)
  have ke1_2 : w1.cell? ⟨nb, no + 2, none⟩ = some (.int .u64 (b01 t3)) := (hb1.cell (p := ⟨nb, no + 2, none⟩) (by first | omega | (simp; done) | (simp; omega))).trans (by go_simp)
  have ke1_3 : w1.cell? ⟨nb, no + 3, none⟩ = some (.int .u64 (b01 t4)) := (hb1.cell (p := ⟨nb, no + 3, none⟩) (by first | omega | (simp; done) | (simp; omega))).trans (by go_simp)
  have ke1_4 : w1.cell? ⟨nb, no + 4, none⟩ = some (.int .u64 (b01 t5)) := (hb1.cell (p := ⟨nb, no + 4, none⟩) (by first | omega | (simp; done) | (simp; omega))).trans (by go_simp)
  have HB1 := Lib.hid (show Below w.heap.size w w1 from Below.trans (by have h0 := Below.refl w.heap.size w; exact (by repeat (first | with_reducible assumption | with_reducible refine Below.drew ?_ | with_reducible refine below_drewN' ?_ _ | with_reducible refine Below.alloc ?_ ?_ _ | with_reducible refine Below.setCell ?_ ?_ _ | with_reducible exact Nat.le_refl _ | omega | focus (simp; done) | focus (simp; omega)))) (hb1.mono (by simp <;> omega)))
  have lnb1 : nb < w1.heap.size := by omega
  obtain ⟨pg, po1, rfl, lpg, hpg⟩ : ∃ g o, pb1 = some ⟨g, o, none⟩ ∧ w.heap.size + 1 + 1 < g ∧ ∀ j u, ([a0, a1, a2, a3].map (Value.int .u8))[j]? = some u → w1.cell? ⟨g, o + j, none⟩ = some u := by
    obtain ⟨p', c', he, -, -, -, hr⟩ := hs1
    simp only [Value.slice.injEq] at he
    obtain ⟨rfl, -, -⟩ := he
    rcases hr with hr | ⟨g, o, rfl, hg, -, hcl⟩
    · simp at hr
    · exact ⟨g, o, rfl, by simp at hg; omega, hcl⟩
  have WS : ∀ j v, [Value.int .u8 a0, .int .u8 a1, .int .u8 a2, .int .u8 a3][j]? = some v → w1.cell? ((⟨pg, po1, none⟩ : Addr).add j) = some v := fun j v hv => by rw [addr_add]; exact hpg j v hv
  clear hb1 hs1 e1 e2 e3 e4 e0 hpg HU1 eu1
  go_wp2_with fail
  rw [run_copy_cells (P := Tryz.prog) w1 _ _ _ 5 _ _ _ _ _ _ _ [.int .u8 a0, .int .u8 a1, .int .u8 a2, .int .u8 a3] Tryz.underlying22 sz1B rfl WS ?hcc ?hcf ?hco]
  case hcc =>
    intro j hj
    rcases j with _ | _ | _ | _ | j
    · rw [Nat.add_zero, kx1_3]; rfl
    · rw [show 3 + (0 + 1) = 4 from rfl, kx1_4]; rfl
    · rw [show 3 + (0 + 1 + 1) = 5 from rfl, kx1_5]; rfl
    · rw [show 3 + (0 + 1 + 1 + 1) = 6 from rfl, kx1_6]; rfl
    · simp at hj; omega
  case hcf => exact fun j _ => fx1 _
  case hco => simp [Value.oneCell']
  clear WS
  generalize hw : World.setCells w1 _ _ _ = w2
  simp only [World.setCells] at hw
  have kc2_0 : w2.cell? ⟨w.heap.size + 1, 0, none⟩ = some (.slice (some ⟨nb, no, none⟩) 5 nc) := by rw [← hw]; clear hw; go_simp
  have kc2_1 : w2.cell? ⟨w.heap.size + 1, 1, none⟩ = some (.slice (some ⟨pd, po, none⟩) 1 cd) := by rw [← hw]; clear hw; go_simp
  have kc2_2 : w2.cell? ⟨w.heap.size + 1, 2, none⟩ = some (.slice pp 0 cp) := by rw [← hw]; clear hw; go_simp
  have kc2_3 : w2.cell? ⟨w.heap.size + 1, 3, none⟩ = some (.slice pl pay.length cl) := by rw [← hw]; clear hw; go_simp
  have kc2_4 : w2.cell? ⟨w.heap.size + 1, 4, none⟩ = some (.int .i64 1) := by rw [← hw]; clear hw; go_simp
  have kc2_5 : w2.cell? ⟨w.heap.size + 1, 5, none⟩ = some (.int .i64 1) := by rw [← hw]; clear hw; go_simp
  have kc2_6 : w2.cell? ⟨w.heap.size + 1, 6, none⟩ = some (.bool false) := by rw [← hw]; clear hw; go_simp
  have kc2_7 : w2.cell? ⟨w.heap.size + 1, 7, none⟩ = some (.bool false) := by rw [← hw]; clear hw; go_simp
  have kx2_0 : w2.cell? ⟨w.heap.size + 1 + 1, 0, none⟩ = some (.slice none 0 0) := by rw [← hw]; clear hw; go_simp
  have kx2_1 : w2.cell? ⟨w.heap.size + 1 + 1, 1, none⟩ = some (.slice none 0 0) := by rw [← hw]; clear hw; go_simp
  have kx2_2 : w2.cell? ⟨w.heap.size + 1 + 1, 2, none⟩ = some (.int .u32 x0) := by rw [← hw]; clear hw; go_simp
  have kx2_3 : w2.cell? ⟨w.heap.size + 1 + 1, 3, none⟩ = some (.int .u8 a0) := by rw [← hw]; clear hw; go_simp
  have kx2_4 : w2.cell? ⟨w.heap.size + 1 + 1, 4, none⟩ = some (.int .u8 a1) := by rw [← hw]; clear hw; go_simp
  have kx2_5 : w2.cell? ⟨w.heap.size + 1 + 1, 5, none⟩ = some (.int .u8 a2) := by rw [← hw]; clear hw; go_simp
  have kx2_6 : w2.cell? ⟨w.heap.size + 1 + 1, 6, none⟩ = some (.int .u8 a3) := by rw [← hw]; clear hw; go_simp
  have kx2_7 : w2.cell? ⟨w.heap.size + 1 + 1, 7, none⟩ = some (.bool false) := by rw [← hw]; clear hw; go_simp
  have kx2_8 : w2.cell? ⟨w.heap.size + 1 + 1, 8, none⟩ = some (.bool false) := by rw [← hw]; clear hw; go_simp
  have kx2_9 : w2.cell? ⟨w.heap.size + 1 + 1, 9, none⟩ = some (.bool false) := by rw [← hw]; clear hw; go_simp
  have kx2_10 : w2.cell? ⟨w.heap.size + 1 + 1, 10, none⟩ = some (.bool false) := by rw [← hw]; clear hw; go_simp
  have fc2 : ∀ j, w2.frozen? ⟨w.heap.size + 1, j, none⟩ = false := fun j => by rw [← hw]; clear hw; go_simp
  have fx2 : ∀ j, w2.frozen? ⟨w.heap.size + 1 + 1, j, none⟩ = false := fun j => by rw [← hw]; clear hw; go_simp
  have fc2_4 := fc2 4
  have fc2_5 := fc2 5
  have fx2_2 := fx2 2
  have fx2_3 := fx2 3
  have fx2_4 := fx2 4
  have fx2_5 := fx2 5
  have fx2_6 := fx2 6
  have fx2_7 := fx2 7
  have fx2_8 := fx2 8
  have fx2_9 := fx2 9
  have fx2_10 := fx2 10
  have lw2 : w.heap.size + 1 + 1 < w2.heap.size := World.block_lt_of_cell? _ _ kx2_0
  have lC2 : w.heap.size + 1 < w2.heap.size := by omega
  have ke2_1 : w2.cell? ⟨nb, no + 1, none⟩ = some (.int .u64 (b01 t2)) := by rw [← hw]; clear hw; go_simp
  have ke2_2 : w2.cell? ⟨nb, no + 2, none⟩ = some (.int .u64 (b01 t3)) := by rw [← hw]; clear hw; go_simp
  have ke2_3 : w2.cell? ⟨nb, no + 3, none⟩ = some (.int .u64 (b01 t4)) := by rw [← hw]; clear hw; go_simp
  have ke2_4 : w2.cell? ⟨nb, no + 4, none⟩ = some (.int .u64 (b01 t5)) := by rw [← hw]; clear hw; go_simp
  have HB2 := Lib.hid (show Below w.heap.size w w2 from by rw [← hw]; clear hw; have h0 := HB1.out; exact (by repeat (first | with_reducible assumption | with_reducible refine Below.drew ?_ | with_reducible refine below_drewN' ?_ _ | with_reducible refine Below.alloc ?_ ?_ _ | with_reducible refine Below.setCell ?_ ?_ _ | with_reducible exact Nat.le_refl _ | omega | focus (simp; done) | focus (simp; omega))))
  have lnb2 : nb < w2.heap.size := by omega
  clear hw kc1_0 kc1_1 kc1_2 kc1_3 kc1_4 kc1_5 kc1_6 kc1_7 kx1_0 kx1_1 kx1_2 kx1_3 kx1_4 kx1_5 kx1_6 kx1_7 kx1_8 kx1_9 kx1_10 ke1_1 ke1_2 ke1_3 ke1_4 fc1_4 fc1_5 fx1_2 fx1_3 fx1_4 fx1_5 fx1_6 fx1_7 fx1_8 fx1_9 fx1_10 fc1 fx1 lw1 lC1 lnb1
  go_wp2_with fail
  refine (truth_c (n := 1) (N := 1) (b := nb) (o := no) (m := 5) (c := nc) (t := t2) (by go_simp) (by go_simp) (by go_simp) rfl (by go_simp) (by omega) (by omega) (by omega)).mono ?_
  rintro e w3 ⟨rfl, q2, hw⟩
  have kc3_0 : w3.cell? ⟨w.heap.size + 1, 0, none⟩ = some (.slice (some ⟨nb, no, none⟩) 5 nc) := by rw [← hw]; clear hw; go_simp
  have kc3_1 : w3.cell? ⟨w.heap.size + 1, 1, none⟩ = some (.slice (some ⟨pd, po, none⟩) 1 cd) := by rw [← hw]; clear hw; go_simp
  have kc3_2 : w3.cell? ⟨w.heap.size + 1, 2, none⟩ = some (.slice pp 0 cp) := by rw [← hw]; clear hw; go_simp
  have kc3_3 : w3.cell? ⟨w.heap.size + 1, 3, none⟩ = some (.slice pl pay.length cl) := by rw [← hw]; clear hw; go_simp
  have kc3_4 : w3.cell? ⟨w.heap.size + 1, 4, none⟩ = some (.int .i64 2) := by rw [← hw]; clear hw; go_simp
  have kc3_5 : w3.cell? ⟨w.heap.size + 1, 5, none⟩ = some (.int .i64 1) := by rw [← hw]; clear hw; go_simp
  have kc3_6 : w3.cell? ⟨w.heap.size + 1, 6, none⟩ = some (.bool false) := by rw [← hw]; clear hw; go_simp
  have kc3_7 : w3.cell? ⟨w.heap.size + 1, 7, none⟩ = some (.bool false) := by rw [← hw]; clear hw; go_simp
  have kx3_0 : w3.cell? ⟨w.heap.size + 1 + 1, 0, none⟩ = some (.slice none 0 0) := by rw [← hw]; clear hw; go_simp
  have kx3_1 : w3.cell? ⟨w.heap.size + 1 + 1, 1, none⟩ = some (.slice none 0 0) := by rw [← hw]; clear hw; go_simp
  have kx3_2 : w3.cell? ⟨w.heap.size + 1 + 1, 2, none⟩ = some (.int .u32 x0) := by rw [← hw]; clear hw; go_simp
  have kx3_3 : w3.cell? ⟨w.heap.size + 1 + 1, 3, none⟩ = some (.int .u8 a0) := by rw [← hw]; clear hw; go_simp
  have kx3_4 : w3.cell? ⟨w.heap.size + 1 + 1, 4, none⟩ = some (.int .u8 a1) := by rw [← hw]; clear hw; go_simp
  have kx3_5 : w3.cell? ⟨w.heap.size + 1 + 1, 5, none⟩ = some (.int .u8 a2) := by rw [← hw]; clear hw; go_simp
  have kx3_6 : w3.cell? ⟨w.heap.size + 1 + 1, 6, none⟩ = some (.int .u8 a3) := by rw [← hw]; clear hw; go_simp
  have kx3_7 : w3.cell? ⟨w.heap.size + 1 + 1, 7, none⟩ = some (.bool false) := by rw [← hw]; clear hw; go_simp
  have kx3_8 : w3.cell? ⟨w.heap.size + 1 + 1, 8, none⟩ = some (.bool false) := by rw [← hw]; clear hw; go_simp
  have kx3_9 : w3.cell? ⟨w.heap.size + 1 + 1, 9, none⟩ = some (.bool false) := by rw [← hw]; clear hw; go_simp
  have kx3_10 : w3.cell? ⟨w.heap.size + 1 + 1, 10, none⟩ = some (.bool false) := by rw [← hw]; clear hw; go_simp
  have fc3 : ∀ j, w3.frozen? ⟨w.heap.size + 1, j, none⟩ = false := fun j => by rw [← hw]; clear hw; go_simp
  have fx3 : ∀ j, w3.frozen? ⟨w.heap.size + 1 + 1, j, none⟩ = false := fun j => by rw [← hw]; clear hw; go_simp
  have fc3_4 := fc3 4
  have fc3_5 := fc3 5
  have fx3_2 := fx3 2
  have fx3_3 := fx3 3
  have fx3_4 := fx3 4
  have fx3_5 := fx3 5
  have fx3_6 := fx3 6
  have fx3_7 := fx3 7
  have fx3_8 := fx3 8
  have fx3_9 := fx3 9
  have fx3_10 := fx3 10
  have lw3 : w.heap.size + 1 + 1 < w3.heap.size := World.block_lt_of_cell? _ _ kx3_0
  have lC3 : w.heap.size + 1 < w3.heap.size := by omega
  have ke3_1 : w3.cell? ⟨nb, no + 1, none⟩ = some (.int .u64 (b01 t2)) := by rw [← hw]; clear hw; go_simp
  have ke3_2 : w3.cell? ⟨nb, no + 2, none⟩ = some (.int .u64 (b01 t3)) := by rw [← hw]; clear hw; go_simp
  have ke3_3 : w3.cell? ⟨nb, no + 3, none⟩ = some (.int .u64 (b01 t4)) := by rw [← hw]; clear hw; go_simp
  have ke3_4 : w3.cell? ⟨nb, no + 4, none⟩ = some (.int .u64 (b01 t5)) := by rw [← hw]; clear hw; go_simp
  have HB3 := Lib.hid (show Below w.heap.size w w3 from by rw [← hw]; clear hw; have h0 := HB2.out; exact (by repeat (first | with_reducible assumption | with_reducible refine Below.drew ?_ | with_reducible refine below_drewN' ?_ _ | with_reducible refine Below.alloc ?_ ?_ _ | with_reducible refine Below.setCell ?_ ?_ _ | with_reducible exact Nat.le_refl _ | omega | focus (simp; done) | focus (simp; omega))))
  have lnb3 : nb < w3.heap.size := by omega
  clear hw kc2_0 kc2_1 kc2_2 kc2_3 kc2_4 kc2_5 kc2_6 kc2_7 kx2_0 kx2_1 kx2_2 kx2_3 kx2_4 kx2_5 kx2_6 kx2_7 kx2_8 kx2_9 kx2_10 ke2_1 ke2_2 ke2_3 ke2_4 fc2_4 fc2_5 fx2_2 fx2_3 fx2_4 fx2_5 fx2_6 fx2_7 fx2_8 fx2_9 fx2_10 fc2 fx2 lw2 lC2 lnb2
  go_wp2_with fail
  refine (truth_c (n := 2) (N := 2) (b := nb) (o := no) (m := 5) (c := nc) (t := t3) (by go_simp) (by go_simp) (by go_simp) rfl (by go_simp) (by omega) (by omega) (by omega)).mono ?_
  rintro e w4 ⟨rfl, q3, hw⟩
  have kc4_0 : w4.cell? ⟨w.heap.size + 1, 0, none⟩ = some (.slice (some ⟨nb, no, none⟩) 5 nc) := by rw [← hw]; clear hw; go_simp
  have kc4_1 : w4.cell? ⟨w.heap.size + 1, 1, none⟩ = some (.slice (some ⟨pd, po, none⟩) 1 cd) := by rw [← hw]; clear hw; go_simp
  have kc4_2 : w4.cell? ⟨w.heap.size + 1, 2, none⟩ = some (.slice pp 0 cp) := by rw [← hw]; clear hw; go_simp
  have kc4_3 : w4.cell? ⟨w.heap.size + 1, 3, none⟩ = some (.slice pl pay.length cl) := by rw [← hw]; clear hw; go_simp
  have kc4_4 : w4.cell? ⟨w.heap.size + 1, 4, none⟩ = some (.int .i64 3) := by rw [← hw]; clear hw; go_simp
  have kc4_5 : w4.cell? ⟨w.heap.size + 1, 5, none⟩ = some (.int .i64 1) := by rw [← hw]; clear hw; go_simp
  have kc4_6 : w4.cell? ⟨w.heap.size + 1, 6, none⟩ = some (.bool false) := by rw [← hw]; clear hw; go_simp
  have kc4_7 : w4.cell? ⟨w.heap.size + 1, 7, none⟩ = some (.bool false) := by rw [← hw]; clear hw; go_simp
  have kx4_0 : w4.cell? ⟨w.heap.size + 1 + 1, 0, none⟩ = some (.slice none 0 0) := by rw [← hw]; clear hw; go_simp
  have kx4_1 : w4.cell? ⟨w.heap.size + 1 + 1, 1, none⟩ = some (.slice none 0 0) := by rw [← hw]; clear hw; go_simp
  have kx4_2 : w4.cell? ⟨w.heap.size + 1 + 1, 2, none⟩ = some (.int .u32 x0) := by rw [← hw]; clear hw; go_simp
  have kx4_3 : w4.cell? ⟨w.heap.size + 1 + 1, 3, none⟩ = some (.int .u8 a0) := by rw [← hw]; clear hw; go_simp
  have kx4_4 : w4.cell? ⟨w.heap.size + 1 + 1, 4, none⟩ = some (.int .u8 a1) := by rw [← hw]; clear hw; go_simp
  have kx4_5 : w4.cell? ⟨w.heap.size + 1 + 1, 5, none⟩ = some (.int .u8 a2) := by rw [← hw]; clear hw; go_simp
  have kx4_6 : w4.cell? ⟨w.heap.size + 1 + 1, 6, none⟩ = some (.int .u8 a3) := by rw [← hw]; clear hw; go_simp
  have kx4_7 : w4.cell? ⟨w.heap.size + 1 + 1, 7, none⟩ = some (.bool t2) := by rw [← hw]; clear hw; go_simp
  have kx4_8 : w4.cell? ⟨w.heap.size + 1 + 1, 8, none⟩ = some (.bool false) := by rw [← hw]; clear hw; go_simp
  have kx4_9 : w4.cell? ⟨w.heap.size + 1 + 1, 9, none⟩ = some (.bool false) := by rw [← hw]; clear hw; go_simp
  have kx4_10 : w4.cell? ⟨w.heap.size + 1 + 1, 10, none⟩ = some (.bool false) := by rw [← hw]; clear hw; go_simp
  have fc4 : ∀ j, w4.frozen? ⟨w.heap.size + 1, j, none⟩ = false := fun j => by rw [← hw]; clear hw; go_simp
  have fx4 : ∀ j, w4.frozen? ⟨w.heap.size + 1 + 1, j, none⟩ = false := fun j => by rw [← hw]; clear hw; go_simp
  have fc4_4 := fc4 4
  have fc4_5 := fc4 5
  have fx4_2 := fx4 2
  have fx4_3 := fx4 3
  have fx4_4 := fx4 4
  have fx4_5 := fx4 5
  have fx4_6 := fx4 6
  have fx4_7 := fx4 7
  have fx4_8 := fx4 8
  have fx4_9 := fx4 9
  have fx4_10 := fx4 10
  have lw4 : w.heap.size + 1 + 1 < w4.heap.size := World.block_lt_of_cell? _ _ kx4_0
  have lC4 : w.heap.size + 1 < w4.heap.size := by omega
  have ke4_1 : w4.cell? ⟨nb, no + 1, none⟩ = some (.int .u64 (b01 t2)) := by rw [← hw]; clear hw; go_simp
  have ke4_2 : w4.cell? ⟨nb, no + 2, none⟩ = some (.int .u64 (b01 t3)) := by rw [← hw]; clear hw; go_simp
  have ke4_3 : w4.cell? ⟨nb, no + 3, none⟩ = some (.int .u64 (b01 t4)) := by rw [← hw]; clear hw; go_simp
  have ke4_4 : w4.cell? ⟨nb, no + 4, none⟩ = some (.int .u64 (b01 t5)) := by rw [← hw]; clear hw; go_simp
  have HB4 := Lib.hid (show Below w.heap.size w w4 from by rw [← hw]; clear hw; have h0 := HB3.out; exact (by repeat (first | with_reducible assumption | with_reducible refine Below.drew ?_ | with_reducible refine below_drewN' ?_ _ | with_reducible refine Below.alloc ?_ ?_ _ | with_reducible refine Below.setCell ?_ ?_ _ | with_reducible exact Nat.le_refl _ | omega | focus (simp; done) | focus (simp; omega))))
  have lnb4 : nb < w4.heap.size := by omega
  clear hw kc3_0 kc3_1 kc3_2 kc3_3 kc3_4 kc3_5 kc3_6 kc3_7 kx3_0 kx3_1 kx3_2 kx3_3 kx3_4 kx3_5 kx3_6 kx3_7 kx3_8 kx3_9 kx3_10 ke3_1 ke3_2 ke3_3 ke3_4 fc3_4 fc3_5 fx3_2 fx3_3 fx3_4 fx3_5 fx3_6 fx3_7 fx3_8 fx3_9 fx3_10 fc3 fx3 lw3 lC3 lnb3
  go_wp2_with fail
  refine (truth_c (n := 3) (N := 3) (b := nb) (o := no) (m := 5) (c := nc) (t := t4) (by go_simp) (by go_simp) (by go_simp) rfl (by go_simp) (by omega) (by omega) (by omega)).mono ?_
  rintro e w5 ⟨rfl, q4, hw⟩
  have kc5_0 : w5.cell? ⟨w.heap.size + 1, 0, none⟩ = some (.slice (some ⟨nb, no, none⟩) 5 nc) := by rw [← hw]; clear hw; go_simp
  have kc5_1 : w5.cell? ⟨w.heap.size + 1, 1, none⟩ = some (.slice (some ⟨pd, po, none⟩) 1 cd) := by rw [← hw]; clear hw; go_simp
  have kc5_2 : w5.cell? ⟨w.heap.size + 1, 2, none⟩ = some (.slice pp 0 cp) := by rw [← hw]; clear hw; go_simp
  have kc5_3 : w5.cell? ⟨w.heap.size + 1, 3, none⟩ = some (.slice pl pay.length cl) := by rw [← hw]; clear hw; go_simp
  have kc5_4 : w5.cell? ⟨w.heap.size + 1, 4, none⟩ = some (.int .i64 4) := by rw [← hw]; clear hw; go_simp
  have kc5_5 : w5.cell? ⟨w.heap.size + 1, 5, none⟩ = some (.int .i64 1) := by rw [← hw]; clear hw; go_simp
  have kc5_6 : w5.cell? ⟨w.heap.size + 1, 6, none⟩ = some (.bool false) := by rw [← hw]; clear hw; go_simp
  have kc5_7 : w5.cell? ⟨w.heap.size + 1, 7, none⟩ = some (.bool false) := by rw [← hw]; clear hw; go_simp
  have kx5_0 : w5.cell? ⟨w.heap.size + 1 + 1, 0, none⟩ = some (.slice none 0 0) := by rw [← hw]; clear hw; go_simp
  have kx5_1 : w5.cell? ⟨w.heap.size + 1 + 1, 1, none⟩ = some (.slice none 0 0) := by rw [← hw]; clear hw; go_simp
  have kx5_2 : w5.cell? ⟨w.heap.size + 1 + 1, 2, none⟩ = some (.int .u32 x0) := by rw [← hw]; clear hw; go_simp
  have kx5_3 : w5.cell? ⟨w.heap.size + 1 + 1, 3, none⟩ = some (.int .u8 a0) := by rw [← hw]; clear hw; go_simp
  have kx5_4 : w5.cell? ⟨w.heap.size + 1 + 1, 4, none⟩ = some (.int .u8 a1) := by rw [← hw]; clear hw; go_simp
  have kx5_5 : w5.cell? ⟨w.heap.size + 1 + 1, 5, none⟩ = some (.int .u8 a2) := by rw [← hw]; clear hw; go_simp
  have kx5_6 : w5.cell? ⟨w.heap.size + 1 + 1, 6, none⟩ = some (.int .u8 a3) := by rw [← hw]; clear hw; go_simp
  have kx5_7 : w5.cell? ⟨w.heap.size + 1 + 1, 7, none⟩ = some (.bool t2) := by rw [← hw]; clear hw; go_simp
  have kx5_8 : w5.cell? ⟨w.heap.size + 1 + 1, 8, none⟩ = some (.bool t3) := by rw [← hw]; clear hw; go_simp
  have kx5_9 : w5.cell? ⟨w.heap.size + 1 + 1, 9, none⟩ = some (.bool false) := by rw [← hw]; clear hw; go_simp
  have kx5_10 : w5.cell? ⟨w.heap.size + 1 + 1, 10, none⟩ = some (.bool false) := by rw [← hw]; clear hw; go_simp
  have fc5 : ∀ j, w5.frozen? ⟨w.heap.size + 1, j, none⟩ = false := fun j => by rw [← hw]; clear hw; go_simp
  have fx5 : ∀ j, w5.frozen? ⟨w.heap.size + 1 + 1, j, none⟩ = false := fun j => by rw [← hw]; clear hw; go_simp
  have fc5_4 := fc5 4
  have fc5_5 := fc5 5
  have fx5_2 := fx5 2
  have fx5_3 := fx5 3
  have fx5_4 := fx5 4
  have fx5_5 := fx5 5
  have fx5_6 := fx5 6
  have fx5_7 := fx5 7
  have fx5_8 := fx5 8
  have fx5_9 := fx5 9
  have fx5_10 := fx5 10
  have lw5 : w.heap.size + 1 + 1 < w5.heap.size := World.block_lt_of_cell? _ _ kx5_0
  have lC5 : w.heap.size + 1 < w5.heap.size := by omega
  have ke5_1 : w5.cell? ⟨nb, no + 1, none⟩ = some (.int .u64 (b01 t2)) := by rw [← hw]; clear hw; go_simp
  have ke5_2 : w5.cell? ⟨nb, no + 2, none⟩ = some (.int .u64 (b01 t3)) := by rw [← hw]; clear hw; go_simp
  have ke5_3 : w5.cell? ⟨nb, no + 3, none⟩ = some (.int .u64 (b01 t4)) := by rw [← hw]; clear hw; go_simp
  have ke5_4 : w5.cell? ⟨nb, no + 4, none⟩ = some (.int .u64 (b01 t5)) := by rw [← hw]; clear hw; go_simp
  have HB5 := Lib.hid (show Below w.heap.size w w5 from by rw [← hw]; clear hw; have h0 := HB4.out; exact (by repeat (first | with_reducible assumption | with_reducible refine Below.drew ?_ | with_reducible refine below_drewN' ?_ _ | with_reducible refine Below.alloc ?_ ?_ _ | with_reducible refine Below.setCell ?_ ?_ _ | with_reducible exact Nat.le_refl _ | omega | focus (simp; done) | focus (simp; omega))))
  have lnb5 : nb < w5.heap.size := by omega
  clear hw kc4_0 kc4_1 kc4_2 kc4_3 kc4_4 kc4_5 kc4_6 kc4_7 kx4_0 kx4_1 kx4_2 kx4_3 kx4_4 kx4_5 kx4_6 kx4_7 kx4_8 kx4_9 kx4_10 ke4_1 ke4_2 ke4_3 ke4_4 fc4_4 fc4_5 fx4_2 fx4_3 fx4_4 fx4_5 fx4_6 fx4_7 fx4_8 fx4_9 fx4_10 fc4 fx4 lw4 lC4 lnb4
  go_wp2_with fail
  refine (truth_c (n := 4) (N := 4) (b := nb) (o := no) (m := 5) (c := nc) (t := t5) (by go_simp) (by go_simp) (by go_simp) rfl (by go_simp) (by omega) (by omega) (by omega)).mono ?_
  rintro e w6 ⟨rfl, q5, hw⟩
  have kc6_0 : w6.cell? ⟨w.heap.size + 1, 0, none⟩ = some (.slice (some ⟨nb, no, none⟩) 5 nc) := by rw [← hw]; clear hw; go_simp
  have kc6_1 : w6.cell? ⟨w.heap.size + 1, 1, none⟩ = some (.slice (some ⟨pd, po, none⟩) 1 cd) := by rw [← hw]; clear hw; go_simp
  have kc6_2 : w6.cell? ⟨w.heap.size + 1, 2, none⟩ = some (.slice pp 0 cp) := by rw [← hw]; clear hw; go_simp
  have kc6_3 : w6.cell? ⟨w.heap.size + 1, 3, none⟩ = some (.slice pl pay.length cl) := by rw [← hw]; clear hw; go_simp
  have kc6_4 : w6.cell? ⟨w.heap.size + 1, 4, none⟩ = some (.int .i64 5) := by rw [← hw]; clear hw; go_simp
  have kc6_5 : w6.cell? ⟨w.heap.size + 1, 5, none⟩ = some (.int .i64 1) := by rw [← hw]; clear hw; go_simp
  have kc6_6 : w6.cell? ⟨w.heap.size + 1, 6, none⟩ = some (.bool false) := by rw [← hw]; clear hw; go_simp
  have kc6_7 : w6.cell? ⟨w.heap.size + 1, 7, none⟩ = some (.bool false) := by rw [← hw]; clear hw; go_simp
  have kx6_0 : w6.cell? ⟨w.heap.size + 1 + 1, 0, none⟩ = some (.slice none 0 0) := by rw [← hw]; clear hw; go_simp
  have kx6_1 : w6.cell? ⟨w.heap.size + 1 + 1, 1, none⟩ = some (.slice none 0 0) := by rw [← hw]; clear hw; go_simp
  have kx6_2 : w6.cell? ⟨w.heap.size + 1 + 1, 2, none⟩ = some (.int .u32 x0) := by rw [← hw]; clear hw; go_simp
  have kx6_3 : w6.cell? ⟨w.heap.size + 1 + 1, 3, none⟩ = some (.int .u8 a0) := by rw [← hw]; clear hw; go_simp
  have kx6_4 : w6.cell? ⟨w.heap.size + 1 + 1, 4, none⟩ = some (.int .u8 a1) := by rw [← hw]; clear hw; go_simp
  have kx6_5 : w6.cell? ⟨w.heap.size + 1 + 1, 5, none⟩ = some (.int .u8 a2) := by rw [← hw]; clear hw; go_simp
  have kx6_6 : w6.cell? ⟨w.heap.size + 1 + 1, 6, none⟩ = some (.int .u8 a3) := by rw [← hw]; clear hw; go_simp
  have kx6_7 : w6.cell? ⟨w.heap.size + 1 + 1, 7, none⟩ = some (.bool t2) := by rw [← hw]; clear hw; go_simp
  have kx6_8 : w6.cell? ⟨w.heap.size + 1 + 1, 8, none⟩ = some (.bool t3) := by rw [← hw]; clear hw; go_simp
  have kx6_9 : w6.cell? ⟨w.heap.size + 1 + 1, 9, none⟩ = some (.bool t4) := by rw [← hw]; clear hw; go_simp
  have kx6_10 : w6.cell? ⟨w.heap.size + 1 + 1, 10, none⟩ = some (.bool false) := by rw [← hw]; clear hw; go_simp
  have fc6 : ∀ j, w6.frozen? ⟨w.heap.size + 1, j, none⟩ = false := fun j => by rw [← hw]; clear hw; go_simp
  have fx6 : ∀ j, w6.frozen? ⟨w.heap.size + 1 + 1, j, none⟩ = false := fun j => by rw [← hw]; clear hw; go_simp
  have fc6_4 := fc6 4
  have fc6_5 := fc6 5
  have fx6_2 := fx6 2
  have fx6_3 := fx6 3
  have fx6_4 := fx6 4
  have fx6_5 := fx6 5
  have fx6_6 := fx6 6
  have fx6_7 := fx6 7
  have fx6_8 := fx6 8
  have fx6_9 := fx6 9
  have fx6_10 := fx6 10
  have lw6 : w.heap.size + 1 + 1 < w6.heap.size := World.block_lt_of_cell? _ _ kx6_0
  have lC6 : w.heap.size + 1 < w6.heap.size := by omega
  have ke6_1 : w6.cell? ⟨nb, no + 1, none⟩ = some (.int .u64 (b01 t2)) := by rw [← hw]; clear hw; go_simp
  have ke6_2 : w6.cell? ⟨nb, no + 2, none⟩ = some (.int .u64 (b01 t3)) := by rw [← hw]; clear hw; go_simp
  have ke6_3 : w6.cell? ⟨nb, no + 3, none⟩ = some (.int .u64 (b01 t4)) := by rw [← hw]; clear hw; go_simp
  have ke6_4 : w6.cell? ⟨nb, no + 4, none⟩ = some (.int .u64 (b01 t5)) := by rw [← hw]; clear hw; go_simp
  have HB6 := Lib.hid (show Below w.heap.size w w6 from by rw [← hw]; clear hw; have h0 := HB5.out; exact (by repeat (first | with_reducible assumption | with_reducible refine Below.drew ?_ | with_reducible refine below_drewN' ?_ _ | with_reducible refine Below.alloc ?_ ?_ _ | with_reducible refine Below.setCell ?_ ?_ _ | with_reducible exact Nat.le_refl _ | omega | focus (simp; done) | focus (simp; omega))))
  have lnb6 : nb < w6.heap.size := by omega
  clear hw kc5_0 kc5_1 kc5_2 kc5_3 kc5_4 kc5_5 kc5_6 kc5_7 kx5_0 kx5_1 kx5_2 kx5_3 kx5_4 kx5_5 kx5_6 kx5_7 kx5_8 kx5_9 kx5_10 ke5_1 ke5_2 ke5_3 ke5_4 fc5_4 fc5_5 fx5_2 fx5_3 fx5_4 fx5_5 fx5_6 fx5_7 fx5_8 fx5_9 fx5_10 fc5 fx5 lw5 lC5 lnb5
  go_wp2_with fail
  refine (took_c (n1 := 5) (n2 := 1) (n3 := 0) (p1 := some ⟨nb, no, none⟩) (m1 := nc) (p2 := some ⟨pd, po, none⟩) (m2 := cd) (p3 := pp) (m3 := cp) (ls := false) (by go_simp) (by go_simp) (by go_simp) (by go_simp) (by go_simp) (by go_simp) (by go_simp) rfl rfl (.inr rfl)).mono ?_
  rintro e w' ⟨rfl, qq, rfl⟩
  go_wp2_with fail
  refine bodyPost_ret (v := .iface 140 (.pointer (some ⟨w.heap.size + 1 + 1, 0, none⟩))) (by simp only [results, Tryz.results34]; go_simp) rfl ?_
  refine ⟨?_, _, rfl, by first | omega | (simp; done) | (simp; omega), by go_simp, by go_simp, by go_simp, by go_simp, by go_simp, by go_simp, by go_simp, by go_simp, by go_simp⟩
  have h0 := HB6.out
  exact (by repeat (first | with_reducible assumption | with_reducible refine Below.drew ?_ | with_reducible refine below_drewN' ?_ _ | with_reducible refine Below.alloc ?_ ?_ _ | with_reducible refine Below.setCell ?_ ?_ _ | with_reducible exact Nat.le_refl _ | omega | focus (simp; done) | focus (simp; omega)))
end Go.Proofs.YtaejicpdaldpiaaGreat
