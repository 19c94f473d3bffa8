/-
  impl.made of mldquery2.
-/
import Derived.Test.YtmpifdanfnebpaaGreatWquery
import Derived.Test.YtmpifdanfnebpaaGreatOn
import Derived.Test.YtmpifdanfnebpaaGreatFill
namespace Go.Proofs.YtmpifdanfnebpaaGreat
open Go Go.RowKit

theorem take_snoc9 {α : Type} {l : List α} {k : Nat} {x : α} (h : l[k]? = some x) : l.take k ++ [x] = l.take (k + 1) := by
  rw [List.take_add_one, h]
  rfl
theorem SP.get {w : World} {ok : Nat → Prop} {p : Option Addr} {n c : Nat} {ps : List (List Int × List Int)} (h : SP w ok (.slice p n c) ps) {k : Nat} (hk : k < ps.length) :
    ∃ b o u1 u2 q, p = some ⟨b, o, none⟩ ∧ b < w.heap.size ∧ ps[k]? = some q ∧ w.cell? ⟨b, o + k * 2, none⟩ = some u1 ∧ w.cell? ⟨b, o + k * 2 + 1, none⟩ = some u2 ∧ SN w ok u1 q.1 ∧ SB w ok u2 q.2 := by
  obtain ⟨vs, hv, hs, he⟩ := h
  obtain ⟨x, hx⟩ : ∃ x, vs[k]? = some x := ⟨vs[k], by simp [hv, hk]⟩
  obtain ⟨c1, c2⟩ := pcells_at vs k x hx
  obtain ⟨b, o, hp, hb, hc⟩ := hs.cellW c1
  obtain ⟨h1, h2⟩ := he k x ps[k] hx (by simp)
  exact ⟨b, o, x.1, x.2, ps[k], hp, hb, by simp, hc _ _ c1, hc _ _ c2, h1, h2⟩

set_option maxHeartbeats 1000000 in
theorem parts_c {C : Nat} {v u : Value} {w : World} (c2 : w.cell? ⟨C, 2, none⟩ = some v) (c7 : w.cell? ⟨C, 7, none⟩ = some u) (f7 : w.frozen? ⟨C, 7, none⟩ = false) :
    Calls Tryz.prog 31 #[.pointer (some ⟨C, 0, none⟩)] w fun e w' => e = .returned v ∧ w.setCell ⟨C, 7, none⟩ (.bool true) = w' := by
  go_enter Tryz.func31, Tryz.ntmps31
  go_wp2_with fail
  refine bodyPost_ret (v := v) (by simp only [results, Tryz.results31]; go_simp) rfl ⟨rfl, rfl⟩

set_option maxRecDepth 100000 in
set_option maxHeartbeats 8000000 in
theorem made_query {x0 x3 x4 x5 : Int} {t2 : Bool} {d1 : List Int} {ips : List (List Int)} {pay : List Int} (h0 : 0 ≤ x0 ∧ x0 ≤ 65535) (h1 : d1.length ≤ 2000) (h3 : 0 ≤ x3 ∧ x3 ≤ 255) (h4 : 0 ≤ x4 ∧ x4 ≤ 255) (h5 : 0 ≤ x5 ∧ x5 ≤ 65535) (hips : ips.length ≤ 50) (hdl : ∀ d ∈ ips, d.length ≤ 1000) :
    MadeOf (.string ⟨#[109, 108, 100, 113, 117, 101, 114, 121, 50]⟩) ⟨[x0, b01 t2, x3, x4, x5], [d1], ips.map (fun d => (([] : List Int), d)), pay⟩ 95 (MIsQuery x0 d1 t2 x3 x4 x5 ips) := by
  intro vv w h
  obtain ⟨a, b, c, d, rfl, hn, hd, hp, hpl⟩ := h
  obtain ⟨nb, no, nc, rfl, lnb, hnc⟩ := hn.cellsN (n := 5) rfl (by decide)
  obtain ⟨pd, po, cd, rfl, lpd, hdc⟩ := hd.cellsN (n := 1) rfl (by decide)
  obtain ⟨pp, cp, rfl⟩ := hp.form
  obtain ⟨pl, cl, rfl⟩ := hpl.form
  have HPP := Lib.hid hp
  have HDL := Lib.hid hdl
  have e0 := hnc 0 _ rfl
  have e1 := hnc 1 _ rfl
  have e2 := hnc 2 _ rfl
  have e3 := hnc 3 _ rfl
  have e4 := hnc 4 _ rfl
  rw [Nat.add_zero] at e0
  obtain ⟨u1, eu1, hu1⟩ := hdc 0 _ rfl
  have HU1 := Lib.hid (hu1.imp (fun b hb _ => hb : ∀ b, b < w.heap.size → True → b < w.heap.size))
  clear hu1
  rw [Nat.add_zero] at eu1
  obtain ⟨np, hnp⟩ : ∃ n, n = (ips.map (fun d => (([] : List Int), d))).length := ⟨_, rfl⟩
  rw [← hnp]
  have hnp2 : np = ips.length := by rw [hnp, List.length_map]
  have lnp : np ≤ 50 := by omega
  have HNP := Lib.hid hnp2
  have HNP1 := Lib.hid hnp
  have l1 : nb < w.heap.size + 1 := by omega
  have l2 : nb < w.heap.size + 1 + 1 := by omega
  have l3 : pd < w.heap.size + 1 := by omega
  have l4 : pd < w.heap.size + 1 + 1 := by omega
  clear hnc hn hd hp hpl hdc hdl hnp hnp2
  go_enter Tryz.func23, Tryz.ntmps23
  go_wp2_with fail
  refine (num16_c (n := 0) (N := 0) (b := nb) (o := no) (m := 5) (c := nc) (x := x0) (by go_simp) (by go_simp) (by go_simp) rfl (by go_simp) (by omega) (by omega) h0 (by omega)).mono ?_
  rintro e w' ⟨rfl, q0, rfl⟩
  go_wp2_with fail
  refine (bytes_c (n := 0) (N := 0) (b := pd) (o := po) (m := 1) (c := cd) (u := u1) (bs := d1) (by first | omega | (simp; done) | (simp; omega)) (by first | omega | (simp; done) | (simp; omega)) (by go_simp) (by go_simp) (by go_simp) rfl (by go_simp) ((HU1.out.keeps (by repeat (first | with_reducible assumption | with_reducible exact Keeps.refl _ _ | with_reducible refine Keeps.drew ?_ | with_reducible refine Keeps.drewN ?_ _ | with_reducible refine Keeps.alloc ?_ _ | with_reducible refine Keeps.setCell ?_ ?_ _ | omega | focus (simp; done) | focus (simp; omega)))).imp (fun b _ hb => by omega)) (by omega) (by omega) h1 (by omega)).mono ?_
  rintro e w1 ⟨pb1, cb1, rfl, hs1, hb1⟩
  have kc1_0 : w1.cell? ⟨w.heap.size + 1, 0, none⟩ = some (.slice (some ⟨nb, no, none⟩) 5 nc) := (hb1.cell (p := ⟨w.heap.size + 1, 0, none⟩) (by first | omega | (simp; done) | (simp; omega))).trans (by go_simp)
  have kc1_1 : w1.cell? ⟨w.heap.size + 1, 1, none⟩ = some (.slice (some ⟨pd, po, none⟩) 1 cd) := (hb1.cell (p := ⟨w.heap.size + 1, 1, none⟩) (by first | omega | (simp; done) | (simp; omega))).trans (by go_simp)
  have kc1_2 : w1.cell? ⟨w.heap.size + 1, 2, none⟩ = some (.slice pp np cp) := (hb1.cell (p := ⟨w.heap.size + 1, 2, none⟩) (by first | omega | (simp; done) | (simp; omega))).trans (by go_simp)
  have kc1_3 : w1.cell? ⟨w.heap.size + 1, 3, none⟩ = some (.slice pl pay.length cl) := (hb1.cell (p := ⟨w.heap.size + 1, 3, none⟩) (by first | omega | (simp; done) | (simp; omega))).trans (by go_simp)
  have kc1_4 : w1.cell? ⟨w.heap.size + 1, 4, none⟩ = some (.int .i64 1) := (hb1.cell (p := ⟨w.heap.size + 1, 4, none⟩) (by first | omega | (simp; done) | (simp; omega))).trans (by go_simp)
  have kc1_5 : w1.cell? ⟨w.heap.size + 1, 5, none⟩ = some (.int .i64 1) := (hb1.cell (p := ⟨w.heap.size + 1, 5, none⟩) (by first | omega | (simp; done) | (simp; omega))).trans (by go_simp)
  have kc1_6 : w1.cell? ⟨w.heap.size + 1, 6, none⟩ = some (.bool false) := (hb1.cell (p := ⟨w.heap.size + 1, 6, none⟩) (by first | omega | (simp; done) | (simp; omega))).trans (by go_simp)
  have kc1_7 : w1.cell? ⟨w.heap.size + 1, 7, none⟩ = some (.bool false) := (hb1.cell (p := ⟨w.heap.size + 1, 7, none⟩) (by first | omega | (simp; done) | (simp; omega))).trans (by go_simp)
  have kx1_0 : w1.cell? ⟨w.heap.size + 1 + 1, 0, none⟩ = some (.slice none 0 0) := (hb1.cell (p := ⟨w.heap.size + 1 + 1, 0, none⟩) (by first | omega | (simp; done) | (simp; omega))).trans (by go_simp)
  have kx1_1 : w1.cell? ⟨w.heap.size + 1 + 1, 1, none⟩ = some (.slice none 0 0) := (hb1.cell (p := ⟨w.heap.size + 1 + 1, 1, none⟩) (by first | omega | (simp; done) | (simp; omega))).trans (by go_simp)
  have kx1_2 : w1.cell? ⟨w.heap.size + 1 + 1, 2, none⟩ = some (.int .u16 x0) := (hb1.cell (p := ⟨w.heap.size + 1 + 1, 2, none⟩) (by first | omega | (simp; done) | (simp; omega))).trans (by go_simp)
  have kx1_3 : w1.cell? ⟨w.heap.size + 1 + 1, 3, none⟩ = some (.slice none 0 0) := (hb1.cell (p := ⟨w.heap.size + 1 + 1, 3, none⟩) (by first | omega | (simp; done) | (simp; omega))).trans (by go_simp)
  have kx1_4 : w1.cell? ⟨w.heap.size + 1 + 1, 4, none⟩ = some (.bool false) := (hb1.cell (p := ⟨w.heap.size + 1 + 1, 4, none⟩) (by first | omega | (simp; done) | (simp; omega))).trans (by go_simp)
  have kx1_5 : w1.cell? ⟨w.heap.size + 1 + 1, 5, none⟩ = some (.int .u8 0) := (hb1.cell (p := ⟨w.heap.size + 1 + 1, 5, none⟩) (by first | omega | (simp; done) | (simp; omega))).trans (by go_simp)
  have kx1_6 : w1.cell? ⟨w.heap.size + 1 + 1, 6, none⟩ = some (.int .u8 0) := (hb1.cell (p := ⟨w.heap.size + 1 + 1, 6, none⟩) (by first | omega | (simp; done) | (simp; omega))).trans (by go_simp)
  have kx1_7 : w1.cell? ⟨w.heap.size + 1 + 1, 7, none⟩ = some (.int .u16 0) := (hb1.cell (p := ⟨w.heap.size + 1 + 1, 7, none⟩) (by first | omega | (simp; done) | (simp; omega))).trans (by go_simp)
  have kx1_8 : w1.cell? ⟨w.heap.size + 1 + 1, 8, none⟩ = some (.slice none 0 0) := (hb1.cell (p := ⟨w.heap.size + 1 + 1, 8, none⟩) (by first | omega | (simp; done) | (simp; omega))).trans (by go_simp)
  have fc1 : ∀ j, w1.frozen? ⟨w.heap.size + 1, j, none⟩ = false := fun j => (hb1.frozen (p := ⟨w.heap.size + 1, j, none⟩) (by first | omega | (simp; done) | (simp; omega))).trans (by go_simp)
  have fx1 : ∀ j, w1.frozen? ⟨w.heap.size + 1 + 1, j, none⟩ = false := fun j => (hb1.frozen (p := ⟨w.heap.size + 1 + 1, j, none⟩) (by first | omega | (simp; done) | (simp; omega))).trans (by go_simp)
  have fc1_4 := fc1 4
  have fc1_5 := fc1 5
  have fx1_2 := fx1 2
  have fx1_3 := fx1 3
  have fx1_4 := fx1 4
  have fx1_5 := fx1 5
  have fx1_6 := fx1 6
  have fx1_7 := fx1 7
  have fx1_8 := fx1 8
  have lw1 : w.heap.size + 1 + 1 < w1.heap.size := World.block_lt_of_cell? _ _ kx1_0
  have lC1 : w.heap.size + 1 < w1.heap.size := by omega
  have fc1_7 := fc1 7
  have ke1_1 : w1.cell? ⟨nb, no + 1, none⟩ = some (.int .u64 (b01 t2)) := (hb1.cell (p := ⟨nb, no + 1, none⟩) (by first | omega | (simp; done) | (simp; omega))).trans (by go_simp)
  have ke1_2 : w1.cell? ⟨nb, no + 2, none⟩ = some (.int .u64 (x3)) := (hb1.cell (p := ⟨nb, no + 2, none⟩) (by first | omega | (simp; done) | (simp; omega))).trans (by go_simp)
  have ke1_3 : w1.cell? ⟨nb, no + 3, none⟩ = some (.int .u64 (x4)) := (hb1.cell (p := ⟨nb, no + 3, none⟩) (by first | omega | (simp; done) | (simp; omega))).trans (by go_simp)
  have ke1_4 : w1.cell? ⟨nb, no + 4, none⟩ = some (.int .u64 (x5)) := (hb1.cell (p := ⟨nb, no + 4, none⟩) (by first | omega | (simp; done) | (simp; omega))).trans (by go_simp)
  have HB1 := Lib.hid (show Below w.heap.size w w1 from Below.trans (by have h0 := Below.refl w.heap.size w; exact (by repeat (first | with_reducible assumption | with_reducible refine Below.drew ?_ | with_reducible refine below_drewN' ?_ _ | with_reducible refine Below.alloc ?_ ?_ _ | with_reducible refine Below.setCell ?_ ?_ _ | with_reducible exact Nat.le_refl _ | omega | focus (simp; done) | focus (simp; omega)))) (hb1.mono (by simp <;> omega)))
  have lnb1 : nb < w1.heap.size := by omega
  have HS1 := Lib.hid (hs1.imp (fun b hl hb => (⟨by simp at hb; omega, hl⟩ : w.heap.size + 1 + 1 < b ∧ b < w1.heap.size)))
  clear hb1 hs1 e1 e2 e3 e4 e0 HU1 eu1
  go_wp2_with fail
  have ls1 : w1.heap.size ≤ w1.heap.size := Nat.le_refl _
  refine (truth_c (n := 1) (N := 1) (b := nb) (o := no) (m := 5) (c := nc) (t := t2) (by go_simp) (by go_simp) (by go_simp) rfl (by go_simp) (by omega) (by omega) (by omega)).mono ?_
  rintro e w2 ⟨rfl, q1, hw⟩
  have kc2_0 : w2.cell? ⟨w.heap.size + 1, 0, none⟩ = some (.slice (some ⟨nb, no, none⟩) 5 nc) := by rw [← hw]; clear hw; go_simp
  have kc2_1 : w2.cell? ⟨w.heap.size + 1, 1, none⟩ = some (.slice (some ⟨pd, po, none⟩) 1 cd) := by rw [← hw]; clear hw; go_simp
  have kc2_2 : w2.cell? ⟨w.heap.size + 1, 2, none⟩ = some (.slice pp np cp) := by rw [← hw]; clear hw; go_simp
  have kc2_3 : w2.cell? ⟨w.heap.size + 1, 3, none⟩ = some (.slice pl pay.length cl) := by rw [← hw]; clear hw; go_simp
  have kc2_4 : w2.cell? ⟨w.heap.size + 1, 4, none⟩ = some (.int .i64 2) := by rw [← hw]; clear hw; go_simp
  have kc2_5 : w2.cell? ⟨w.heap.size + 1, 5, none⟩ = some (.int .i64 1) := by rw [← hw]; clear hw; go_simp
  have kc2_6 : w2.cell? ⟨w.heap.size + 1, 6, none⟩ = some (.bool false) := by rw [← hw]; clear hw; go_simp
  have kc2_7 : w2.cell? ⟨w.heap.size + 1, 7, none⟩ = some (.bool false) := by rw [← hw]; clear hw; go_simp
  have kx2_0 : w2.cell? ⟨w.heap.size + 1 + 1, 0, none⟩ = some (.slice none 0 0) := by rw [← hw]; clear hw; go_simp
  have kx2_1 : w2.cell? ⟨w.heap.size + 1 + 1, 1, none⟩ = some (.slice none 0 0) := by rw [← hw]; clear hw; go_simp
  have kx2_2 : w2.cell? ⟨w.heap.size + 1 + 1, 2, none⟩ = some (.int .u16 x0) := by rw [← hw]; clear hw; go_simp
  have kx2_3 : w2.cell? ⟨w.heap.size + 1 + 1, 3, none⟩ = some (.slice pb1 d1.length cb1) := by rw [← hw]; clear hw; go_simp
  have kx2_4 : w2.cell? ⟨w.heap.size + 1 + 1, 4, none⟩ = some (.bool false) := by rw [← hw]; clear hw; go_simp
  have kx2_5 : w2.cell? ⟨w.heap.size + 1 + 1, 5, none⟩ = some (.int .u8 0) := by rw [← hw]; clear hw; go_simp
  have kx2_6 : w2.cell? ⟨w.heap.size + 1 + 1, 6, none⟩ = some (.int .u8 0) := by rw [← hw]; clear hw; go_simp
  have kx2_7 : w2.cell? ⟨w.heap.size + 1 + 1, 7, none⟩ = some (.int .u16 0) := by rw [← hw]; clear hw; go_simp
  have kx2_8 : w2.cell? ⟨w.heap.size + 1 + 1, 8, none⟩ = some (.slice none 0 0) := by rw [← hw]; clear hw; go_simp
  have fc2 : ∀ j, w2.frozen? ⟨w.heap.size + 1, j, none⟩ = false := fun j => by rw [← hw]; clear hw; go_simp
  have fx2 : ∀ j, w2.frozen? ⟨w.heap.size + 1 + 1, j, none⟩ = false := fun j => by rw [← hw]; clear hw; go_simp
  have fc2_4 := fc2 4
  have fc2_5 := fc2 5
  have fx2_2 := fx2 2
  have fx2_3 := fx2 3
  have fx2_4 := fx2 4
  have fx2_5 := fx2 5
  have fx2_6 := fx2 6
  have fx2_7 := fx2 7
  have fx2_8 := fx2 8
  have lw2 : w.heap.size + 1 + 1 < w2.heap.size := World.block_lt_of_cell? _ _ kx2_0
  have lC2 : w.heap.size + 1 < w2.heap.size := by omega
  have fc2_7 := fc2 7
  have ke2_1 : w2.cell? ⟨nb, no + 1, none⟩ = some (.int .u64 (b01 t2)) := by rw [← hw]; clear hw; go_simp
  have ke2_2 : w2.cell? ⟨nb, no + 2, none⟩ = some (.int .u64 (x3)) := by rw [← hw]; clear hw; go_simp
  have ke2_3 : w2.cell? ⟨nb, no + 3, none⟩ = some (.int .u64 (x4)) := by rw [← hw]; clear hw; go_simp
  have ke2_4 : w2.cell? ⟨nb, no + 4, none⟩ = some (.int .u64 (x5)) := by rw [← hw]; clear hw; go_simp
  have HB2 := Lib.hid (show Below w.heap.size w w2 from by rw [← hw]; clear hw; have h0 := HB1.out; exact (by repeat (first | with_reducible assumption | with_reducible refine Below.drew ?_ | with_reducible refine below_drewN' ?_ _ | with_reducible refine Below.alloc ?_ ?_ _ | with_reducible refine Below.setCell ?_ ?_ _ | with_reducible exact Nat.le_refl _ | omega | focus (simp; done) | focus (simp; omega))))
  have lnb2 : nb < w2.heap.size := by omega
  have HS2 := Lib.hid (show SB w2 (fun b => w.heap.size + 1 + 1 < b ∧ b < w1.heap.size) (.slice pb1 d1.length cb1) d1 from by rw [← hw]; clear hw; exact HS1.out.keeps (by repeat (first | with_reducible assumption | with_reducible exact Keeps.refl _ _ | with_reducible refine Keeps.drew ?_ | with_reducible refine Keeps.drewN ?_ _ | with_reducible refine Keeps.alloc ?_ _ | with_reducible refine Keeps.setCell ?_ ?_ _ | omega | focus (simp; done) | focus (simp; omega))))
  have ls2 : w1.heap.size ≤ w2.heap.size := by rw [← hw]; clear hw; first | omega | (simp; done) | (simp; omega)
  clear hw kc1_0 kc1_1 kc1_2 kc1_3 kc1_4 kc1_5 kc1_6 kc1_7 kx1_0 kx1_1 kx1_2 kx1_3 kx1_4 kx1_5 kx1_6 kx1_7 kx1_8 ke1_1 ke1_2 ke1_3 ke1_4 fc1_4 fc1_5 fc1_7 fx1_2 fx1_3 fx1_4 fx1_5 fx1_6 fx1_7 fx1_8 fc1 fx1 lw1 lC1 lnb1
  go_wp2_with fail
  refine (num8_c (n := 2) (N := 2) (b := nb) (o := no) (m := 5) (c := nc) (x := x3) (by go_simp) (by go_simp) (by go_simp) rfl (by go_simp) (by omega) (by omega) h3 (by omega)).mono ?_
  rintro e w3 ⟨rfl, q2, hw⟩
  have kc3_0 : w3.cell? ⟨w.heap.size + 1, 0, none⟩ = some (.slice (some ⟨nb, no, none⟩) 5 nc) := by rw [← hw]; clear hw; go_simp
  have kc3_1 : w3.cell? ⟨w.heap.size + 1, 1, none⟩ = some (.slice (some ⟨pd, po, none⟩) 1 cd) := by rw [← hw]; clear hw; go_simp
  have kc3_2 : w3.cell? ⟨w.heap.size + 1, 2, none⟩ = some (.slice pp np cp) := by rw [← hw]; clear hw; go_simp
  have kc3_3 : w3.cell? ⟨w.heap.size + 1, 3, none⟩ = some (.slice pl pay.length cl) := by rw [← hw]; clear hw; go_simp
  have kc3_4 : w3.cell? ⟨w.heap.size + 1, 4, none⟩ = some (.int .i64 3) := by rw [← hw]; clear hw; go_simp
  have kc3_5 : w3.cell? ⟨w.heap.size + 1, 5, none⟩ = some (.int .i64 1) := by rw [← hw]; clear hw; go_simp
  have kc3_6 : w3.cell? ⟨w.heap.size + 1, 6, none⟩ = some (.bool false) := by rw [← hw]; clear hw; go_simp
  have kc3_7 : w3.cell? ⟨w.heap.size + 1, 7, none⟩ = some (.bool false) := by rw [← hw]; clear hw; go_simp
  have kx3_0 : w3.cell? ⟨w.heap.size + 1 + 1, 0, none⟩ = some (.slice none 0 0) := by rw [← hw]; clear hw; go_simp
  have kx3_1 : w3.cell? ⟨w.heap.size + 1 + 1, 1, none⟩ = some (.slice none 0 0) := by rw [← hw]; clear hw; go_simp
  have kx3_2 : w3.cell? ⟨w.heap.size + 1 + 1, 2, none⟩ = some (.int .u16 x0) := by rw [← hw]; clear hw; go_simp
  have kx3_3 : w3.cell? ⟨w.heap.size + 1 + 1, 3, none⟩ = some (.slice pb1 d1.length cb1) := by rw [← hw]; clear hw; go_simp
  have kx3_4 : w3.cell? ⟨w.heap.size + 1 + 1, 4, none⟩ = some (.bool t2) := by rw [← hw]; clear hw; go_simp
  have kx3_5 : w3.cell? ⟨w.heap.size + 1 + 1, 5, none⟩ = some (.int .u8 0) := by rw [← hw]; clear hw; go_simp
  have kx3_6 : w3.cell? ⟨w.heap.size + 1 + 1, 6, none⟩ = some (.int .u8 0) := by rw [← hw]; clear hw; go_simp
  have kx3_7 : w3.cell? ⟨w.heap.size + 1 + 1, 7, none⟩ = some (.int .u16 0) := by rw [← hw]; clear hw; go_simp
  have kx3_8 : w3.cell? ⟨w.heap.size + 1 + 1, 8, none⟩ = some (.slice none 0 0) := by rw [← hw]; clear hw; go_simp
  have fc3 : ∀ j, w3.frozen? ⟨w.heap.size + 1, j, none⟩ = false := fun j => by rw [← hw]; clear hw; go_simp
  have fx3 : ∀ j, w3.frozen? ⟨w.heap.size + 1 + 1, j, none⟩ = false := fun j => by rw [← hw]; clear hw; go_simp
  have fc3_4 := fc3 4
  have fc3_5 := fc3 5
  have fx3_2 := fx3 2
  have fx3_3 := fx3 3
  have fx3_4 := fx3 4
  have fx3_5 := fx3 5
  have fx3_6 := fx3 6
  have fx3_7 := fx3 7
  have fx3_8 := fx3 8
  have lw3 : w.heap.size + 1 + 1 < w3.heap.size := World.block_lt_of_cell? _ _ kx3_0
  have lC3 : w.heap.size + 1 < w3.heap.size := by omega
  have fc3_7 := fc3 7
  have ke3_1 : w3.cell? ⟨nb, no + 1, none⟩ = some (.int .u64 (b01 t2)) := by rw [← hw]; clear hw; go_simp
  have ke3_2 : w3.cell? ⟨nb, no + 2, none⟩ = some (.int .u64 (x3)) := by rw [← hw]; clear hw; go_simp
  have ke3_3 : w3.cell? ⟨nb, no + 3, none⟩ = some (.int .u64 (x4)) := by rw [← hw]; clear hw; go_simp
  have ke3_4 : w3.cell? ⟨nb, no + 4, none⟩ = some (.int .u64 (x5)) := by rw [← hw]; clear hw; go_simp
  have HB3 := Lib.hid (show Below w.heap.size w w3 from by rw [← hw]; clear hw; have h0 := HB2.out; exact (by repeat (first | with_reducible assumption | with_reducible refine Below.drew ?_ | with_reducible refine below_drewN' ?_ _ | with_reducible refine Below.alloc ?_ ?_ _ | with_reducible refine Below.setCell ?_ ?_ _ | with_reducible exact Nat.le_refl _ | omega | focus (simp; done) | focus (simp; omega))))
  have lnb3 : nb < w3.heap.size := by omega
  have HS3 := Lib.hid (show SB w3 (fun b => w.heap.size + 1 + 1 < b ∧ b < w1.heap.size) (.slice pb1 d1.length cb1) d1 from by rw [← hw]; clear hw; exact HS2.out.keeps (by repeat (first | with_reducible assumption | with_reducible exact Keeps.refl _ _ | with_reducible refine Keeps.drew ?_ | with_reducible refine Keeps.drewN ?_ _ | with_reducible refine Keeps.alloc ?_ _ | with_reducible refine Keeps.setCell ?_ ?_ _ | omega | focus (simp; done) | focus (simp; omega))))
  have ls3 : w1.heap.size ≤ w3.heap.size := by rw [← hw]; clear hw; first | omega | (simp; done) | (simp; omega)
  clear hw kc2_0 kc2_1 kc2_2 kc2_3 kc2_4 kc2_5 kc2_6 kc2_7 kx2_0 kx2_1 kx2_2 kx2_3 kx2_4 kx2_5 kx2_6 kx2_7 kx2_8 ke2_1 ke2_2 ke2_3 ke2_4 fc2_4 fc2_5 fc2_7 fx2_2 fx2_3 fx2_4 fx2_5 fx2_6 fx2_7 fx2_8 fc2 fx2 lw2 lC2 lnb2
  go_wp2_with fail
  refine (num8_c (n := 3) (N := 3) (b := nb) (o := no) (m := 5) (c := nc) (x := x4) (by go_simp) (by go_simp) (by go_simp) rfl (by go_simp) (by omega) (by omega) h4 (by omega)).mono ?_
  rintro e w4 ⟨rfl, q3, hw⟩
  have kc4_0 : w4.cell? ⟨w.heap.size + 1, 0, none⟩ = some (.slice (some ⟨nb, no, none⟩) 5 nc) := by rw [← hw]; clear hw; go_simp
  have kc4_1 : w4.cell? ⟨w.heap.size + 1, 1, none⟩ = some (.slice (some ⟨pd, po, none⟩) 1 cd) := by rw [← hw]; clear hw; go_simp
  have kc4_2 : w4.cell? ⟨w.heap.size + 1, 2, none⟩ = some (.slice pp np cp) := by rw [← hw]; clear hw; go_simp
  have kc4_3 : w4.cell? ⟨w.heap.size + 1, 3, none⟩ = some (.slice pl pay.length cl) := by rw [← hw]; clear hw; go_simp
  have kc4_4 : w4.cell? ⟨w.heap.size + 1, 4, none⟩ = some (.int .i64 4) := by rw [← hw]; clear hw; go_simp
  have kc4_5 : w4.cell? ⟨w.heap.size + 1, 5, none⟩ = some (.int .i64 1) := by rw [← hw]; clear hw; go_simp
  have kc4_6 : w4.cell? ⟨w.heap.size + 1, 6, none⟩ = some (.bool false) := by rw [← hw]; clear hw; go_simp
  have kc4_7 : w4.cell? ⟨w.heap.size + 1, 7, none⟩ = some (.bool false) := by rw [← hw]; clear hw; go_simp
  have kx4_0 : w4.cell? ⟨w.heap.size + 1 + 1, 0, none⟩ = some (.slice none 0 0) := by rw [← hw]; clear hw; go_simp
  have kx4_1 : w4.cell? ⟨w.heap.size + 1 + 1, 1, none⟩ = some (.slice none 0 0) := by rw [← hw]; clear hw; go_simp
  have kx4_2 : w4.cell? ⟨w.heap.size + 1 + 1, 2, none⟩ = some (.int .u16 x0) := by rw [← hw]; clear hw; go_simp
  have kx4_3 : w4.cell? ⟨w.heap.size + 1 + 1, 3, none⟩ = some (.slice pb1 d1.length cb1) := by rw [← hw]; clear hw; go_simp
  have kx4_4 : w4.cell? ⟨w.heap.size + 1 + 1, 4, none⟩ = some (.bool t2) := by rw [← hw]; clear hw; go_simp
  have kx4_5 : w4.cell? ⟨w.heap.size + 1 + 1, 5, none⟩ = some (.int .u8 x3) := by rw [← hw]; clear hw; go_simp
  have kx4_6 : w4.cell? ⟨w.heap.size + 1 + 1, 6, none⟩ = some (.int .u8 0) := by rw [← hw]; clear hw; go_simp
  have kx4_7 : w4.cell? ⟨w.heap.size + 1 + 1, 7, none⟩ = some (.int .u16 0) := by rw [← hw]; clear hw; go_simp
  have kx4_8 : w4.cell? ⟨w.heap.size + 1 + 1, 8, none⟩ = some (.slice none 0 0) := by rw [← hw]; clear hw; go_simp
  have fc4 : ∀ j, w4.frozen? ⟨w.heap.size + 1, j, none⟩ = false := fun j => by rw [← hw]; clear hw; go_simp
  have fx4 : ∀ j, w4.frozen? ⟨w.heap.size + 1 + 1, j, none⟩ = false := fun j => by rw [← hw]; clear hw; go_simp
  have fc4_4 := fc4 4
  have fc4_5 := fc4 5
  have fx4_2 := fx4 2
  have fx4_3 := fx4 3
  have fx4_4 := fx4 4
  have fx4_5 := fx4 5
  have fx4_6 := fx4 6
  have fx4_7 := fx4 7
  have fx4_8 := fx4 8
  have lw4 : w.heap.size + 1 + 1 < w4.heap.size := World.block_lt_of_cell? _ _ kx4_0
  have lC4 : w.heap.size + 1 < w4.heap.size := by omega
  have fc4_7 := fc4 7
  have ke4_1 : w4.cell? ⟨nb, no + 1, none⟩ = some (.int .u64 (b01 t2)) := by rw [← hw]; clear hw; go_simp
  have ke4_2 : w4.cell? ⟨nb, no + 2, none⟩ = some (.int .u64 (x3)) := by rw [← hw]; clear hw; go_simp
  have ke4_3 : w4.cell? ⟨nb, no + 3, none⟩ = some (.int .u64 (x4)) := by rw [← hw]; clear hw; go_simp
  have ke4_4 : w4.cell? ⟨nb, no + 4, none⟩ = some (.int .u64 (x5)) := by rw [← hw]; clear hw; go_simp
  have HB4 := Lib.hid (show Below w.heap.size w w4 from by rw [← hw]; clear hw; have h0 := HB3.out; exact (by repeat (first | with_reducible assumption | with_reducible refine Below.drew ?_ | with_reducible refine below_drewN' ?_ _ | with_reducible refine Below.alloc ?_ ?_ _ | with_reducible refine Below.setCell ?_ ?_ _ | with_reducible exact Nat.le_refl _ | omega | focus (simp; done) | focus (simp; omega))))
  have lnb4 : nb < w4.heap.size := by omega
  have HS4 := Lib.hid (show SB w4 (fun b => w.heap.size + 1 + 1 < b ∧ b < w1.heap.size) (.slice pb1 d1.length cb1) d1 from by rw [← hw]; clear hw; exact HS3.out.keeps (by repeat (first | with_reducible assumption | with_reducible exact Keeps.refl _ _ | with_reducible refine Keeps.drew ?_ | with_reducible refine Keeps.drewN ?_ _ | with_reducible refine Keeps.alloc ?_ _ | with_reducible refine Keeps.setCell ?_ ?_ _ | omega | focus (simp; done) | focus (simp; omega))))
  have ls4 : w1.heap.size ≤ w4.heap.size := by rw [← hw]; clear hw; first | omega | (simp; done) | (simp; omega)
  clear hw kc3_0 kc3_1 kc3_2 kc3_3 kc3_4 kc3_5 kc3_6 kc3_7 kx3_0 kx3_1 kx3_2 kx3_3 kx3_4 kx3_5 kx3_6 kx3_7 kx3_8 ke3_1 ke3_2 ke3_3 ke3_4 fc3_4 fc3_5 fc3_7 fx3_2 fx3_3 fx3_4 fx3_5 fx3_6 fx3_7 fx3_8 fc3 fx3 lw3 lC3 lnb3
  go_wp2_with fail
  refine (num16_c (n := 4) (N := 4) (b := nb) (o := no) (m := 5) (c := nc) (x := x5) (by go_simp) (by go_simp) (by go_simp) rfl (by go_simp) (by omega) (by omega) h5 (by omega)).mono ?_
  rintro e w5 ⟨rfl, q4, hw⟩
  have kc5_0 : w5.cell? ⟨w.heap.size + 1, 0, none⟩ = some (.slice (some ⟨nb, no, none⟩) 5 nc) := by rw [← hw]; clear hw; go_simp
  have kc5_1 : w5.cell? ⟨w.heap.size + 1, 1, none⟩ = some (.slice (some ⟨pd, po, none⟩) 1 cd) := by rw [← hw]; clear hw; go_simp
  have kc5_2 : w5.cell? ⟨w.heap.size + 1, 2, none⟩ = some (.slice pp np cp) := by rw [← hw]; clear hw; go_simp
  have kc5_3 : w5.cell? ⟨w.heap.size + 1, 3, none⟩ = some (.slice pl pay.length cl) := by rw [← hw]; clear hw; go_simp
  have kc5_4 : w5.cell? ⟨w.heap.size + 1, 4, none⟩ = some (.int .i64 5) := by rw [← hw]; clear hw; go_simp
  have kc5_5 : w5.cell? ⟨w.heap.size + 1, 5, none⟩ = some (.int .i64 1) := by rw [← hw]; clear hw; go_simp
  have kc5_6 : w5.cell? ⟨w.heap.size + 1, 6, none⟩ = some (.bool false) := by rw [← hw]; clear hw; go_simp
  have kc5_7 : w5.cell? ⟨w.heap.size + 1, 7, none⟩ = some (.bool false) := by rw [← hw]; clear hw; go_simp
  have kx5_0 : w5.cell? ⟨w.heap.size + 1 + 1, 0, none⟩ = some (.slice none 0 0) := by rw [← hw]; clear hw; go_simp
  have kx5_1 : w5.cell? ⟨w.heap.size + 1 + 1, 1, none⟩ = some (.slice none 0 0) := by rw [← hw]; clear hw; go_simp
  have kx5_2 : w5.cell? ⟨w.heap.size + 1 + 1, 2, none⟩ = some (.int .u16 x0) := by rw [← hw]; clear hw; go_simp
  have kx5_3 : w5.cell? ⟨w.heap.size + 1 + 1, 3, none⟩ = some (.slice pb1 d1.length cb1) := by rw [← hw]; clear hw; go_simp
  have kx5_4 : w5.cell? ⟨w.heap.size + 1 + 1, 4, none⟩ = some (.bool t2) := by rw [← hw]; clear hw; go_simp
  have kx5_5 : w5.cell? ⟨w.heap.size + 1 + 1, 5, none⟩ = some (.int .u8 x3) := by rw [← hw]; clear hw; go_simp
  have kx5_6 : w5.cell? ⟨w.heap.size + 1 + 1, 6, none⟩ = some (.int .u8 x4) := by rw [← hw]; clear hw; go_simp
  have kx5_7 : w5.cell? ⟨w.heap.size + 1 + 1, 7, none⟩ = some (.int .u16 0) := by rw [← hw]; clear hw; go_simp
  have kx5_8 : w5.cell? ⟨w.heap.size + 1 + 1, 8, none⟩ = some (.slice none 0 0) := by rw [← hw]; clear hw; go_simp
  have fc5 : ∀ j, w5.frozen? ⟨w.heap.size + 1, j, none⟩ = false := fun j => by rw [← hw]; clear hw; go_simp
  have fx5 : ∀ j, w5.frozen? ⟨w.heap.size + 1 + 1, j, none⟩ = false := fun j => by rw [← hw]; clear hw; go_simp
  have fc5_4 := fc5 4
  have fc5_5 := fc5 5
  have fx5_2 := fx5 2
  have fx5_3 := fx5 3
  have fx5_4 := fx5 4
  have fx5_5 := fx5 5
  have fx5_6 := fx5 6
  have fx5_7 := fx5 7
  have fx5_8 := fx5 8
  have lw5 : w.heap.size + 1 + 1 < w5.heap.size := World.block_lt_of_cell? _ _ kx5_0
  have lC5 : w.heap.size + 1 < w5.heap.size := by omega
  have fc5_7 := fc5 7
  have ke5_1 : w5.cell? ⟨nb, no + 1, none⟩ = some (.int .u64 (b01 t2)) := by rw [← hw]; clear hw; go_simp
  have ke5_2 : w5.cell? ⟨nb, no + 2, none⟩ = some (.int .u64 (x3)) := by rw [← hw]; clear hw; go_simp
  have ke5_3 : w5.cell? ⟨nb, no + 3, none⟩ = some (.int .u64 (x4)) := by rw [← hw]; clear hw; go_simp
  have ke5_4 : w5.cell? ⟨nb, no + 4, none⟩ = some (.int .u64 (x5)) := by rw [← hw]; clear hw; go_simp
  have HB5 := Lib.hid (show Below w.heap.size w w5 from by rw [← hw]; clear hw; have h0 := HB4.out; exact (by repeat (first | with_reducible assumption | with_reducible refine Below.drew ?_ | with_reducible refine below_drewN' ?_ _ | with_reducible refine Below.alloc ?_ ?_ _ | with_reducible refine Below.setCell ?_ ?_ _ | with_reducible exact Nat.le_refl _ | omega | focus (simp; done) | focus (simp; omega))))
  have lnb5 : nb < w5.heap.size := by omega
  have HS5 := Lib.hid (show SB w5 (fun b => w.heap.size + 1 + 1 < b ∧ b < w1.heap.size) (.slice pb1 d1.length cb1) d1 from by rw [← hw]; clear hw; exact HS4.out.keeps (by repeat (first | with_reducible assumption | with_reducible exact Keeps.refl _ _ | with_reducible refine Keeps.drew ?_ | with_reducible refine Keeps.drewN ?_ _ | with_reducible refine Keeps.alloc ?_ _ | with_reducible refine Keeps.setCell ?_ ?_ _ | omega | focus (simp; done) | focus (simp; omega))))
  have ls5 : w1.heap.size ≤ w5.heap.size := by rw [← hw]; clear hw; first | omega | (simp; done) | (simp; omega)
  clear hw kc4_0 kc4_1 kc4_2 kc4_3 kc4_4 kc4_5 kc4_6 kc4_7 kx4_0 kx4_1 kx4_2 kx4_3 kx4_4 kx4_5 kx4_6 kx4_7 kx4_8 ke4_1 ke4_2 ke4_3 ke4_4 fc4_4 fc4_5 fc4_7 fx4_2 fx4_3 fx4_4 fx4_5 fx4_6 fx4_7 fx4_8 fc4 fx4 lw4 lC4 lnb4
  go_wp2_with fail
  refine (parts_c (v := .slice pp np cp) (u := .bool false) (by go_simp) (by go_simp) (by go_simp)).mono ?_
  rintro e w6 ⟨rfl, hw⟩
  have kc6_0 : w6.cell? ⟨w.heap.size + 1, 0, none⟩ = some (.slice (some ⟨nb, no, none⟩) 5 nc) := by rw [← hw]; clear hw; go_simp
  have kc6_1 : w6.cell? ⟨w.heap.size + 1, 1, none⟩ = some (.slice (some ⟨pd, po, none⟩) 1 cd) := by rw [← hw]; clear hw; go_simp
  have kc6_2 : w6.cell? ⟨w.heap.size + 1, 2, none⟩ = some (.slice pp np cp) := by rw [← hw]; clear hw; go_simp
  have kc6_3 : w6.cell? ⟨w.heap.size + 1, 3, none⟩ = some (.slice pl pay.length cl) := by rw [← hw]; clear hw; go_simp
  have kc6_4 : w6.cell? ⟨w.heap.size + 1, 4, none⟩ = some (.int .i64 5) := by rw [← hw]; clear hw; go_simp
  have kc6_5 : w6.cell? ⟨w.heap.size + 1, 5, none⟩ = some (.int .i64 1) := by rw [← hw]; clear hw; go_simp
  have kc6_6 : w6.cell? ⟨w.heap.size + 1, 6, none⟩ = some (.bool false) := by rw [← hw]; clear hw; go_simp
  have kc6_7 : w6.cell? ⟨w.heap.size + 1, 7, none⟩ = some (.bool true) := by rw [← hw]; clear hw; go_simp
  have kx6_0 : w6.cell? ⟨w.heap.size + 1 + 1, 0, none⟩ = some (.slice none 0 0) := by rw [← hw]; clear hw; go_simp
  have kx6_1 : w6.cell? ⟨w.heap.size + 1 + 1, 1, none⟩ = some (.slice none 0 0) := by rw [← hw]; clear hw; go_simp
  have kx6_2 : w6.cell? ⟨w.heap.size + 1 + 1, 2, none⟩ = some (.int .u16 x0) := by rw [← hw]; clear hw; go_simp
  have kx6_3 : w6.cell? ⟨w.heap.size + 1 + 1, 3, none⟩ = some (.slice pb1 d1.length cb1) := by rw [← hw]; clear hw; go_simp
  have kx6_4 : w6.cell? ⟨w.heap.size + 1 + 1, 4, none⟩ = some (.bool t2) := by rw [← hw]; clear hw; go_simp
  have kx6_5 : w6.cell? ⟨w.heap.size + 1 + 1, 5, none⟩ = some (.int .u8 x3) := by rw [← hw]; clear hw; go_simp
  have kx6_6 : w6.cell? ⟨w.heap.size + 1 + 1, 6, none⟩ = some (.int .u8 x4) := by rw [← hw]; clear hw; go_simp
  have kx6_7 : w6.cell? ⟨w.heap.size + 1 + 1, 7, none⟩ = some (.int .u16 x5) := by rw [← hw]; clear hw; go_simp
  have kx6_8 : w6.cell? ⟨w.heap.size + 1 + 1, 8, none⟩ = some (.slice none 0 0) := by rw [← hw]; clear hw; go_simp
  have fc6 : ∀ j, w6.frozen? ⟨w.heap.size + 1, j, none⟩ = false := fun j => by rw [← hw]; clear hw; go_simp
  have fx6 : ∀ j, w6.frozen? ⟨w.heap.size + 1 + 1, j, none⟩ = false := fun j => by rw [← hw]; clear hw; go_simp
  have fc6_4 := fc6 4
  have fc6_5 := fc6 5
  have fx6_2 := fx6 2
  have fx6_3 := fx6 3
  have fx6_4 := fx6 4
  have fx6_5 := fx6 5
  have fx6_6 := fx6 6
  have fx6_7 := fx6 7
  have fx6_8 := fx6 8
  have lw6 : w.heap.size + 1 + 1 < w6.heap.size := World.block_lt_of_cell? _ _ kx6_0
  have lC6 : w.heap.size + 1 < w6.heap.size := by omega
  have fc6_7 := fc6 7
  have ke6_1 : w6.cell? ⟨nb, no + 1, none⟩ = some (.int .u64 (b01 t2)) := by rw [← hw]; clear hw; go_simp
  have ke6_2 : w6.cell? ⟨nb, no + 2, none⟩ = some (.int .u64 (x3)) := by rw [← hw]; clear hw; go_simp
  have ke6_3 : w6.cell? ⟨nb, no + 3, none⟩ = some (.int .u64 (x4)) := by rw [← hw]; clear hw; go_simp
  have ke6_4 : w6.cell? ⟨nb, no + 4, none⟩ = some (.int .u64 (x5)) := by rw [← hw]; clear hw; go_simp
  have HB6 := Lib.hid (show Below w.heap.size w w6 from by rw [← hw]; clear hw; have h0 := HB5.out; exact (by repeat (first | with_reducible assumption | with_reducible refine Below.drew ?_ | with_reducible refine below_drewN' ?_ _ | with_reducible refine Below.alloc ?_ ?_ _ | with_reducible refine Below.setCell ?_ ?_ _ | with_reducible exact Nat.le_refl _ | omega | focus (simp; done) | focus (simp; omega))))
  have lnb6 : nb < w6.heap.size := by omega
  have HS6 := Lib.hid (show SB w6 (fun b => w.heap.size + 1 + 1 < b ∧ b < w1.heap.size) (.slice pb1 d1.length cb1) d1 from by rw [← hw]; clear hw; exact HS5.out.keeps (by repeat (first | with_reducible assumption | with_reducible exact Keeps.refl _ _ | with_reducible refine Keeps.drew ?_ | with_reducible refine Keeps.drewN ?_ _ | with_reducible refine Keeps.alloc ?_ _ | with_reducible refine Keeps.setCell ?_ ?_ _ | omega | focus (simp; done) | focus (simp; omega))))
  have ls6 : w1.heap.size ≤ w6.heap.size := by rw [← hw]; clear hw; first | omega | (simp; done) | (simp; omega)
  clear hw kc5_0 kc5_1 kc5_2 kc5_3 kc5_4 kc5_5 kc5_6 kc5_7 kx5_0 kx5_1 kx5_2 kx5_3 kx5_4 kx5_5 kx5_6 kx5_7 kx5_8 ke5_1 ke5_2 ke5_3 ke5_4 fc5_4 fc5_5 fc5_7 fx5_2 fx5_3 fx5_4 fx5_5 fx5_6 fx5_7 fx5_8 fc5 fx5 lw5 lC5 lnb5
  go_wp2_with fail
  have HF0 := Lib.hid (GFills.start (E := eB) (T := 84) (J := 8) (W := w6) (L := w.heap.size + 1 + 1) (base := w6.heap.size) (ok := fun b => w6.heap.size ≤ b) lw6 (Nat.le_refl _) kx6_8 fx6)
  go_loopw [16, 202] (fun _ i wr => ∃ k : Nat, k ≤ np ∧ i = .int .i64 (k : Int) ∧ ∃ v, GFills eB 84 8 w6 wr (w.heap.size + 1 + 1) w6.heap.size (fun b => w6.heap.size ≤ b) v (ips.take k)) (fun _ i _ => np - (intOf i).toNat)
  case atStart => exact ⟨0, Nat.zero_le _, rfl, _, HF0.out⟩
  case round =>
    obtain ⟨k, hk, rfl, v, hF⟩ := hrel
    have HF := Lib.hid hF
    have lXr : w.heap.size + 1 + 1 < wr.heap.size := Nat.lt_of_lt_of_le hF.lt hF.le
    have leW := hF.le
    have ef := hF.froz 8
    have hown := hF.rows.own
    obtain ⟨p, c', hv⟩ := hF.rows.form
    rw [show (ips.take k).length = k by rw [List.length_take]; have := HNP.out; omega] at hv
    subst hv
    have e8 := hF.parts
    have HO := Lib.hid hown
    have HKG := Lib.hid (hF.keep.imp (fun b hb => ⟨by omega, by omega⟩ : ∀ b, b < w.heap.size + 1 + 1 → b < w6.heap.size ∧ b ≠ w.heap.size + 1 + 1))
    by_cases hlt : k < np
    · obtain ⟨gI, oI, u1', u2', q, rfl, lgI, hq, hc1, hc2, hs1, hs2⟩ := HPP.out.get (k := k) (by have := HNP1.out; omega)
      obtain ⟨dd, hdd, rfl⟩ : ∃ dd, ips[k]? = some dd ∧ q = ([], dd) := by
        rw [List.getElem?_map] at hq
        obtain ⟨dd, h1, h2⟩ := Option.map_eq_some_iff.1 hq
        exact ⟨dd, h1, h2.symm⟩
      have hkeep : Keeps (fun b => b < w.heap.size) w wr := (Keeps.of_below HB6.out).trans (HKG.out.imp (fun b hb => by omega))
      have hc1' := hkeep.cell (b := gI) lgI hc1
      have hc2' := hkeep.cell (b := gI) lgI hc2
      have HS2 := Lib.hid ((hs2.imp (fun b hb _ => hb : ∀ b, b < w.heap.size → True → b < w.heap.size)).keeps hkeep)
      have hddl := HDL.out dd (List.mem_of_getElem? hdd)
      obtain ⟨pn, cn, rfl⟩ : ∃ p c, u1' = .slice p 0 c := by
        obtain ⟨p, c, rfl, _⟩ := hs1
        exact ⟨p, c, rfl⟩
      obtain ⟨pq, cq, rfl⟩ := hs2.form
      have HDD := Lib.hid hdd
      have hkI : ((k : Nat) : Int) < (np : Int) := by omega
      have lgr : gI < wr.heap.size := by omega
      have HK1 := Lib.hid hlt
      have hmin : min k ips.length = k := by have := HNP.out; omega
      clear hF hown hq hc1 hc2 hs1 hs2 hkeep hdd kc6_0 kc6_1 kc6_2 kc6_3 kc6_4 kc6_5 kc6_6 kc6_7 kx6_0 kx6_1 kx6_2 kx6_3 kx6_4 kx6_5 kx6_6 kx6_7 kx6_8 fx6_2 fx6_3 fx6_4 fx6_5 fx6_6 fx6_7 fx6_8 fc6 fx6 ke6_1 ke6_2 ke6_3 ke6_4
      go_wp2_with fail
      refine wp_region_on (fun b => b < w6.heap.size ∨ b = wr.heap.size) (fun b hb => by first | omega | (rcases hb with hb | hb <;> omega) | (rcases hb with hb | hb <;> simp <;> omega)) [12] (.q 0 (.q 1 (.q 2 (.q 3 (.q 4 (.q 5 (.q 6 (.l 7 (.l 8 (.l 9 (.q 10 (.q 11 (.l 12 .done .stop))) .stop) .stop) .stop)))))))) (by kernel_rfl) (by kernel_rfl) (fun _ _ d _ _ h => by cases d <;> exact h) (by simp only [Ord.fill, nthOp]; rfl) ?_; intro hSm
      repeat
        first | refine lexO_pass rfl ?_ | (refine lexO_take2 ?_ rfl (by kernel_rfl) (by with_reducible assumption) (fun w' hS K Q' hK => ?_) ?_; rotate_left; focus (have hS2 := hS.2; clear hS; go_wp2_with fail; exact hK))
      refine lexO_do rfl (fun K hK => ?_) lexO_stop
      go_wp2_with fail
      refine (clone_c (HS2.out.keeps (by repeat (first | with_reducible assumption | with_reducible exact Keeps.refl _ _ | with_reducible refine Keeps.drew ?_ | with_reducible refine Keeps.drewN ?_ _ | with_reducible refine Keeps.alloc ?_ _ | with_reducible refine Keeps.setCell ?_ ?_ _ | omega | focus (simp; done) | focus (simp; omega)))) (by omega)).mono ?_
      rintro e3 w7 ⟨q3, cq3, rfl, hq3, hb3⟩
      have HQ3 := Lib.hid (hq3.imp (fun b _ hb => (by simp at hb; omega : wr.heap.size < b)))
      have HB3 := Lib.hid (show Below wr.heap.size wr w7 from Below.trans (by have h0 := Below.refl wr.heap.size wr; exact (by repeat (first | with_reducible assumption | with_reducible refine Below.drew ?_ | with_reducible refine below_drewN' ?_ _ | with_reducible refine Below.alloc ?_ ?_ _ | with_reducible refine Below.setCell ?_ ?_ _ | with_reducible exact Nat.le_refl _ | omega | focus (simp; done) | focus (simp; omega)))) (hb3.mono (by simp <;> omega)))
      have l7 : wr.heap.size < w7.heap.size := by have := hb3.size; simp at this; omega
      have n8 : w7.cell? ⟨w.heap.size + 1 + 1, 8, none⟩ = _ := (HB3.out.cell (p := ⟨w.heap.size + 1 + 1, 8, none⟩) lXr).trans e8
      have nf := (HB3.out.frozen (p := ⟨w.heap.size + 1 + 1, 8, none⟩) lXr).trans ef
      have lX7 : w.heap.size + 1 + 1 < w7.heap.size := by omega
      clear hq3
      go_wp2_with fail
      refine step_and (by repeat (first | with_reducible assumption | (with_reducible refine SameOn.refl (fun b hb => ?_); first | omega | (rcases hb with hb | hb <;> omega) | (rcases hb with hb | hb <;> simp <;> omega)) | with_reducible refine SameOn.drew ?_ | with_reducible refine SameOn.alloc ?_ _ | (refine SameOn.below ?_ (by with_reducible assumption)))) (fun _ => ?_)
      clear hb3
      repeat
        first | refine lexO_pass rfl ?_ | (refine lexO_take2 ?_ rfl (by kernel_rfl) (by with_reducible assumption) (fun w' hS K Q' hK => ?_) ?_; rotate_left; focus (have hS2 := hS.2; clear hS; go_wp2_with fail; exact hK))
      refine lexO_do rfl (fun K hK => ?_) lexO_stop
      go_wp2_with fail
      refine step_and (by repeat (first | with_reducible assumption | (with_reducible refine SameOn.refl (fun b hb => ?_); first | omega | (rcases hb with hb | hb <;> omega) | (rcases hb with hb | hb <;> simp <;> omega)) | with_reducible refine SameOn.drew ?_ | with_reducible refine SameOn.alloc ?_ _ | (refine SameOn.below ?_ (by with_reducible assumption)))) (fun _ => ?_)
      repeat
        first | refine lexO_pass rfl ?_ | (refine lexO_take2 ?_ rfl (by kernel_rfl) (by with_reducible assumption) (fun w' hS K Q' hK => ?_) ?_; rotate_left; focus (have hS2 := hS.2; clear hS; go_wp2_with fail; exact hK))
      refine lexO_do rfl (fun K hK => ?_) lexO_stop
      refine wp_append_N2 (E := eB) (.tmp 214) (.tmp 218) 96 84 _ 24 rfl Tryz.underlying96 infoIP rfl (by decide) (by decide) (HF.out.rows.keeps (Keeps.trans (Keeps.of_below HB3.out) (by repeat (first | with_reducible assumption | with_reducible exact Keeps.refl _ _ | with_reducible refine Keeps.drew ?_ | with_reducible refine Keeps.drewN ?_ _ | with_reducible refine Keeps.alloc ?_ _ | with_reducible refine Keeps.setCell ?_ ?_ _ | omega | focus (simp; done) | focus (simp; omega))))) wr.heap.size (fun k hk => (HO.out k hk).2) rfl rfl (cs := [.slice q3 dd.length cq3]) (y := dd) ?hcells ?hrep (by rw [List.length_take]; omega) (by first | omega | (simp; omega)) (fun q' c2 w8 hr5 hs5 hk5 hb5 => hK _ _ ?_)
      case hcells =>
        intro j u hu
        rcases j with _ | j
        · simp at hu; subst hu; go_simp
        · simp at hu
      case hrep => exact ⟨_, rfl, (HQ3.out.keeps (by repeat (first | with_reducible assumption | with_reducible exact Keeps.refl _ _ | with_reducible refine Keeps.drew ?_ | with_reducible refine Keeps.drewN ?_ _ | with_reducible refine Keeps.alloc ?_ _ | with_reducible refine Keeps.setCell ?_ ?_ _ | omega | focus (simp; done) | focus (simp; omega)))).imp (fun b _ hb => ⟨by omega, .inr (by omega)⟩)⟩
      refine step_and (SameOn.keeps (by repeat (first | with_reducible assumption | (with_reducible refine SameOn.refl (fun b hb => ?_); first | omega | (rcases hb with hb | hb <;> omega) | (rcases hb with hb | hb <;> simp <;> omega)) | with_reducible refine SameOn.drew ?_ | with_reducible refine SameOn.alloc ?_ _ | (refine SameOn.below ?_ (by with_reducible assumption)))) hk5 (fun b hb => by omega)) (fun _ => ?_)
      rw [show (ips.take k).length = k by rw [List.length_take]; have := HNP.out; omega] at hr5
      have hL5 : w8.cell? ⟨w.heap.size + 1 + 1, 8, none⟩ = some (.slice p k c') := hk5.cell (.inl lw6) (by go_simp)
      have hf5 : w8.frozen? ⟨w.heap.size + 1 + 1, 8, none⟩ = false := hk5.frozen (.inl lw6) (by first | omega | (simp; omega)) (by go_simp)
      have l8 : w.heap.size + 1 + 1 < w8.heap.size := World.block_lt_of_cell? _ _ hL5
      have H5 := Lib.hid (HF.out.step (w5 := w8) (fun b hb => by omega) (show Below wr.heap.size wr _ from (by have h0 := HB3.out; exact (by repeat (first | with_reducible assumption | with_reducible refine Below.drew ?_ | with_reducible refine below_drewN' ?_ _ | with_reducible refine Below.alloc ?_ ?_ _ | with_reducible refine Below.setCell ?_ ?_ _ | with_reducible exact Nat.le_refl _ | omega | focus (simp; done) | focus (simp; omega))))) hr5 hs5 (hk5.imp (fun b hb => .inl hb)) hb5)
      clear hr5 hs5 hk5 hb5
      repeat
        first | refine lexO_pass rfl ?_ | (refine lexO_take2 ?_ rfl (by kernel_rfl) (by with_reducible assumption) (fun w' hS K Q' hK => ?_) ?_; rotate_left; focus (have hS2 := hS.2; clear hS; go_wp2_with fail; exact hK))
      refine lexO_do rfl (fun K hK => ?_) lexO_stop
      go_wp2_with fail
      first | refine step_last (by decide) (lexO_done ?_) | refine lexO_done ?_
      go_wp2_with fail
      go_roundw
      case rel => exact ⟨k + 1, HK1.out, by go_num, _, by have := H5.out; rwa [take_snoc9 HDD.out] at this⟩
      case measure => have := HK1.out; simp [intOf]; omega
    · obtain rfl : k = np := by omega
      have hkI : ¬ ((k : Nat) : Int) < (k : Int) := by omega
      have hK6 : ∀ j u, w6.cell? ⟨w.heap.size + 1, j, none⟩ = some u → wr.cell? ⟨w.heap.size + 1, j, none⟩ = some u := fun j u hu => hF.keep.cell (b := w.heap.size + 1) ⟨lC6, by omega⟩ hu
      have z0 := hK6 _ _ kc6_0
      have z1 := hK6 _ _ kc6_1
      have z2 := hK6 _ _ kc6_2
      have z4 := hK6 _ _ kc6_4
      have z5 := hK6 _ _ kc6_5
      have z6 := hK6 _ _ kc6_6
      have z7 := hK6 _ _ kc6_7
      have y2 := hF.other 2 _ (by decide) kx6_2
      have y3 := hF.other 3 _ (by decide) kx6_3
      have y4 := hF.other 4 _ (by decide) kx6_4
      have y5 := hF.other 5 _ (by decide) kx6_5
      have y6 := hF.other 6 _ (by decide) kx6_6
      have y7 := hF.other 7 _ (by decide) kx6_7
      have lCr : w.heap.size + 1 < wr.heap.size := by omega
      clear hF hown hK6 kc6_0 kc6_1 kc6_2 kc6_3 kc6_4 kc6_5 kc6_6 kc6_7 kx6_0 kx6_1 kx6_2 kx6_3 kx6_4 kx6_5 kx6_6 kx6_7 kx6_8
      go_wp2_with fail
      refine (took_c (n1 := 5) (n2 := 1) (n3 := k) (p1 := some ⟨nb, no, none⟩) (m1 := nc) (p2 := some ⟨pd, po, none⟩) (m2 := cd) (p3 := pp) (m3 := cp) (ls := true) (by go_simp) (by go_simp) (by go_simp) (by go_simp) (by go_simp) (by go_simp) (by go_simp) rfl rfl (.inl rfl)).mono ?_
      rintro e w' ⟨rfl, qq, rfl⟩
      go_wp2_with fail
      refine bodyPost_ret (v := .iface 95 (.pointer (some ⟨w.heap.size + 1 + 1, 0, none⟩))) (by simp only [results, Tryz.results23]; go_simp) rfl ?_
      have hF := HF.out
      rw [List.take_of_length_le (by have := HNP.out; omega)] at hF
      have hbl : Below w.heap.size w wr := hF.below _ _ (by omega) HB6.out
      have hs6 := (HS6.out.imp (fun b _ hb => (⟨⟨by omega, by omega⟩, hb⟩ : (b < w6.heap.size ∧ b ≠ w.heap.size + 1 + 1) ∧ (w.heap.size + 1 + 1 < b ∧ b < w1.heap.size)))).keeps (hF.keep.imp (fun b hb => hb.1))
      refine ⟨(by repeat (first | with_reducible assumption | with_reducible refine Below.drew ?_ | with_reducible refine below_drewN' ?_ _ | with_reducible refine Below.alloc ?_ ?_ _ | with_reducible refine Below.setCell ?_ ?_ _ | with_reducible exact Nat.le_refl _ | omega | focus (simp; done) | focus (simp; omega))), _, rfl, by first | omega | (simp; done) | (simp; omega), by go_simp, ⟨_, by go_simp, (hs6.keeps (by repeat (first | with_reducible assumption | with_reducible exact Keeps.refl _ _ | with_reducible refine Keeps.drew ?_ | with_reducible refine Keeps.drewN ?_ _ | with_reducible refine Keeps.alloc ?_ _ | with_reducible refine Keeps.setCell ?_ ?_ _ | omega | focus (simp; done) | focus (simp; omega)))).imp (fun _ _ _ => trivial)⟩, by go_simp, by go_simp, by go_simp, by go_simp, _, by go_simp, (hF.rows.imp (Nat.zero_le _) (fun _ _ _ => trivial)).keeps (by repeat (first | with_reducible assumption | with_reducible exact Keeps.refl _ _ | with_reducible refine Keeps.drew ?_ | with_reducible refine Keeps.drewN ?_ _ | with_reducible refine Keeps.alloc ?_ _ | with_reducible refine Keeps.setCell ?_ ?_ _ | omega | focus (simp; done) | focus (simp; omega)))⟩
end Go.Proofs.YtmpifdanfnebpaaGreat
