/-
  impl.made of radius.
-/
import Derived.Test.YtaejicpdaldpiaaGreatMquery
import Derived.Test.YtaejicpdaldpiaaGreatLenr
import Derived.Deep.DeepCutAuto
namespace Go.Proofs.YtaejicpdaldpiaaGreat
open Go Go.RowKit

/-- What has been made of a part: its taker at Q has told all numbers, its cells lie at P. -/
def PartA (wr wx : World) (Q P : Nat) (nums : Value) (n : Int) (cs : List Value) (u : Value) (dd : List Int) : Prop :=
  Hid (Below wr.heap.size wr wx) ∧ (wr.heap.size < P ∧ P < wx.heap.size) ∧ (wx.cell? ⟨Q, 0, none⟩ = some nums ∧ wx.cell? ⟨Q, 1, none⟩ = some (.slice none 0 0) ∧ wx.cell? ⟨Q, 2, none⟩ = some (.slice none 0 0) ∧ wx.cell? ⟨Q, 4, none⟩ = some (.int .i64 n) ∧ wx.cell? ⟨Q, 5, none⟩ = some (.int .i64 0) ∧ wx.cell? ⟨Q, 6, none⟩ = some (.bool false) ∧ wx.cell? ⟨Q, 7, none⟩ = some (.bool false)) ∧
    (∀ i x, cs[i]? = some x → wx.cell? ⟨P, i, none⟩ = some x) ∧ SB wx (fun b => wr.heap.size < b) u dd

set_option maxRecDepth 100000 in
set_option maxHeartbeats 16000000 in
theorem made_radius {a0 b0 n0 : Int} {auth : List Int} {ps : List (List Int × List Int)} {pay : List Int} (h0 : 0 ≤ a0 ∧ a0 ≤ 255) (h1 : 0 ≤ b0 ∧ b0 ≤ 255) (h2 : 0 ≤ n0 ∧ n0 ≤ 65535) (hal : auth.length = 16) (hn50 : ps.length ≤ 50) (hok : ∀ p ∈ ps, OkAttr p) :
    MadeOf (.string ⟨#[114, 97, 100, 105, 117, 115]⟩) ⟨[a0, b0, n0], [auth], ps, pay⟩ 116 (MIsRadius a0 b0 n0 auth ps) := by
  intro vv w h
  obtain ⟨a, b, c, d, rfl, hn, hd, hp, hpl⟩ := h
  obtain ⟨nb, no, nc, rfl, lnb, hnc⟩ := hn.cellsN (n := 3) rfl (by decide)
  obtain ⟨pd, po, cd, rfl, lpd, hdc⟩ := hd.cellsN (n := 1) rfl (by decide)
  obtain ⟨pp, cp, rfl⟩ := hp.form
  obtain ⟨pl, cl, rfl⟩ := hpl.form
  have HPP := Lib.hid hp
  have HOK := Lib.hid hok
  have HAL := Lib.hid hal
  have e0 := hnc 0 _ rfl
  have e1 := hnc 1 _ rfl
  have e2 := hnc 2 _ rfl
  rw [Nat.add_zero] at e0
  obtain ⟨u0, eu0, hu0⟩ := hdc 0 _ rfl
  have HU0 := Lib.hid (hu0.imp (fun b hb _ => hb : ∀ b, b < w.heap.size → True → b < w.heap.size))
  clear hu0
  rw [Nat.add_zero] at eu0
  obtain ⟨np, hnp⟩ : ∃ n, n = ps.length := ⟨_, rfl⟩
  have lnp : np ≤ 50 := by omega
  have HNP := Lib.hid hnp
  rw [← hnp]
  have l1 : nb < w.heap.size + 1 := by omega
  have l2 : nb < w.heap.size + 1 + 1 := by omega
  have l3 : pd < w.heap.size + 1 := by omega
  have l4 : pd < w.heap.size + 1 + 1 := by omega
  have hdr : ∀ (W : World) (q : Nat) (p : Addr) (v : Value), (W.drewN q).setCell p v = (W.setCell p v).drewN q := fun _ _ _ _ => rfl
  clear hnc hn hd hp hpl hdc hok hnp
  go_enter Tryz.func34, Tryz.ntmps34
  go_wp2_with fail
  refine (num8_c (n := 0) (N := 0) (b := nb) (o := no) (m := 3) (c := nc) (x := a0) (by go_simp) (by go_simp) (by go_simp) rfl (by go_simp) (by omega) (by omega) h0 (by omega)).mono ?_
  rintro e w' ⟨rfl, q0, rfl⟩
  go_wp2_with fail
  refine (num8_c (n := 1) (N := 1) (b := nb) (o := no) (m := 3) (c := nc) (x := b0) (by go_simp) (by go_simp) (by go_simp) rfl (by go_simp) (by omega) (by omega) h1 (by omega)).mono ?_
  rintro e w' ⟨rfl, q1, rfl⟩
  go_wp2_with fail
  refine (num16_c (n := 2) (N := 2) (b := nb) (o := no) (m := 3) (c := nc) (x := n0) (by go_simp) (by go_simp) (by go_simp) rfl (by go_simp) (by omega) (by omega) h2 (by omega)).mono ?_
  rintro e w' ⟨rfl, q2, rfl⟩
  go_wp2_with fail
  refine (bytes_c (n := 0) (N := 0) (b := pd) (o := po) (m := 1) (c := cd) (u := u0) (bs := auth) (by first | omega | (simp; done) | (simp; omega)) (by first | omega | (simp; done) | (simp; omega)) (by go_simp) (by go_simp) (by go_simp) rfl (by go_simp) ((HU0.out.keeps (by repeat (first | with_reducible assumption | with_reducible exact Keeps.refl _ _ | with_reducible refine Keeps.drew ?_ | with_reducible refine Keeps.drewN ?_ _ | with_reducible refine Keeps.alloc ?_ _ | with_reducible refine Keeps.setCell ?_ ?_ _ | omega | focus (simp; done) | focus (simp; omega)))).imp (fun b hb hb2 => by omega)) (by omega) (by omega) (by omega) (by omega)).mono ?_
  rintro e w1 ⟨pb1, cb1, rfl, hs1, hb1⟩
  have kc1_0 : w1.cell? ⟨w.heap.size + 1, 0, none⟩ = some (.slice (some ⟨nb, no, none⟩) 3 nc) := (hb1.cell (p := ⟨w.heap.size + 1, 0, none⟩) (by first | omega | (simp; done) | (simp; omega))).trans (by go_simp)
  have kc1_1 : w1.cell? ⟨w.heap.size + 1, 1, none⟩ = some (.slice (some ⟨pd, po, none⟩) 1 cd) := (hb1.cell (p := ⟨w.heap.size + 1, 1, none⟩) (by first | omega | (simp; done) | (simp; omega))).trans (by go_simp)
  have kc1_2 : w1.cell? ⟨w.heap.size + 1, 2, none⟩ = some (.slice pp np cp) := (hb1.cell (p := ⟨w.heap.size + 1, 2, none⟩) (by first | omega | (simp; done) | (simp; omega))).trans (by go_simp)
  have kc1_3 : w1.cell? ⟨w.heap.size + 1, 3, none⟩ = some (.slice pl pay.length cl) := (hb1.cell (p := ⟨w.heap.size + 1, 3, none⟩) (by first | omega | (simp; done) | (simp; omega))).trans (by go_simp)
  have kc1_4 : w1.cell? ⟨w.heap.size + 1, 4, none⟩ = some (.int .i64 3) := (hb1.cell (p := ⟨w.heap.size + 1, 4, none⟩) (by first | omega | (simp; done) | (simp; omega))).trans (by go_simp)
  have kc1_5 : w1.cell? ⟨w.heap.size + 1, 5, none⟩ = some (.int .i64 1) := (hb1.cell (p := ⟨w.heap.size + 1, 5, none⟩) (by first | omega | (simp; done) | (simp; omega))).trans (by go_simp)
  have kc1_6 : w1.cell? ⟨w.heap.size + 1, 6, none⟩ = some (.bool false) := (hb1.cell (p := ⟨w.heap.size + 1, 6, none⟩) (by first | omega | (simp; done) | (simp; omega))).trans (by go_simp)
  have kc1_7 : w1.cell? ⟨w.heap.size + 1, 7, none⟩ = some (.bool false) := (hb1.cell (p := ⟨w.heap.size + 1, 7, none⟩) (by first | omega | (simp; done) | (simp; omega))).trans (by go_simp)
  have kx1_0 : w1.cell? ⟨w.heap.size + 1 + 1, 0, none⟩ = some (.slice none 0 0) := (hb1.cell (p := ⟨w.heap.size + 1 + 1, 0, none⟩) (by first | omega | (simp; done) | (simp; omega))).trans (by go_simp)
  have kx1_1 : w1.cell? ⟨w.heap.size + 1 + 1, 1, none⟩ = some (.slice none 0 0) := (hb1.cell (p := ⟨w.heap.size + 1 + 1, 1, none⟩) (by first | omega | (simp; done) | (simp; omega))).trans (by go_simp)
  have kx1_2 : w1.cell? ⟨w.heap.size + 1 + 1, 2, none⟩ = some (.int .u8 a0) := (hb1.cell (p := ⟨w.heap.size + 1 + 1, 2, none⟩) (by first | omega | (simp; done) | (simp; omega))).trans (by go_simp)
  have kx1_3 : w1.cell? ⟨w.heap.size + 1 + 1, 3, none⟩ = some (.int .u8 b0) := (hb1.cell (p := ⟨w.heap.size + 1 + 1, 3, none⟩) (by first | omega | (simp; done) | (simp; omega))).trans (by go_simp)
  have kx1_4 : w1.cell? ⟨w.heap.size + 1 + 1, 4, none⟩ = some (.int .u16 n0) := (hb1.cell (p := ⟨w.heap.size + 1 + 1, 4, none⟩) (by first | omega | (simp; done) | (simp; omega))).trans (by go_simp)
  have kx1_5 : w1.cell? ⟨w.heap.size + 1 + 1, 5, none⟩ = some (.int .u8 0) := (hb1.cell (p := ⟨w.heap.size + 1 + 1, 5, none⟩) (by first | omega | (simp; done) | (simp; omega))).trans (by go_simp)
  have kx1_6 : w1.cell? ⟨w.heap.size + 1 + 1, 6, none⟩ = some (.int .u8 0) := (hb1.cell (p := ⟨w.heap.size + 1 + 1, 6, none⟩) (by first | omega | (simp; done) | (simp; omega))).trans (by go_simp)
  have kx1_7 : w1.cell? ⟨w.heap.size + 1 + 1, 7, none⟩ = some (.int .u8 0) := (hb1.cell (p := ⟨w.heap.size + 1 + 1, 7, none⟩) (by first | omega | (simp; done) | (simp; omega))).trans (by go_simp)
  have kx1_8 : w1.cell? ⟨w.heap.size + 1 + 1, 8, none⟩ = some (.int .u8 0) := (hb1.cell (p := ⟨w.heap.size + 1 + 1, 8, none⟩) (by first | omega | (simp; done) | (simp; omega))).trans (by go_simp)
  have kx1_9 : w1.cell? ⟨w.heap.size + 1 + 1, 9, none⟩ = some (.int .u8 0) := (hb1.cell (p := ⟨w.heap.size + 1 + 1, 9, none⟩) (by first | omega | (simp; done) | (simp; omega))).trans (by go_simp)
  have kx1_10 : w1.cell? ⟨w.heap.size + 1 + 1, 10, none⟩ = some (.int .u8 0) := (hb1.cell (p := ⟨w.heap.size + 1 + 1, 10, none⟩) (by first | omega | (simp; done) | (simp; omega))).trans (by go_simp)
  have kx1_11 : w1.cell? ⟨w.heap.size + 1 + 1, 11, none⟩ = some (.int .u8 0) := (hb1.cell (p := ⟨w.heap.size + 1 + 1, 11, none⟩) (by first | omega | (simp; done) | (simp; omega))).trans (by go_simp)
  have kx1_12 : w1.cell? ⟨w.heap.size + 1 + 1, 12, none⟩ = some (.int .u8 0) := (hb1.cell (p := ⟨w.heap.size + 1 + 1, 12, none⟩) (by first | omega | (simp; done) | (simp; omega))).trans (by go_simp)
  have kx1_13 : w1.cell? ⟨w.heap.size + 1 + 1, 13, none⟩ = some (.int .u8 0) := (hb1.cell (p := ⟨w.heap.size + 1 + 1, 13, none⟩) (by first | omega | (simp; done) | (simp; omega))).trans (by go_simp)
  have kx1_14 : w1.cell? ⟨w.heap.size + 1 + 1, 14, none⟩ = some (.int .u8 0) := (hb1.cell (p := ⟨w.heap.size + 1 + 1, 14, none⟩) (by first | omega | (simp; done) | (simp; omega))).trans (by go_simp)
  have kx1_15 : w1.cell? ⟨w.heap.size + 1 + 1, 15, none⟩ = some (.int .u8 0) := (hb1.cell (p := ⟨w.heap.size + 1 + 1, 15, none⟩) (by first | omega | (simp; done) | (simp; omega))).trans (by go_simp)
  have kx1_16 : w1.cell? ⟨w.heap.size + 1 + 1, 16, none⟩ = some (.int .u8 0) := (hb1.cell (p := ⟨w.heap.size + 1 + 1, 16, none⟩) (by first | omega | (simp; done) | (simp; omega))).trans (by go_simp)
  have kx1_17 : w1.cell? ⟨w.heap.size + 1 + 1, 17, none⟩ = some (.int .u8 0) := (hb1.cell (p := ⟨w.heap.size + 1 + 1, 17, none⟩) (by first | omega | (simp; done) | (simp; omega))).trans (by go_simp)
  have kx1_18 : w1.cell? ⟨w.heap.size + 1 + 1, 18, none⟩ = some (.int .u8 0) := (hb1.cell (p := ⟨w.heap.size + 1 + 1, 18, none⟩) (by first | omega | (simp; done) | (simp; omega))).trans (by go_simp)
  have kx1_19 : w1.cell? ⟨w.heap.size + 1 + 1, 19, none⟩ = some (.int .u8 0) := (hb1.cell (p := ⟨w.heap.size + 1 + 1, 19, none⟩) (by first | omega | (simp; done) | (simp; omega))).trans (by go_simp)
  have kx1_20 : w1.cell? ⟨w.heap.size + 1 + 1, 20, none⟩ = some (.int .u8 0) := (hb1.cell (p := ⟨w.heap.size + 1 + 1, 20, none⟩) (by first | omega | (simp; done) | (simp; omega))).trans (by go_simp)
  have kx1_21 : w1.cell? ⟨w.heap.size + 1 + 1, 21, none⟩ = some (.slice none 0 0) := (hb1.cell (p := ⟨w.heap.size + 1 + 1, 21, none⟩) (by first | omega | (simp; done) | (simp; omega))).trans (by go_simp)
  have fc1 : ∀ j, w1.frozen? ⟨w.heap.size + 1, j, none⟩ = false := fun j => (hb1.frozen (p := ⟨w.heap.size + 1, j, none⟩) (by first | omega | (simp; done) | (simp; omega))).trans (by go_simp)
  have fx1 : ∀ j, w1.frozen? ⟨w.heap.size + 1 + 1, j, none⟩ = false := fun j => (hb1.frozen (p := ⟨w.heap.size + 1 + 1, j, none⟩) (by first | omega | (simp; done) | (simp; omega))).trans (by go_simp)
  have fc1_4 := fc1 4
  have fc1_5 := fc1 5
  have fc1_7 := fc1 7
  have fx1_2 := fx1 2
  have fx1_3 := fx1 3
  have fx1_4 := fx1 4
  have fx1_21 := fx1 21
  have lw1 : w.heap.size + 1 + 1 < w1.heap.size := World.block_lt_of_cell? _ _ kx1_0
  have lC1 : w.heap.size + 1 < w1.heap.size := by omega
  have HXA := Lib.hid (fun i => match i with | ⟨0, _⟩ => kx1_5 | ⟨1, _⟩ => kx1_6 | ⟨2, _⟩ => kx1_7 | ⟨3, _⟩ => kx1_8 | ⟨4, _⟩ => kx1_9 | ⟨5, _⟩ => kx1_10 | ⟨6, _⟩ => kx1_11 | ⟨7, _⟩ => kx1_12 | ⟨8, _⟩ => kx1_13 | ⟨9, _⟩ => kx1_14 | ⟨10, _⟩ => kx1_15 | ⟨11, _⟩ => kx1_16 | ⟨12, _⟩ => kx1_17 | ⟨13, _⟩ => kx1_18 | ⟨14, _⟩ => kx1_19 | ⟨15, _⟩ => kx1_20 | ⟨i + 16, h⟩ => absurd h (by omega) : ∀ i : Fin 16, w1.cell? ⟨w.heap.size + 1 + 1, 5 + (i : Nat), none⟩ = some (.int .u8 0))
  have HB1 := Lib.hid (show Below w.heap.size w w1 from Below.trans (by have h0 := Below.refl w.heap.size w; exact (by repeat (first | with_reducible assumption | with_reducible refine Below.drew ?_ | with_reducible refine below_drewN' ?_ _ | with_reducible refine Below.alloc ?_ ?_ _ | with_reducible refine Below.setCell ?_ ?_ _ | with_reducible exact Nat.le_refl _ | omega | focus (simp; done) | focus (simp; omega)))) (hb1.mono (by simp <;> omega)))
  have HS1 := Lib.hid (hs1.imp (fun b hl hb => (⟨by first | (simp at hb; omega) | omega, hl⟩ : w.heap.size + 1 + 1 < b ∧ b < w1.heap.size)))
  rw [hal] at HS1 ⊢
  obtain ⟨pg, po1, hpgo, hpg, hpl'⟩ : ∃ g o, pb1 = some ⟨g, o, none⟩ ∧ (∀ j v, (auth.map (.int .u8))[j]? = some v → w1.cell? ⟨g, o + j, none⟩ = some v) ∧ g < w1.heap.size := by
    obtain ⟨_, _, he, _, _, _, hr⟩ := HS1.out
    simp only [Value.slice.injEq] at he
    obtain ⟨rfl, -, -⟩ := he
    rcases hr with hr | ⟨g, o, rfl, hg, hgl, hcl⟩
    · have := congrArg List.length hr
      rw [List.length_map, hal] at this
      simp at this
    · exact ⟨g, o, rfl, hcl, hgl⟩
  subst hpgo
  have WS : ∀ j v, (auth.map (.int .u8))[j]? = some v → w1.cell? ((⟨pg, po1, none⟩ : Addr).add j) = some v := fun j v hv => by rw [addr_add]; exact hpg j v hv
  clear hb1 hs1 e1 e2 e0 hpg eu0 kx1_5 kx1_6 kx1_7 kx1_8 kx1_9 kx1_10 kx1_11 kx1_12 kx1_13 kx1_14 kx1_15 kx1_16 kx1_17 kx1_18 kx1_19 kx1_20
  go_wp2_with fail
  rw [run_copy_cells (P := Tryz.prog) w1 _ _ _ 5 _ _ _ _ _ _ _ (auth.map (.int .u8)) Tryz.underlying22 sz1B (by rw [List.length_map, hal]; rfl) WS ?hcc ?hcf ?hco]
  case hcc =>
    intro j hj
    have := HXA.out ⟨j, by rw [List.length_map, hal] at hj; exact hj⟩
    rw [this]
    rfl
  case hcf => exact fun j _ => fx1 _
  case hco => exact ints_oneCell .u8 auth
  clear WS
  generalize hw : World.setCells w1 _ _ _ = w2
  have kc2_0 : w2.cell? ⟨w.heap.size + 1, 0, none⟩ = some (.slice (some ⟨nb, no, none⟩) 3 nc) := by rw [← hw, cell_setCells (by omega)]; exact kc1_0
  have kc2_1 : w2.cell? ⟨w.heap.size + 1, 1, none⟩ = some (.slice (some ⟨pd, po, none⟩) 1 cd) := by rw [← hw, cell_setCells (by omega)]; exact kc1_1
  have kc2_2 : w2.cell? ⟨w.heap.size + 1, 2, none⟩ = some (.slice pp np cp) := by rw [← hw, cell_setCells (by omega)]; exact kc1_2
  have kc2_3 : w2.cell? ⟨w.heap.size + 1, 3, none⟩ = some (.slice pl pay.length cl) := by rw [← hw, cell_setCells (by omega)]; exact kc1_3
  have kc2_4 : w2.cell? ⟨w.heap.size + 1, 4, none⟩ = some (.int .i64 3) := by rw [← hw, cell_setCells (by omega)]; exact kc1_4
  have kc2_5 : w2.cell? ⟨w.heap.size + 1, 5, none⟩ = some (.int .i64 1) := by rw [← hw, cell_setCells (by omega)]; exact kc1_5
  have kc2_6 : w2.cell? ⟨w.heap.size + 1, 6, none⟩ = some (.bool false) := by rw [← hw, cell_setCells (by omega)]; exact kc1_6
  have kc2_7 : w2.cell? ⟨w.heap.size + 1, 7, none⟩ = some (.bool false) := by rw [← hw, cell_setCells (by omega)]; exact kc1_7
  have kx2_0 : w2.cell? ⟨w.heap.size + 1 + 1, 0, none⟩ = some (.slice none 0 0) := by rw [← hw, setCells_out _ _ (by first | exact .inl (by omega) | exact .inr (by rw [List.length_map, hal]; omega))]; exact kx1_0
  have kx2_1 : w2.cell? ⟨w.heap.size + 1 + 1, 1, none⟩ = some (.slice none 0 0) := by rw [← hw, setCells_out _ _ (by first | exact .inl (by omega) | exact .inr (by rw [List.length_map, hal]; omega))]; exact kx1_1
  have kx2_2 : w2.cell? ⟨w.heap.size + 1 + 1, 2, none⟩ = some (.int .u8 a0) := by rw [← hw, setCells_out _ _ (by first | exact .inl (by omega) | exact .inr (by rw [List.length_map, hal]; omega))]; exact kx1_2
  have kx2_3 : w2.cell? ⟨w.heap.size + 1 + 1, 3, none⟩ = some (.int .u8 b0) := by rw [← hw, setCells_out _ _ (by first | exact .inl (by omega) | exact .inr (by rw [List.length_map, hal]; omega))]; exact kx1_3
  have kx2_4 : w2.cell? ⟨w.heap.size + 1 + 1, 4, none⟩ = some (.int .u16 n0) := by rw [← hw, setCells_out _ _ (by first | exact .inl (by omega) | exact .inr (by rw [List.length_map, hal]; omega))]; exact kx1_4
  have kx2_21 : w2.cell? ⟨w.heap.size + 1 + 1, 21, none⟩ = some (.slice none 0 0) := by rw [← hw, setCells_out _ _ (by first | exact .inl (by omega) | exact .inr (by rw [List.length_map, hal]; omega))]; exact kx1_21
  have fc2 : ∀ j, w2.frozen? ⟨w.heap.size + 1, j, none⟩ = false := fun j => by rw [← hw, setCells_frozen]; exact fc1 j
  have fx2 : ∀ j, w2.frozen? ⟨w.heap.size + 1 + 1, j, none⟩ = false := fun j => by rw [← hw, setCells_frozen]; exact fx1 j
  have fc2_4 := fc2 4
  have fc2_5 := fc2 5
  have fc2_7 := fc2 7
  have fx2_2 := fx2 2
  have fx2_3 := fx2 3
  have fx2_4 := fx2 4
  have fx2_21 := fx2 21
  have lw2 : w.heap.size + 1 + 1 < w2.heap.size := World.block_lt_of_cell? _ _ kx2_0
  have lC2 : w.heap.size + 1 < w2.heap.size := by omega
  have HA2 := Lib.hid (show ∀ i x, auth[i]? = some x → w2.cell? ⟨w.heap.size + 1 + 1, 5 + i, none⟩ = some (.int .u8 x) from fun i x hx => by
    rw [← hw]
    refine setCells_in (fun i hi => ?_) (by simp [hx])
    rw [HXA.out ⟨i, by rw [List.length_map, hal] at hi; exact hi⟩]
    rfl)
  have HB2 := Lib.hid (show Below w.heap.size w w2 from by rw [← hw]; exact setCells_below (by omega) _ _ HB1.out)
  clear hw HXA kc1_0 kc1_1 kc1_2 kc1_3 kc1_4 kc1_5 kc1_6 kc1_7 kx1_0 kx1_1 kx1_2 kx1_3 kx1_4 kx1_21 fc1_4 fc1_5 fc1_7 fx1_2 fx1_3 fx1_4 fx1_21 fc1 fx1 lC1
  go_wp2_with fail
  refine (parts_c (v := .slice pp np cp) (u := .bool false) (by go_simp) (by go_simp) (by go_simp)).mono ?_
  rintro e w4 ⟨rfl, hw⟩
  have kc4_0 : w4.cell? ⟨w.heap.size + 1, 0, none⟩ = some (.slice (some ⟨nb, no, none⟩) 3 nc) := by rw [← hw]; clear hw; go_simp
  have kc4_1 : w4.cell? ⟨w.heap.size + 1, 1, none⟩ = some (.slice (some ⟨pd, po, none⟩) 1 cd) := by rw [← hw]; clear hw; go_simp
  have kc4_2 : w4.cell? ⟨w.heap.size + 1, 2, none⟩ = some (.slice pp np cp) := by rw [← hw]; clear hw; go_simp
  have kc4_3 : w4.cell? ⟨w.heap.size + 1, 3, none⟩ = some (.slice pl pay.length cl) := by rw [← hw]; clear hw; go_simp
  have kc4_4 : w4.cell? ⟨w.heap.size + 1, 4, none⟩ = some (.int .i64 3) := by rw [← hw]; clear hw; go_simp
  have kc4_5 : w4.cell? ⟨w.heap.size + 1, 5, none⟩ = some (.int .i64 1) := by rw [← hw]; clear hw; go_simp
  have kc4_6 : w4.cell? ⟨w.heap.size + 1, 6, none⟩ = some (.bool false) := by rw [← hw]; clear hw; go_simp
  have kc4_7 : w4.cell? ⟨w.heap.size + 1, 7, none⟩ = some (.bool true) := by rw [← hw]; clear hw; go_simp
  have kx4_0 : w4.cell? ⟨w.heap.size + 1 + 1, 0, none⟩ = some (.slice none 0 0) := by rw [← hw]; clear hw; go_simp
  have kx4_1 : w4.cell? ⟨w.heap.size + 1 + 1, 1, none⟩ = some (.slice none 0 0) := by rw [← hw]; clear hw; go_simp
  have kx4_2 : w4.cell? ⟨w.heap.size + 1 + 1, 2, none⟩ = some (.int .u8 a0) := by rw [← hw]; clear hw; go_simp
  have kx4_3 : w4.cell? ⟨w.heap.size + 1 + 1, 3, none⟩ = some (.int .u8 b0) := by rw [← hw]; clear hw; go_simp
  have kx4_4 : w4.cell? ⟨w.heap.size + 1 + 1, 4, none⟩ = some (.int .u16 n0) := by rw [← hw]; clear hw; go_simp
  have kx4_21 : w4.cell? ⟨w.heap.size + 1 + 1, 21, none⟩ = some (.slice none 0 0) := by rw [← hw]; clear hw; go_simp
  have fc4 : ∀ j, w4.frozen? ⟨w.heap.size + 1, j, none⟩ = false := fun j => by rw [← hw]; clear hw; go_simp
  have fx4 : ∀ j, w4.frozen? ⟨w.heap.size + 1 + 1, j, none⟩ = false := fun j => by rw [← hw]; clear hw; go_simp
  have fc4_4 := fc4 4
  have fc4_5 := fc4 5
  have fc4_7 := fc4 7
  have fx4_2 := fx4 2
  have fx4_3 := fx4 3
  have fx4_4 := fx4 4
  have fx4_21 := fx4 21
  have lw4 : w.heap.size + 1 + 1 < w4.heap.size := World.block_lt_of_cell? _ _ kx4_0
  have lC4 : w.heap.size + 1 < w4.heap.size := by omega
  have HA4 := Lib.hid (show ∀ i x, auth[i]? = some x → w4.cell? ⟨w.heap.size + 1 + 1, 5 + i, none⟩ = some (.int .u8 x) from fun i x hx => by rw [← hw]; have := HA2.out i x hx; clear hw; go_simp)
  have HB4 := Lib.hid (show Below w.heap.size w w4 from by rw [← hw]; clear hw; have h0 := HB2.out; exact (by repeat (first | with_reducible assumption | with_reducible refine Below.drew ?_ | with_reducible refine below_drewN' ?_ _ | with_reducible refine Below.alloc ?_ ?_ _ | with_reducible refine Below.setCell ?_ ?_ _ | with_reducible exact Nat.le_refl _ | omega | focus (simp; done) | focus (simp; omega))))
  clear hw HA2 kc2_0 kc2_1 kc2_2 kc2_3 kc2_4 kc2_5 kc2_6 kc2_7 kx2_0 kx2_1 kx2_2 kx2_3 kx2_4 kx2_21 fc2_4 fc2_5 fc2_7 fx2_2 fx2_3 fx2_4 fx2_21 fc2 fx2 lC2
  go_wp2_with fail
  have HF0 := Lib.hid (GFills.start (E := eA) (T := 129) (J := 21) (W := w4) (L := w.heap.size + 1 + 1) (base := w4.heap.size) (ok := fun b => w4.heap.size ≤ b) lw4 (Nat.le_refl _) kx4_21 fx4)
  go_loopw [32, 33, 34, 423] (fun _ _ _ i wr => ∃ k : Nat, k ≤ np ∧ i = .int .i64 (k : Int) ∧ ∃ v, GFills eA 129 21 w4 wr (w.heap.size + 1 + 1) w4.heap.size (fun b => w4.heap.size ≤ b) v (ps.take k)) (fun _ _ _ i _ => np - (intOf i).toNat)
  case atStart => exact ⟨0, Nat.zero_le _, rfl, _, HF0.out⟩
  case round =>
    obtain ⟨k, hk, rfl, v, hF⟩ := hrel
    have HF := Lib.hid hF
    have lXr : w.heap.size + 1 + 1 < wr.heap.size := Nat.lt_of_lt_of_le hF.lt hF.le
    have leW := hF.le
    have ef := hF.froz 21
    have hown := hF.rows.own
    obtain ⟨p, c', hv⟩ := hF.rows.form
    rw [show (ps.take k).length = k by rw [List.length_take]; have := HNP.out; omega] at hv
    subst hv
    have e21 := hF.parts
    have HO := Lib.hid hown
    have HKG := Lib.hid (hF.keep.imp (fun b hb => ⟨by omega, by omega⟩ : ∀ b, b < w.heap.size + 1 + 1 → b < w4.heap.size ∧ b ≠ w.heap.size + 1 + 1))
    by_cases hlt : k < np
    · obtain ⟨gI, oI, u1', u2', q, rfl, lgI, hq, hc1, hc2, hs1, hs2⟩ := HPP.out.get (k := k) (by have := HNP.out; show k < ps.length; omega)
      obtain ⟨a, n, hq1, ha, hn2, hn3⟩ := HOK.out q (List.mem_of_getElem? hq)
      obtain ⟨q1, dd⟩ := q
      obtain rfl : q1 = [a, n] := hq1
      obtain ⟨gn, on, cn, rfl, lgn, hnc⟩ := hs1.cellsN (n := 2) rfl (by decide)
      have hkeep : Keeps (fun b => b < w.heap.size) w wr := (Keeps.of_below HB4.out).trans (HKG.out.imp (fun b hb => by omega))
      have hc1' := hkeep.cell (b := gI) lgI hc1
      have hc2' := hkeep.cell (b := gI) lgI hc2
      have n0 : wr.cell? ⟨gn, on, none⟩ = some (.int .u64 a) := hkeep.cell (b := gn) lgn (hnc 0 _ rfl)
      have n1 := hkeep.cell (b := gn) lgn (hnc 1 _ rfl)
      have HDD := Lib.hid ((hs2.imp (fun b hb _ => hb : ∀ b, b < w.heap.size → True → b < w.heap.size)).keeps hkeep)
      have hddl : dd.length ≤ 253 := hn3
      have hn4 : n = (dd.length : Int) + 2 := hn2
      have han : 0 ≤ a ∧ a ≤ 255 := by omega
      have hnn : 0 ≤ n ∧ n ≤ 255 := by omega
      obtain ⟨pq, cq, rfl⟩ := hs2.form
      have HQG := Lib.hid hq
      have HN4 := Lib.hid hn4
      have hkI : ((k : Nat) : Int) < (np : Int) := by omega
      have lgr : gI < wr.heap.size := by omega
      have lgnr : gn < wr.heap.size := by omega
      have HK1 := Lib.hid hlt
      clear hF hown hq hc1 hc2 hs1 hs2 hkeep hnc hn2 hn3 hn4 ha kc4_0 kc4_1 kc4_2 kc4_3 kc4_4 kc4_5 kc4_6 kc4_7 kx4_0 kx4_1 kx4_2 kx4_3 kx4_4 kx4_21 fx4_2 fx4_3 fx4_4 fx4_21 fc4 fx4
      go_upto_region 100 with fail
      go_cut [34] (fun s wx => ∃ (P : Nat) (q3 : Option Addr) (cq3 : Nat), s = .pointer (some ⟨P, 0, none⟩) ∧ PartA wr wx (wr.heap.size + 1) P (.slice (some ⟨gn, on, none⟩) 2 cn) 2 [.int .u8 a, .int .u8 n, .slice q3 dd.length cq3] (.slice q3 dd.length cq3) dd)
      case first =>
        generalize hw : World.alloc _ _ = y0
        have kq0_0 : y0.cell? ⟨wr.heap.size + 1, 0, none⟩ = some (.slice (some ⟨gn, on, none⟩) 2 cn) := by rw [← hw]; clear hw; go_simp
        have kq0_1 : y0.cell? ⟨wr.heap.size + 1, 1, none⟩ = some (.slice none 0 0) := by rw [← hw]; clear hw; go_simp
        have kq0_2 : y0.cell? ⟨wr.heap.size + 1, 2, none⟩ = some (.slice none 0 0) := by rw [← hw]; clear hw; go_simp
        have kq0_3 : y0.cell? ⟨wr.heap.size + 1, 3, none⟩ = some (.slice none 0 0) := by rw [← hw]; clear hw; go_simp
        have kq0_4 : y0.cell? ⟨wr.heap.size + 1, 4, none⟩ = some (.int .i64 0) := by rw [← hw]; clear hw; go_simp
        have kq0_5 : y0.cell? ⟨wr.heap.size + 1, 5, none⟩ = some (.int .i64 0) := by rw [← hw]; clear hw; go_simp
        have kq0_6 : y0.cell? ⟨wr.heap.size + 1, 6, none⟩ = some (.bool false) := by rw [← hw]; clear hw; go_simp
        have kq0_7 : y0.cell? ⟨wr.heap.size + 1, 7, none⟩ = some (.bool false) := by rw [← hw]; clear hw; go_simp
        have kf0_4 : y0.frozen? ⟨wr.heap.size + 1, 4, none⟩ = false := by rw [← hw]; clear hw; go_simp
        have ke0_0 : y0.cell? ⟨gn, on, none⟩ = some (.int .u64 a) := by rw [← hw]; clear hw; go_simp
        have ke0_1 : y0.cell? ⟨gn, on + 1, none⟩ = some (.int .u64 n) := by rw [← hw]; clear hw; go_simp
        have lq0 : wr.heap.size + 1 < y0.heap.size := World.block_lt_of_cell? _ _ kq0_0
        have lg0 : gn < y0.heap.size := by omega
        have kd0 : y0.cell? ⟨wr.heap.size, 1, none⟩ = some (.slice pq dd.length cq) := by rw [← hw]; clear hw; go_simp
        have kl0 : wr.heap.size < y0.heap.size := by omega
        have HB0 := Lib.hid (show Below wr.heap.size wr y0 from by rw [← hw]; clear hw; have h0 := Below.refl wr.heap.size wr; exact (by repeat (first | with_reducible assumption | with_reducible refine Below.drew ?_ | with_reducible refine below_drewN' ?_ _ | with_reducible refine Below.alloc ?_ ?_ _ | with_reducible refine Below.setCell ?_ ?_ _ | with_reducible exact Nat.le_refl _ | omega | focus (simp; done) | focus (simp; omega))))
        have HK0 := Lib.hid (Keeps.refl (fun b => b = wr.heap.size) y0)
        clear hw hc1' hc2' n0 n1
        refine wp_region_on (fun b => b = wr.heap.size) (fun b hb => by first | omega | (rcases hb with hb | hb <;> omega) | (rcases hb with hb | hb <;> simp <;> omega)) [11] (.q 0 (.q 3 (.q 6 (.q 7 (.l 1 (.q 2 (.l 4 (.q 5 (.l 8 (.q 9 (.l 10 (.l 11 .done .stop) .stop)) (.l 10 (.l 8 (.q 9 (.l 11 .done .stop)) .stop) .stop))) (.l 10 (.l 4 (.q 5 (.l 8 (.q 9 (.l 11 .done .stop)) .stop)) .stop) .stop))) (.l 10 (.l 1 (.q 2 (.l 4 (.q 5 (.l 8 (.q 9 (.l 11 .done .stop)) .stop)) .stop)) .stop) .stop)))))) (by kernel_rfl) (by kernel_rfl) (fun _ _ d _ _ h => by cases d <;> exact h) (by simp only [Ord.fill, nthOp]; rfl) ?_; intro hSm
        repeat
          first | refine lexO_pass rfl ?_ | (refine lexO_take2 ?_ rfl (by kernel_rfl) (by with_reducible assumption) (fun w' hS K Q' hK => ?_) ?_; rotate_left; focus (have hS2 := hS.2; clear hS; go_wp2_with fail; exact hK))
        refine lexO_do rfl (fun K hK => ?_) (lexO_do rfl (fun K hK => ?_) lexO_stop)
        · go_wp2_with fail
          refine (num8_c (n := 0) (N := 0) (b := gn) (o := on) (m := 2) (c := cn) (x := a) (by go_simp) (by go_simp) (by go_simp) rfl (by go_simp) (by omega) (by omega) han (by omega)).mono ?_
          rintro e y1 ⟨rfl, z1, hw⟩
          have kq1_0 : y1.cell? ⟨wr.heap.size + 1, 0, none⟩ = some (.slice (some ⟨gn, on, none⟩) 2 cn) := by rw [← hw]; clear hw; go_simp
          have kq1_1 : y1.cell? ⟨wr.heap.size + 1, 1, none⟩ = some (.slice none 0 0) := by rw [← hw]; clear hw; go_simp
          have kq1_2 : y1.cell? ⟨wr.heap.size + 1, 2, none⟩ = some (.slice none 0 0) := by rw [← hw]; clear hw; go_simp
          have kq1_3 : y1.cell? ⟨wr.heap.size + 1, 3, none⟩ = some (.slice none 0 0) := by rw [← hw]; clear hw; go_simp
          have kq1_4 : y1.cell? ⟨wr.heap.size + 1, 4, none⟩ = some (.int .i64 1) := by rw [← hw]; clear hw; go_simp
          have kq1_5 : y1.cell? ⟨wr.heap.size + 1, 5, none⟩ = some (.int .i64 0) := by rw [← hw]; clear hw; go_simp
          have kq1_6 : y1.cell? ⟨wr.heap.size + 1, 6, none⟩ = some (.bool false) := by rw [← hw]; clear hw; go_simp
          have kq1_7 : y1.cell? ⟨wr.heap.size + 1, 7, none⟩ = some (.bool false) := by rw [← hw]; clear hw; go_simp
          have kf1_4 : y1.frozen? ⟨wr.heap.size + 1, 4, none⟩ = false := by rw [← hw]; clear hw; go_simp
          have ke1_0 : y1.cell? ⟨gn, on, none⟩ = some (.int .u64 a) := by rw [← hw]; clear hw; go_simp
          have ke1_1 : y1.cell? ⟨gn, on + 1, none⟩ = some (.int .u64 n) := by rw [← hw]; clear hw; go_simp
          have lq1 : wr.heap.size + 1 < y1.heap.size := World.block_lt_of_cell? _ _ kq1_0
          have lg1 : gn < y1.heap.size := by omega
          have HB1 := Lib.hid (show Below wr.heap.size wr y1 from by rw [← hw]; clear hw; have h0 := HB0.out; exact (by repeat (first | with_reducible assumption | with_reducible refine Below.drew ?_ | with_reducible refine below_drewN' ?_ _ | with_reducible refine Below.alloc ?_ ?_ _ | with_reducible refine Below.setCell ?_ ?_ _ | with_reducible exact Nat.le_refl _ | omega | focus (simp; done) | focus (simp; omega))))
          have lz1 : y0.heap.size ≤ y1.heap.size := by rw [← hw]; clear hw; first | omega | (simp; done) | (simp; omega)
          have HK1 := Lib.hid (show Keeps (fun b => b = wr.heap.size) y0 y1 from by rw [← hw]; clear hw; have h0 := HK0.out; exact (by repeat (first | with_reducible assumption | with_reducible exact Keeps.refl _ _ | with_reducible refine Keeps.drew ?_ | with_reducible refine Keeps.drewN ?_ _ | with_reducible refine Keeps.alloc ?_ _ | with_reducible refine Keeps.setCell ?_ ?_ _ | omega | focus (simp; done) | focus (simp; omega))))
          clear hw kq0_0 kq0_1 kq0_2 kq0_3 kq0_4 kq0_5 kq0_6 kq0_7 kf0_4 ke0_0 ke0_1 lg0
          go_wp2_with fail
          first | refine step_and (SameOn.keeps (SameOn.refl (fun b hb => by omega)) HK1.out (fun b hb => hb)) (fun _ => ?_) | (have hSA := SameOn.keeps (SameOn.refl (ok := fun b => b = wr.heap.size) (W := y0) (fun b hb => by omega)) HK1.out (fun b hb => hb); refine ⟨hSA, ?_⟩)
          repeat
            first | refine lexO_pass rfl ?_ | (refine lexO_take2 ?_ rfl (by kernel_rfl) (by with_reducible assumption) (fun w' hS K Q' hK => ?_) ?_; rotate_left; focus (have hS2 := hS.2; clear hS; go_wp2_with fail; exact hK))
          refine lexO_do rfl (fun K hK => ?_) (lexO_do rfl (fun K hK => ?_) lexO_stop)
          · go_wp2_with fail
            refine (num8_c (n := 1) (N := 1) (b := gn) (o := on) (m := 2) (c := cn) (x := n) (by go_simp) (by go_simp) (by go_simp) rfl (by go_simp) (by omega) (by omega) hnn (by omega)).mono ?_
            rintro e y2 ⟨rfl, z2, hw⟩
            have kq2_0 : y2.cell? ⟨wr.heap.size + 1, 0, none⟩ = some (.slice (some ⟨gn, on, none⟩) 2 cn) := by rw [← hw]; clear hw; go_simp
            have kq2_1 : y2.cell? ⟨wr.heap.size + 1, 1, none⟩ = some (.slice none 0 0) := by rw [← hw]; clear hw; go_simp
            have kq2_2 : y2.cell? ⟨wr.heap.size + 1, 2, none⟩ = some (.slice none 0 0) := by rw [← hw]; clear hw; go_simp
            have kq2_3 : y2.cell? ⟨wr.heap.size + 1, 3, none⟩ = some (.slice none 0 0) := by rw [← hw]; clear hw; go_simp
            have kq2_4 : y2.cell? ⟨wr.heap.size + 1, 4, none⟩ = some (.int .i64 2) := by rw [← hw]; clear hw; go_simp
            have kq2_5 : y2.cell? ⟨wr.heap.size + 1, 5, none⟩ = some (.int .i64 0) := by rw [← hw]; clear hw; go_simp
            have kq2_6 : y2.cell? ⟨wr.heap.size + 1, 6, none⟩ = some (.bool false) := by rw [← hw]; clear hw; go_simp
            have kq2_7 : y2.cell? ⟨wr.heap.size + 1, 7, none⟩ = some (.bool false) := by rw [← hw]; clear hw; go_simp
            have kf2_4 : y2.frozen? ⟨wr.heap.size + 1, 4, none⟩ = false := by rw [← hw]; clear hw; go_simp
            have ke2_0 : y2.cell? ⟨gn, on, none⟩ = some (.int .u64 a) := by rw [← hw]; clear hw; go_simp
            have ke2_1 : y2.cell? ⟨gn, on + 1, none⟩ = some (.int .u64 n) := by rw [← hw]; clear hw; go_simp
            have lq2 : wr.heap.size + 1 < y2.heap.size := World.block_lt_of_cell? _ _ kq2_0
            have lg2 : gn < y2.heap.size := by omega
            have HB2 := Lib.hid (show Below wr.heap.size wr y2 from by rw [← hw]; clear hw; have h0 := HB1.out; exact (by repeat (first | with_reducible assumption | with_reducible refine Below.drew ?_ | with_reducible refine below_drewN' ?_ _ | with_reducible refine Below.alloc ?_ ?_ _ | with_reducible refine Below.setCell ?_ ?_ _ | with_reducible exact Nat.le_refl _ | omega | focus (simp; done) | focus (simp; omega))))
            have lz2 : y1.heap.size ≤ y2.heap.size := by rw [← hw]; clear hw; first | omega | (simp; done) | (simp; omega)
            have HK2 := Lib.hid (show Keeps (fun b => b = wr.heap.size) y0 y2 from by rw [← hw]; clear hw; have h0 := HK1.out; exact (by repeat (first | with_reducible assumption | with_reducible exact Keeps.refl _ _ | with_reducible refine Keeps.drew ?_ | with_reducible refine Keeps.drewN ?_ _ | with_reducible refine Keeps.alloc ?_ _ | with_reducible refine Keeps.setCell ?_ ?_ _ | omega | focus (simp; done) | focus (simp; omega))))
            clear hw kq1_0 kq1_1 kq1_2 kq1_3 kq1_4 kq1_5 kq1_6 kq1_7 kf1_4 ke1_0 ke1_1 lg1
            go_wp2_with fail
            first | refine step_and (SameOn.keeps (SameOn.refl (fun b hb => by omega)) HK2.out (fun b hb => hb)) (fun _ => ?_) | (have hSA := SameOn.keeps (SameOn.refl (ok := fun b => b = wr.heap.size) (W := y0) (fun b hb => by omega)) HK2.out (fun b hb => hb); refine ⟨hSA, ?_⟩)
            repeat
              first | refine lexO_pass rfl ?_ | (refine lexO_take2 ?_ rfl (by kernel_rfl) (by with_reducible assumption) (fun w' hS K Q' hK => ?_) ?_; rotate_left; focus (have hS2 := hS.2; clear hS; go_wp2_with fail; exact hK))
            refine lexO_do rfl (fun K hK => ?_) (lexO_do rfl (fun K hK => ?_) lexO_stop)
            · go_wp2_with fail
              refine (clone_c (HDD.out.keeps (Keeps.trans (Keeps.of_below HB2.out) (by repeat (first | with_reducible assumption | with_reducible exact Keeps.refl _ _ | with_reducible refine Keeps.drew ?_ | with_reducible refine Keeps.drewN ?_ _ | with_reducible refine Keeps.alloc ?_ _ | with_reducible refine Keeps.setCell ?_ ?_ _ | omega | focus (simp; done) | focus (simp; omega))))) (by omega)).mono ?_
              rintro e y3 ⟨q3, cq3, rfl, hq3, hb3⟩
              have kq3_0 : y3.cell? ⟨wr.heap.size + 1, 0, none⟩ = some (.slice (some ⟨gn, on, none⟩) 2 cn) := (hb3.cell (p := ⟨wr.heap.size + 1, 0, none⟩) (by first | omega | (simp; done) | (simp; omega))).trans (by go_simp)
              have kq3_1 : y3.cell? ⟨wr.heap.size + 1, 1, none⟩ = some (.slice none 0 0) := (hb3.cell (p := ⟨wr.heap.size + 1, 1, none⟩) (by first | omega | (simp; done) | (simp; omega))).trans (by go_simp)
              have kq3_2 : y3.cell? ⟨wr.heap.size + 1, 2, none⟩ = some (.slice none 0 0) := (hb3.cell (p := ⟨wr.heap.size + 1, 2, none⟩) (by first | omega | (simp; done) | (simp; omega))).trans (by go_simp)
              have kq3_3 : y3.cell? ⟨wr.heap.size + 1, 3, none⟩ = some (.slice none 0 0) := (hb3.cell (p := ⟨wr.heap.size + 1, 3, none⟩) (by first | omega | (simp; done) | (simp; omega))).trans (by go_simp)
              have kq3_4 : y3.cell? ⟨wr.heap.size + 1, 4, none⟩ = some (.int .i64 2) := (hb3.cell (p := ⟨wr.heap.size + 1, 4, none⟩) (by first | omega | (simp; done) | (simp; omega))).trans (by go_simp)
              have kq3_5 : y3.cell? ⟨wr.heap.size + 1, 5, none⟩ = some (.int .i64 0) := (hb3.cell (p := ⟨wr.heap.size + 1, 5, none⟩) (by first | omega | (simp; done) | (simp; omega))).trans (by go_simp)
              have kq3_6 : y3.cell? ⟨wr.heap.size + 1, 6, none⟩ = some (.bool false) := (hb3.cell (p := ⟨wr.heap.size + 1, 6, none⟩) (by first | omega | (simp; done) | (simp; omega))).trans (by go_simp)
              have kq3_7 : y3.cell? ⟨wr.heap.size + 1, 7, none⟩ = some (.bool false) := (hb3.cell (p := ⟨wr.heap.size + 1, 7, none⟩) (by first | omega | (simp; done) | (simp; omega))).trans (by go_simp)
              have kf3_4 : y3.frozen? ⟨wr.heap.size + 1, 4, none⟩ = false := (hb3.frozen (p := ⟨wr.heap.size + 1, 4, none⟩) (by first | omega | (simp; done) | (simp; omega))).trans (by go_simp)
              have ke3_0 : y3.cell? ⟨gn, on, none⟩ = some (.int .u64 a) := (hb3.cell (p := ⟨gn, on, none⟩) (by first | omega | (simp; done) | (simp; omega))).trans (by go_simp)
              have ke3_1 : y3.cell? ⟨gn, on + 1, none⟩ = some (.int .u64 n) := (hb3.cell (p := ⟨gn, on + 1, none⟩) (by first | omega | (simp; done) | (simp; omega))).trans (by go_simp)
              have lq3 : wr.heap.size + 1 < y3.heap.size := World.block_lt_of_cell? _ _ kq3_0
              have lg3 : gn < y3.heap.size := by omega
              have HB3 := Lib.hid (show Below wr.heap.size wr y3 from Below.trans (by have h0 := HB2.out; exact (by repeat (first | with_reducible assumption | with_reducible refine Below.drew ?_ | with_reducible refine below_drewN' ?_ _ | with_reducible refine Below.alloc ?_ ?_ _ | with_reducible refine Below.setCell ?_ ?_ _ | with_reducible exact Nat.le_refl _ | omega | focus (simp; done) | focus (simp; omega)))) (hb3.mono (by first | omega | (simp; done) | (simp; omega))))
              have lz3 : y2.heap.size ≤ y3.heap.size := by have := hb3.size; simpa using this
              have HQ3 := Lib.hid (show SB y3 (fun b => y2.heap.size ≤ b ∧ b < y3.heap.size) (.slice q3 dd.length cq3) dd from hq3.imp (fun b hl hb => ⟨by simpa using hb, hl⟩))
              have HK3 := Lib.hid (show Keeps (fun b => b = wr.heap.size) y0 y3 from Keeps.trans (by have h0 := HK2.out; exact (by repeat (first | with_reducible assumption | with_reducible exact Keeps.refl _ _ | with_reducible refine Keeps.drew ?_ | with_reducible refine Keeps.drewN ?_ _ | with_reducible refine Keeps.alloc ?_ _ | with_reducible refine Keeps.setCell ?_ ?_ _ | omega | focus (simp; done) | focus (simp; omega)))) (Keeps.of_below (hb3.mono (by simp))))
              clear hq3 hb3 kq2_0 kq2_1 kq2_2 kq2_3 kq2_4 kq2_5 kq2_6 kq2_7 kf2_4 ke2_0 ke2_1 lg2
              go_wp2_with fail
              first | refine step_and (SameOn.keeps (SameOn.refl (fun b hb => by omega)) HK3.out (fun b hb => hb)) (fun _ => ?_) | (have hSA := SameOn.keeps (SameOn.refl (ok := fun b => b = wr.heap.size) (W := y0) (fun b hb => by omega)) HK3.out (fun b hb => hb); refine ⟨hSA, ?_⟩)
              repeat
                first | refine lexO_pass rfl ?_ | (refine lexO_take2 ?_ rfl (by kernel_rfl) (by with_reducible assumption) (fun w' hS K Q' hK => ?_) ?_; rotate_left; focus (have hS2 := hS.2; clear hS; go_wp2_with fail; exact hK))
              refine lexO_do rfl (fun K hK => ?_) lexO_stop
              go_wp2_with fail
              generalize hw : World.alloc _ _ = y4
              have kq4_0 : y4.cell? ⟨wr.heap.size + 1, 0, none⟩ = some (.slice (some ⟨gn, on, none⟩) 2 cn) := by rw [← hw]; clear hw; go_simp
              have kq4_1 : y4.cell? ⟨wr.heap.size + 1, 1, none⟩ = some (.slice none 0 0) := by rw [← hw]; clear hw; go_simp
              have kq4_2 : y4.cell? ⟨wr.heap.size + 1, 2, none⟩ = some (.slice none 0 0) := by rw [← hw]; clear hw; go_simp
              have kq4_3 : y4.cell? ⟨wr.heap.size + 1, 3, none⟩ = some (.slice none 0 0) := by rw [← hw]; clear hw; go_simp
              have kq4_4 : y4.cell? ⟨wr.heap.size + 1, 4, none⟩ = some (.int .i64 2) := by rw [← hw]; clear hw; go_simp
              have kq4_5 : y4.cell? ⟨wr.heap.size + 1, 5, none⟩ = some (.int .i64 0) := by rw [← hw]; clear hw; go_simp
              have kq4_6 : y4.cell? ⟨wr.heap.size + 1, 6, none⟩ = some (.bool false) := by rw [← hw]; clear hw; go_simp
              have kq4_7 : y4.cell? ⟨wr.heap.size + 1, 7, none⟩ = some (.bool false) := by rw [← hw]; clear hw; go_simp
              have kf4_4 : y4.frozen? ⟨wr.heap.size + 1, 4, none⟩ = false := by rw [← hw]; clear hw; go_simp
              have ke4_0 : y4.cell? ⟨gn, on, none⟩ = some (.int .u64 a) := by rw [← hw]; clear hw; go_simp
              have ke4_1 : y4.cell? ⟨gn, on + 1, none⟩ = some (.int .u64 n) := by rw [← hw]; clear hw; go_simp
              have ko4_0 : y4.cell? ⟨y3.heap.size, 0, none⟩ = some (.int .u8 0) := by rw [← hw]; clear hw; go_simp
              have kz4_0 : y4.frozen? ⟨y3.heap.size, 0, none⟩ = false := by rw [← hw]; clear hw; go_simp
              have ko4_1 : y4.cell? ⟨y3.heap.size, 1, none⟩ = some (.int .u8 0) := by rw [← hw]; clear hw; go_simp
              have kz4_1 : y4.frozen? ⟨y3.heap.size, 1, none⟩ = false := by rw [← hw]; clear hw; go_simp
              have ko4_2 : y4.cell? ⟨y3.heap.size, 2, none⟩ = some (.slice none 0 0) := by rw [← hw]; clear hw; go_simp
              have kz4_2 : y4.frozen? ⟨y3.heap.size, 2, none⟩ = false := by rw [← hw]; clear hw; go_simp
              have lq4 : wr.heap.size + 1 < y4.heap.size := World.block_lt_of_cell? _ _ kq4_0
              have lg4 : gn < y4.heap.size := by omega
              have lo4 : y3.heap.size < y4.heap.size := World.block_lt_of_cell? _ _ ko4_0
              have HB4 := Lib.hid (show Below wr.heap.size wr y4 from by rw [← hw]; clear hw; have h0 := HB3.out; exact (by repeat (first | with_reducible assumption | with_reducible refine Below.drew ?_ | with_reducible refine below_drewN' ?_ _ | with_reducible refine Below.alloc ?_ ?_ _ | with_reducible refine Below.setCell ?_ ?_ _ | with_reducible exact Nat.le_refl _ | omega | focus (simp; done) | focus (simp; omega))))
              have HQ4 := Lib.hid (show SB y4 (fun b => y2.heap.size ≤ b ∧ b < y3.heap.size) (.slice q3 dd.length cq3) dd from by rw [← hw]; clear hw; exact HQ3.out.keeps (by repeat (first | with_reducible assumption | with_reducible exact Keeps.refl _ _ | with_reducible refine Keeps.drew ?_ | with_reducible refine Keeps.drewN ?_ _ | with_reducible refine Keeps.alloc ?_ _ | with_reducible refine Keeps.setCell ?_ ?_ _ | omega | focus (simp; done) | focus (simp; omega))))
              have lz4 : y3.heap.size ≤ y4.heap.size := by rw [← hw]; clear hw; first | omega | (simp; done) | (simp; omega)
              have HK4 := Lib.hid (show Keeps (fun b => b = wr.heap.size) y0 y4 from by rw [← hw]; clear hw; have h0 := HK3.out; exact (by repeat (first | with_reducible assumption | with_reducible exact Keeps.refl _ _ | with_reducible refine Keeps.drew ?_ | with_reducible refine Keeps.drewN ?_ _ | with_reducible refine Keeps.alloc ?_ _ | with_reducible refine Keeps.setCell ?_ ?_ _ | omega | focus (simp; done) | focus (simp; omega))))
              clear hw kq3_0 kq3_1 kq3_2 kq3_3 kq3_4 kq3_5 kq3_6 kq3_7 kf3_4 ke3_0 ke3_1 lg3
              first | refine step_and (SameOn.keeps (SameOn.refl (fun b hb => by omega)) HK4.out (fun b hb => hb)) (fun _ => ?_) | (have hSA := SameOn.keeps (SameOn.refl (ok := fun b => b = wr.heap.size) (W := y0) (fun b hb => by omega)) HK4.out (fun b hb => hb); refine ⟨hSA, ?_⟩)
              repeat
                first | refine lexO_pass rfl ?_ | (refine lexO_take2 ?_ rfl (by kernel_rfl) (by with_reducible assumption) (fun w' hS K Q' hK => ?_) ?_; rotate_left; focus (have hS2 := hS.2; clear hS; go_wp2_with fail; exact hK))
              refine lexO_do rfl (fun K hK => ?_) lexO_stop
              go_wp2_with fail
              first | refine step_last (by decide) (lexO_done ?_) | refine lexO_done ?_
              go_wp2_with fail
              go_meet
              refine ⟨y3.heap.size, q3, cq3, rfl, Lib.hid (by have h0 := HB4.out; exact (by repeat (first | with_reducible assumption | with_reducible refine Below.drew ?_ | with_reducible refine below_drewN' ?_ _ | with_reducible refine Below.alloc ?_ ?_ _ | with_reducible refine Below.setCell ?_ ?_ _ | with_reducible exact Nat.le_refl _ | omega | focus (simp; done) | focus (simp; omega)))), ⟨by omega, by first | omega | (simp; omega)⟩, ⟨by go_simp, by go_simp, by go_simp, by go_simp, by go_simp, by go_simp, by go_simp⟩, ?_, (HQ4.out.keeps (by repeat (first | with_reducible assumption | with_reducible exact Keeps.refl _ _ | with_reducible refine Keeps.drew ?_ | with_reducible refine Keeps.drewN ?_ _ | with_reducible refine Keeps.alloc ?_ _ | with_reducible refine Keeps.setCell ?_ ?_ _ | omega | focus (simp; done) | focus (simp; omega)))).imp (fun b _ hb => by omega)⟩
              intro i x hx
              rcases i with _ | _ | _ | i
              · simp at hx; subst hx; go_simp
              · simp at hx; subst hx; go_simp
              · simp at hx; subst hx; go_simp
              · simp at hx
            · go_wp2_with fail
              generalize hw : World.alloc _ _ = y3
              have kq3_0 : y3.cell? ⟨wr.heap.size + 1, 0, none⟩ = some (.slice (some ⟨gn, on, none⟩) 2 cn) := by rw [← hw]; clear hw; go_simp
              have kq3_1 : y3.cell? ⟨wr.heap.size + 1, 1, none⟩ = some (.slice none 0 0) := by rw [← hw]; clear hw; go_simp
              have kq3_2 : y3.cell? ⟨wr.heap.size + 1, 2, none⟩ = some (.slice none 0 0) := by rw [← hw]; clear hw; go_simp
              have kq3_3 : y3.cell? ⟨wr.heap.size + 1, 3, none⟩ = some (.slice none 0 0) := by rw [← hw]; clear hw; go_simp
              have kq3_4 : y3.cell? ⟨wr.heap.size + 1, 4, none⟩ = some (.int .i64 2) := by rw [← hw]; clear hw; go_simp
              have kq3_5 : y3.cell? ⟨wr.heap.size + 1, 5, none⟩ = some (.int .i64 0) := by rw [← hw]; clear hw; go_simp
              have kq3_6 : y3.cell? ⟨wr.heap.size + 1, 6, none⟩ = some (.bool false) := by rw [← hw]; clear hw; go_simp
              have kq3_7 : y3.cell? ⟨wr.heap.size + 1, 7, none⟩ = some (.bool false) := by rw [← hw]; clear hw; go_simp
              have kf3_4 : y3.frozen? ⟨wr.heap.size + 1, 4, none⟩ = false := by rw [← hw]; clear hw; go_simp
              have ke3_0 : y3.cell? ⟨gn, on, none⟩ = some (.int .u64 a) := by rw [← hw]; clear hw; go_simp
              have ke3_1 : y3.cell? ⟨gn, on + 1, none⟩ = some (.int .u64 n) := by rw [← hw]; clear hw; go_simp
              have ko3_0 : y3.cell? ⟨y2.heap.size, 0, none⟩ = some (.int .u8 0) := by rw [← hw]; clear hw; go_simp
              have kz3_0 : y3.frozen? ⟨y2.heap.size, 0, none⟩ = false := by rw [← hw]; clear hw; go_simp
              have ko3_1 : y3.cell? ⟨y2.heap.size, 1, none⟩ = some (.int .u8 0) := by rw [← hw]; clear hw; go_simp
              have kz3_1 : y3.frozen? ⟨y2.heap.size, 1, none⟩ = false := by rw [← hw]; clear hw; go_simp
              have ko3_2 : y3.cell? ⟨y2.heap.size, 2, none⟩ = some (.slice none 0 0) := by rw [← hw]; clear hw; go_simp
              have kz3_2 : y3.frozen? ⟨y2.heap.size, 2, none⟩ = false := by rw [← hw]; clear hw; go_simp
              have lq3 : wr.heap.size + 1 < y3.heap.size := World.block_lt_of_cell? _ _ kq3_0
              have lg3 : gn < y3.heap.size := by omega
              have lo3 : y2.heap.size < y3.heap.size := World.block_lt_of_cell? _ _ ko3_0
              have HB3 := Lib.hid (show Below wr.heap.size wr y3 from by rw [← hw]; clear hw; have h0 := HB2.out; exact (by repeat (first | with_reducible assumption | with_reducible refine Below.drew ?_ | with_reducible refine below_drewN' ?_ _ | with_reducible refine Below.alloc ?_ ?_ _ | with_reducible refine Below.setCell ?_ ?_ _ | with_reducible exact Nat.le_refl _ | omega | focus (simp; done) | focus (simp; omega))))
              have lz3 : y2.heap.size ≤ y3.heap.size := by rw [← hw]; clear hw; first | omega | (simp; done) | (simp; omega)
              have HK3 := Lib.hid (show Keeps (fun b => b = wr.heap.size) y0 y3 from by rw [← hw]; clear hw; have h0 := HK2.out; exact (by repeat (first | with_reducible assumption | with_reducible exact Keeps.refl _ _ | with_reducible refine Keeps.drew ?_ | with_reducible refine Keeps.drewN ?_ _ | with_reducible refine Keeps.alloc ?_ _ | with_reducible refine Keeps.setCell ?_ ?_ _ | omega | focus (simp; done) | focus (simp; omega))))
              clear hw kq2_0 kq2_1 kq2_2 kq2_3 kq2_4 kq2_5 kq2_6 kq2_7 kf2_4 ke2_0 ke2_1 lg2
              first | refine step_and (SameOn.keeps (SameOn.refl (fun b hb => by omega)) HK3.out (fun b hb => hb)) (fun _ => ?_) | (have hSA := SameOn.keeps (SameOn.refl (ok := fun b => b = wr.heap.size) (W := y0) (fun b hb => by omega)) HK3.out (fun b hb => hb); refine ⟨hSA, ?_⟩)
              repeat
                first | refine lexO_pass rfl ?_ | (refine lexO_take2 ?_ rfl (by kernel_rfl) (by with_reducible assumption) (fun w' hS K Q' hK => ?_) ?_; rotate_left; focus (have hS2 := hS.2; clear hS; go_wp2_with fail; exact hK))
              refine lexO_do rfl (fun K hK => ?_) lexO_stop
              go_wp2_with fail
              refine (clone_c (HDD.out.keeps (Keeps.trans (Keeps.of_below HB3.out) (by repeat (first | with_reducible assumption | with_reducible exact Keeps.refl _ _ | with_reducible refine Keeps.drew ?_ | with_reducible refine Keeps.drewN ?_ _ | with_reducible refine Keeps.alloc ?_ _ | with_reducible refine Keeps.setCell ?_ ?_ _ | omega | focus (simp; done) | focus (simp; omega))))) (by omega)).mono ?_
              rintro e y4 ⟨q3, cq3, rfl, hq3, hb3⟩
              have kq4_0 : y4.cell? ⟨wr.heap.size + 1, 0, none⟩ = some (.slice (some ⟨gn, on, none⟩) 2 cn) := (hb3.cell (p := ⟨wr.heap.size + 1, 0, none⟩) (by first | omega | (simp; done) | (simp; omega))).trans (by go_simp)
              have kq4_1 : y4.cell? ⟨wr.heap.size + 1, 1, none⟩ = some (.slice none 0 0) := (hb3.cell (p := ⟨wr.heap.size + 1, 1, none⟩) (by first | omega | (simp; done) | (simp; omega))).trans (by go_simp)
              have kq4_2 : y4.cell? ⟨wr.heap.size + 1, 2, none⟩ = some (.slice none 0 0) := (hb3.cell (p := ⟨wr.heap.size + 1, 2, none⟩) (by first | omega | (simp; done) | (simp; omega))).trans (by go_simp)
              have kq4_3 : y4.cell? ⟨wr.heap.size + 1, 3, none⟩ = some (.slice none 0 0) := (hb3.cell (p := ⟨wr.heap.size + 1, 3, none⟩) (by first | omega | (simp; done) | (simp; omega))).trans (by go_simp)
              have kq4_4 : y4.cell? ⟨wr.heap.size + 1, 4, none⟩ = some (.int .i64 2) := (hb3.cell (p := ⟨wr.heap.size + 1, 4, none⟩) (by first | omega | (simp; done) | (simp; omega))).trans (by go_simp)
              have kq4_5 : y4.cell? ⟨wr.heap.size + 1, 5, none⟩ = some (.int .i64 0) := (hb3.cell (p := ⟨wr.heap.size + 1, 5, none⟩) (by first | omega | (simp; done) | (simp; omega))).trans (by go_simp)
              have kq4_6 : y4.cell? ⟨wr.heap.size + 1, 6, none⟩ = some (.bool false) := (hb3.cell (p := ⟨wr.heap.size + 1, 6, none⟩) (by first | omega | (simp; done) | (simp; omega))).trans (by go_simp)
              have kq4_7 : y4.cell? ⟨wr.heap.size + 1, 7, none⟩ = some (.bool false) := (hb3.cell (p := ⟨wr.heap.size + 1, 7, none⟩) (by first | omega | (simp; done) | (simp; omega))).trans (by go_simp)
              have kf4_4 : y4.frozen? ⟨wr.heap.size + 1, 4, none⟩ = false := (hb3.frozen (p := ⟨wr.heap.size + 1, 4, none⟩) (by first | omega | (simp; done) | (simp; omega))).trans (by go_simp)
              have ke4_0 : y4.cell? ⟨gn, on, none⟩ = some (.int .u64 a) := (hb3.cell (p := ⟨gn, on, none⟩) (by first | omega | (simp; done) | (simp; omega))).trans (by go_simp)
              have ke4_1 : y4.cell? ⟨gn, on + 1, none⟩ = some (.int .u64 n) := (hb3.cell (p := ⟨gn, on + 1, none⟩) (by first | omega | (simp; done) | (simp; omega))).trans (by go_simp)
              have ko4_0 : y4.cell? ⟨y2.heap.size, 0, none⟩ = some (.int .u8 0) := (hb3.cell (p := ⟨y2.heap.size, 0, none⟩) (by first | omega | (simp; done) | (simp; omega))).trans (by go_simp)
              have kz4_0 : y4.frozen? ⟨y2.heap.size, 0, none⟩ = false := (hb3.frozen (p := ⟨y2.heap.size, 0, none⟩) (by first | omega | (simp; done) | (simp; omega))).trans (by go_simp)
              have ko4_1 : y4.cell? ⟨y2.heap.size, 1, none⟩ = some (.int .u8 0) := (hb3.cell (p := ⟨y2.heap.size, 1, none⟩) (by first | omega | (simp; done) | (simp; omega))).trans (by go_simp)
              have kz4_1 : y4.frozen? ⟨y2.heap.size, 1, none⟩ = false := (hb3.frozen (p := ⟨y2.heap.size, 1, none⟩) (by first | omega | (simp; done) | (simp; omega))).trans (by go_simp)
              have ko4_2 : y4.cell? ⟨y2.heap.size, 2, none⟩ = some (.slice none 0 0) := (hb3.cell (p := ⟨y2.heap.size, 2, none⟩) (by first | omega | (simp; done) | (simp; omega))).trans (by go_simp)
              have kz4_2 : y4.frozen? ⟨y2.heap.size, 2, none⟩ = false := (hb3.frozen (p := ⟨y2.heap.size, 2, none⟩) (by first | omega | (simp; done) | (simp; omega))).trans (by go_simp)
              have lq4 : wr.heap.size + 1 < y4.heap.size := World.block_lt_of_cell? _ _ kq4_0
              have lg4 : gn < y4.heap.size := by omega
              have lo4 : y2.heap.size < y4.heap.size := World.block_lt_of_cell? _ _ ko4_0
              have HB4 := Lib.hid (show Below wr.heap.size wr y4 from Below.trans (by have h0 := HB3.out; exact (by repeat (first | with_reducible assumption | with_reducible refine Below.drew ?_ | with_reducible refine below_drewN' ?_ _ | with_reducible refine Below.alloc ?_ ?_ _ | with_reducible refine Below.setCell ?_ ?_ _ | with_reducible exact Nat.le_refl _ | omega | focus (simp; done) | focus (simp; omega)))) (hb3.mono (by first | omega | (simp; done) | (simp; omega))))
              have lz4 : y3.heap.size ≤ y4.heap.size := by have := hb3.size; simpa using this
              have HQ4 := Lib.hid (show SB y4 (fun b => y3.heap.size ≤ b ∧ b < y4.heap.size) (.slice q3 dd.length cq3) dd from hq3.imp (fun b hl hb => ⟨by simpa using hb, hl⟩))
              have HK4 := Lib.hid (show Keeps (fun b => b = wr.heap.size) y0 y4 from Keeps.trans (by have h0 := HK3.out; exact (by repeat (first | with_reducible assumption | with_reducible exact Keeps.refl _ _ | with_reducible refine Keeps.drew ?_ | with_reducible refine Keeps.drewN ?_ _ | with_reducible refine Keeps.alloc ?_ _ | with_reducible refine Keeps.setCell ?_ ?_ _ | omega | focus (simp; done) | focus (simp; omega)))) (Keeps.of_below (hb3.mono (by simp))))
              clear hq3 hb3 kq3_0 kq3_1 kq3_2 kq3_3 kq3_4 kq3_5 kq3_6 kq3_7 kf3_4 ke3_0 ke3_1 lg3 ko3_0 ko3_1 ko3_2 kz3_0 kz3_1 kz3_2
              go_wp2_with fail
              first | refine step_and (SameOn.keeps (SameOn.refl (fun b hb => by omega)) HK4.out (fun b hb => hb)) (fun _ => ?_) | (have hSA := SameOn.keeps (SameOn.refl (ok := fun b => b = wr.heap.size) (W := y0) (fun b hb => by omega)) HK4.out (fun b hb => hb); refine ⟨hSA, ?_⟩)
              repeat
                first | refine lexO_pass rfl ?_ | (refine lexO_take2 ?_ rfl (by kernel_rfl) (by with_reducible assumption) (fun w' hS K Q' hK => ?_) ?_; rotate_left; focus (have hS2 := hS.2; clear hS; go_wp2_with fail; exact hK))
              refine lexO_do rfl (fun K hK => ?_) lexO_stop
              go_wp2_with fail
              first | refine step_last (by decide) (lexO_done ?_) | refine lexO_done ?_
              go_wp2_with fail
              go_meet
              refine ⟨y2.heap.size, q3, cq3, rfl, Lib.hid (by have h0 := HB4.out; exact (by repeat (first | with_reducible assumption | with_reducible refine Below.drew ?_ | with_reducible refine below_drewN' ?_ _ | with_reducible refine Below.alloc ?_ ?_ _ | with_reducible refine Below.setCell ?_ ?_ _ | with_reducible exact Nat.le_refl _ | omega | focus (simp; done) | focus (simp; omega)))), ⟨by omega, by first | omega | (simp; omega)⟩, ⟨by go_simp, by go_simp, by go_simp, by go_simp, by go_simp, by go_simp, by go_simp⟩, ?_, (HQ4.out.keeps (by repeat (first | with_reducible assumption | with_reducible exact Keeps.refl _ _ | with_reducible refine Keeps.drew ?_ | with_reducible refine Keeps.drewN ?_ _ | with_reducible refine Keeps.alloc ?_ _ | with_reducible refine Keeps.setCell ?_ ?_ _ | omega | focus (simp; done) | focus (simp; omega)))).imp (fun b _ hb => by omega)⟩
              intro i x hx
              rcases i with _ | _ | _ | i
              · simp at hx; subst hx; go_simp
              · simp at hx; subst hx; go_simp
              · simp at hx; subst hx; go_simp
              · simp at hx
          · go_wp2_with fail
            generalize hw : World.alloc _ _ = y2
            have kq2_0 : y2.cell? ⟨wr.heap.size + 1, 0, none⟩ = some (.slice (some ⟨gn, on, none⟩) 2 cn) := by rw [← hw]; clear hw; go_simp
            have kq2_1 : y2.cell? ⟨wr.heap.size + 1, 1, none⟩ = some (.slice none 0 0) := by rw [← hw]; clear hw; go_simp
            have kq2_2 : y2.cell? ⟨wr.heap.size + 1, 2, none⟩ = some (.slice none 0 0) := by rw [← hw]; clear hw; go_simp
            have kq2_3 : y2.cell? ⟨wr.heap.size + 1, 3, none⟩ = some (.slice none 0 0) := by rw [← hw]; clear hw; go_simp
            have kq2_4 : y2.cell? ⟨wr.heap.size + 1, 4, none⟩ = some (.int .i64 1) := by rw [← hw]; clear hw; go_simp
            have kq2_5 : y2.cell? ⟨wr.heap.size + 1, 5, none⟩ = some (.int .i64 0) := by rw [← hw]; clear hw; go_simp
            have kq2_6 : y2.cell? ⟨wr.heap.size + 1, 6, none⟩ = some (.bool false) := by rw [← hw]; clear hw; go_simp
            have kq2_7 : y2.cell? ⟨wr.heap.size + 1, 7, none⟩ = some (.bool false) := by rw [← hw]; clear hw; go_simp
            have kf2_4 : y2.frozen? ⟨wr.heap.size + 1, 4, none⟩ = false := by rw [← hw]; clear hw; go_simp
            have ke2_0 : y2.cell? ⟨gn, on, none⟩ = some (.int .u64 a) := by rw [← hw]; clear hw; go_simp
            have ke2_1 : y2.cell? ⟨gn, on + 1, none⟩ = some (.int .u64 n) := by rw [← hw]; clear hw; go_simp
            have ko2_0 : y2.cell? ⟨y1.heap.size, 0, none⟩ = some (.int .u8 0) := by rw [← hw]; clear hw; go_simp
            have kz2_0 : y2.frozen? ⟨y1.heap.size, 0, none⟩ = false := by rw [← hw]; clear hw; go_simp
            have ko2_1 : y2.cell? ⟨y1.heap.size, 1, none⟩ = some (.int .u8 0) := by rw [← hw]; clear hw; go_simp
            have kz2_1 : y2.frozen? ⟨y1.heap.size, 1, none⟩ = false := by rw [← hw]; clear hw; go_simp
            have ko2_2 : y2.cell? ⟨y1.heap.size, 2, none⟩ = some (.slice none 0 0) := by rw [← hw]; clear hw; go_simp
            have kz2_2 : y2.frozen? ⟨y1.heap.size, 2, none⟩ = false := by rw [← hw]; clear hw; go_simp
            have lq2 : wr.heap.size + 1 < y2.heap.size := World.block_lt_of_cell? _ _ kq2_0
            have lg2 : gn < y2.heap.size := by omega
            have lo2 : y1.heap.size < y2.heap.size := World.block_lt_of_cell? _ _ ko2_0
            have HB2 := Lib.hid (show Below wr.heap.size wr y2 from by rw [← hw]; clear hw; have h0 := HB1.out; exact (by repeat (first | with_reducible assumption | with_reducible refine Below.drew ?_ | with_reducible refine below_drewN' ?_ _ | with_reducible refine Below.alloc ?_ ?_ _ | with_reducible refine Below.setCell ?_ ?_ _ | with_reducible exact Nat.le_refl _ | omega | focus (simp; done) | focus (simp; omega))))
            have lz2 : y1.heap.size ≤ y2.heap.size := by rw [← hw]; clear hw; first | omega | (simp; done) | (simp; omega)
            have HK2 := Lib.hid (show Keeps (fun b => b = wr.heap.size) y0 y2 from by rw [← hw]; clear hw; have h0 := HK1.out; exact (by repeat (first | with_reducible assumption | with_reducible exact Keeps.refl _ _ | with_reducible refine Keeps.drew ?_ | with_reducible refine Keeps.drewN ?_ _ | with_reducible refine Keeps.alloc ?_ _ | with_reducible refine Keeps.setCell ?_ ?_ _ | omega | focus (simp; done) | focus (simp; omega))))
            clear hw kq1_0 kq1_1 kq1_2 kq1_3 kq1_4 kq1_5 kq1_6 kq1_7 kf1_4 ke1_0 ke1_1 lg1
            first | refine step_and (SameOn.keeps (SameOn.refl (fun b hb => by omega)) HK2.out (fun b hb => hb)) (fun _ => ?_) | (have hSA := SameOn.keeps (SameOn.refl (ok := fun b => b = wr.heap.size) (W := y0) (fun b hb => by omega)) HK2.out (fun b hb => hb); refine ⟨hSA, ?_⟩)
            repeat
              first | refine lexO_pass rfl ?_ | (refine lexO_take2 ?_ rfl (by kernel_rfl) (by with_reducible assumption) (fun w' hS K Q' hK => ?_) ?_; rotate_left; focus (have hS2 := hS.2; clear hS; go_wp2_with fail; exact hK))
            refine lexO_do rfl (fun K hK => ?_) lexO_stop
            go_wp2_with fail
            refine (num8_c (n := 1) (N := 1) (b := gn) (o := on) (m := 2) (c := cn) (x := n) (by go_simp) (by go_simp) (by go_simp) rfl (by go_simp) (by omega) (by omega) hnn (by omega)).mono ?_
            rintro e y3 ⟨rfl, z3, hw⟩
            have kq3_0 : y3.cell? ⟨wr.heap.size + 1, 0, none⟩ = some (.slice (some ⟨gn, on, none⟩) 2 cn) := by rw [← hw]; clear hw; go_simp
            have kq3_1 : y3.cell? ⟨wr.heap.size + 1, 1, none⟩ = some (.slice none 0 0) := by rw [← hw]; clear hw; go_simp
            have kq3_2 : y3.cell? ⟨wr.heap.size + 1, 2, none⟩ = some (.slice none 0 0) := by rw [← hw]; clear hw; go_simp
            have kq3_3 : y3.cell? ⟨wr.heap.size + 1, 3, none⟩ = some (.slice none 0 0) := by rw [← hw]; clear hw; go_simp
            have kq3_4 : y3.cell? ⟨wr.heap.size + 1, 4, none⟩ = some (.int .i64 2) := by rw [← hw]; clear hw; go_simp
            have kq3_5 : y3.cell? ⟨wr.heap.size + 1, 5, none⟩ = some (.int .i64 0) := by rw [← hw]; clear hw; go_simp
            have kq3_6 : y3.cell? ⟨wr.heap.size + 1, 6, none⟩ = some (.bool false) := by rw [← hw]; clear hw; go_simp
            have kq3_7 : y3.cell? ⟨wr.heap.size + 1, 7, none⟩ = some (.bool false) := by rw [← hw]; clear hw; go_simp
            have kf3_4 : y3.frozen? ⟨wr.heap.size + 1, 4, none⟩ = false := by rw [← hw]; clear hw; go_simp
            have ke3_0 : y3.cell? ⟨gn, on, none⟩ = some (.int .u64 a) := by rw [← hw]; clear hw; go_simp
            have ke3_1 : y3.cell? ⟨gn, on + 1, none⟩ = some (.int .u64 n) := by rw [← hw]; clear hw; go_simp
            have ko3_0 : y3.cell? ⟨y1.heap.size, 0, none⟩ = some (.int .u8 0) := by rw [← hw]; clear hw; go_simp
            have kz3_0 : y3.frozen? ⟨y1.heap.size, 0, none⟩ = false := by rw [← hw]; clear hw; go_simp
            have ko3_1 : y3.cell? ⟨y1.heap.size, 1, none⟩ = some (.int .u8 0) := by rw [← hw]; clear hw; go_simp
            have kz3_1 : y3.frozen? ⟨y1.heap.size, 1, none⟩ = false := by rw [← hw]; clear hw; go_simp
            have ko3_2 : y3.cell? ⟨y1.heap.size, 2, none⟩ = some (.slice none 0 0) := by rw [← hw]; clear hw; go_simp
            have kz3_2 : y3.frozen? ⟨y1.heap.size, 2, none⟩ = false := by rw [← hw]; clear hw; go_simp
            have lq3 : wr.heap.size + 1 < y3.heap.size := World.block_lt_of_cell? _ _ kq3_0
            have lg3 : gn < y3.heap.size := by omega
            have lo3 : y1.heap.size < y3.heap.size := World.block_lt_of_cell? _ _ ko3_0
            have HB3 := Lib.hid (show Below wr.heap.size wr y3 from by rw [← hw]; clear hw; have h0 := HB2.out; exact (by repeat (first | with_reducible assumption | with_reducible refine Below.drew ?_ | with_reducible refine below_drewN' ?_ _ | with_reducible refine Below.alloc ?_ ?_ _ | with_reducible refine Below.setCell ?_ ?_ _ | with_reducible exact Nat.le_refl _ | omega | focus (simp; done) | focus (simp; omega))))
            have lz3 : y2.heap.size ≤ y3.heap.size := by rw [← hw]; clear hw; first | omega | (simp; done) | (simp; omega)
            have HK3 := Lib.hid (show Keeps (fun b => b = wr.heap.size) y0 y3 from by rw [← hw]; clear hw; have h0 := HK2.out; exact (by repeat (first | with_reducible assumption | with_reducible exact Keeps.refl _ _ | with_reducible refine Keeps.drew ?_ | with_reducible refine Keeps.drewN ?_ _ | with_reducible refine Keeps.alloc ?_ _ | with_reducible refine Keeps.setCell ?_ ?_ _ | omega | focus (simp; done) | focus (simp; omega))))
            clear hw kq2_0 kq2_1 kq2_2 kq2_3 kq2_4 kq2_5 kq2_6 kq2_7 kf2_4 ke2_0 ke2_1 lg2 ko2_0 ko2_1 ko2_2 kz2_0 kz2_1 kz2_2
            go_wp2_with fail
            first | refine step_and (SameOn.keeps (SameOn.refl (fun b hb => by omega)) HK3.out (fun b hb => hb)) (fun _ => ?_) | (have hSA := SameOn.keeps (SameOn.refl (ok := fun b => b = wr.heap.size) (W := y0) (fun b hb => by omega)) HK3.out (fun b hb => hb); refine ⟨hSA, ?_⟩)
            repeat
              first | refine lexO_pass rfl ?_ | (refine lexO_take2 ?_ rfl (by kernel_rfl) (by with_reducible assumption) (fun w' hS K Q' hK => ?_) ?_; rotate_left; focus (have hS2 := hS.2; clear hS; go_wp2_with fail; exact hK))
            refine lexO_do rfl (fun K hK => ?_) lexO_stop
            go_wp2_with fail
            refine (clone_c (HDD.out.keeps (Keeps.trans (Keeps.of_below HB3.out) (by repeat (first | with_reducible assumption | with_reducible exact Keeps.refl _ _ | with_reducible refine Keeps.drew ?_ | with_reducible refine Keeps.drewN ?_ _ | with_reducible refine Keeps.alloc ?_ _ | with_reducible refine Keeps.setCell ?_ ?_ _ | omega | focus (simp; done) | focus (simp; omega))))) (by omega)).mono ?_
            rintro e y4 ⟨q3, cq3, rfl, hq3, hb3⟩
            have kq4_0 : y4.cell? ⟨wr.heap.size + 1, 0, none⟩ = some (.slice (some ⟨gn, on, none⟩) 2 cn) := (hb3.cell (p := ⟨wr.heap.size + 1, 0, none⟩) (by first | omega | (simp; done) | (simp; omega))).trans (by go_simp)
            have kq4_1 : y4.cell? ⟨wr.heap.size + 1, 1, none⟩ = some (.slice none 0 0) := (hb3.cell (p := ⟨wr.heap.size + 1, 1, none⟩) (by first | omega | (simp; done) | (simp; omega))).trans (by go_simp)
            have kq4_2 : y4.cell? ⟨wr.heap.size + 1, 2, none⟩ = some (.slice none 0 0) := (hb3.cell (p := ⟨wr.heap.size + 1, 2, none⟩) (by first | omega | (simp; done) | (simp; omega))).trans (by go_simp)
            have kq4_3 : y4.cell? ⟨wr.heap.size + 1, 3, none⟩ = some (.slice none 0 0) := (hb3.cell (p := ⟨wr.heap.size + 1, 3, none⟩) (by first | omega | (simp; done) | (simp; omega))).trans (by go_simp)
            have kq4_4 : y4.cell? ⟨wr.heap.size + 1, 4, none⟩ = some (.int .i64 2) := (hb3.cell (p := ⟨wr.heap.size + 1, 4, none⟩) (by first | omega | (simp; done) | (simp; omega))).trans (by go_simp)
            have kq4_5 : y4.cell? ⟨wr.heap.size + 1, 5, none⟩ = some (.int .i64 0) := (hb3.cell (p := ⟨wr.heap.size + 1, 5, none⟩) (by first | omega | (simp; done) | (simp; omega))).trans (by go_simp)
            have kq4_6 : y4.cell? ⟨wr.heap.size + 1, 6, none⟩ = some (.bool false) := (hb3.cell (p := ⟨wr.heap.size + 1, 6, none⟩) (by first | omega | (simp; done) | (simp; omega))).trans (by go_simp)
            have kq4_7 : y4.cell? ⟨wr.heap.size + 1, 7, none⟩ = some (.bool false) := (hb3.cell (p := ⟨wr.heap.size + 1, 7, none⟩) (by first | omega | (simp; done) | (simp; omega))).trans (by go_simp)
            have kf4_4 : y4.frozen? ⟨wr.heap.size + 1, 4, none⟩ = false := (hb3.frozen (p := ⟨wr.heap.size + 1, 4, none⟩) (by first | omega | (simp; done) | (simp; omega))).trans (by go_simp)
            have ke4_0 : y4.cell? ⟨gn, on, none⟩ = some (.int .u64 a) := (hb3.cell (p := ⟨gn, on, none⟩) (by first | omega | (simp; done) | (simp; omega))).trans (by go_simp)
            have ke4_1 : y4.cell? ⟨gn, on + 1, none⟩ = some (.int .u64 n) := (hb3.cell (p := ⟨gn, on + 1, none⟩) (by first | omega | (simp; done) | (simp; omega))).trans (by go_simp)
            have ko4_0 : y4.cell? ⟨y1.heap.size, 0, none⟩ = some (.int .u8 0) := (hb3.cell (p := ⟨y1.heap.size, 0, none⟩) (by first | omega | (simp; done) | (simp; omega))).trans (by go_simp)
            have kz4_0 : y4.frozen? ⟨y1.heap.size, 0, none⟩ = false := (hb3.frozen (p := ⟨y1.heap.size, 0, none⟩) (by first | omega | (simp; done) | (simp; omega))).trans (by go_simp)
            have ko4_1 : y4.cell? ⟨y1.heap.size, 1, none⟩ = some (.int .u8 0) := (hb3.cell (p := ⟨y1.heap.size, 1, none⟩) (by first | omega | (simp; done) | (simp; omega))).trans (by go_simp)
            have kz4_1 : y4.frozen? ⟨y1.heap.size, 1, none⟩ = false := (hb3.frozen (p := ⟨y1.heap.size, 1, none⟩) (by first | omega | (simp; done) | (simp; omega))).trans (by go_simp)
            have ko4_2 : y4.cell? ⟨y1.heap.size, 2, none⟩ = some (.slice none 0 0) := (hb3.cell (p := ⟨y1.heap.size, 2, none⟩) (by first | omega | (simp; done) | (simp; omega))).trans (by go_simp)
            have kz4_2 : y4.frozen? ⟨y1.heap.size, 2, none⟩ = false := (hb3.frozen (p := ⟨y1.heap.size, 2, none⟩) (by first | omega | (simp; done) | (simp; omega))).trans (by go_simp)
            have lq4 : wr.heap.size + 1 < y4.heap.size := World.block_lt_of_cell? _ _ kq4_0
            have lg4 : gn < y4.heap.size := by omega
            have lo4 : y1.heap.size < y4.heap.size := World.block_lt_of_cell? _ _ ko4_0
            have HB4 := Lib.hid (show Below wr.heap.size wr y4 from Below.trans (by have h0 := HB3.out; exact (by repeat (first | with_reducible assumption | with_reducible refine Below.drew ?_ | with_reducible refine below_drewN' ?_ _ | with_reducible refine Below.alloc ?_ ?_ _ | with_reducible refine Below.setCell ?_ ?_ _ | with_reducible exact Nat.le_refl _ | omega | focus (simp; done) | focus (simp; omega)))) (hb3.mono (by first | omega | (simp; done) | (simp; omega))))
            have lz4 : y3.heap.size ≤ y4.heap.size := by have := hb3.size; simpa using this
            have HQ4 := Lib.hid (show SB y4 (fun b => y3.heap.size ≤ b ∧ b < y4.heap.size) (.slice q3 dd.length cq3) dd from hq3.imp (fun b hl hb => ⟨by simpa using hb, hl⟩))
            have HK4 := Lib.hid (show Keeps (fun b => b = wr.heap.size) y0 y4 from Keeps.trans (by have h0 := HK3.out; exact (by repeat (first | with_reducible assumption | with_reducible exact Keeps.refl _ _ | with_reducible refine Keeps.drew ?_ | with_reducible refine Keeps.drewN ?_ _ | with_reducible refine Keeps.alloc ?_ _ | with_reducible refine Keeps.setCell ?_ ?_ _ | omega | focus (simp; done) | focus (simp; omega)))) (Keeps.of_below (hb3.mono (by simp))))
            clear hq3 hb3 kq3_0 kq3_1 kq3_2 kq3_3 kq3_4 kq3_5 kq3_6 kq3_7 kf3_4 ke3_0 ke3_1 lg3 ko3_0 ko3_1 ko3_2 kz3_0 kz3_1 kz3_2
            go_wp2_with fail
            first | refine step_and (SameOn.keeps (SameOn.refl (fun b hb => by omega)) HK4.out (fun b hb => hb)) (fun _ => ?_) | (have hSA := SameOn.keeps (SameOn.refl (ok := fun b => b = wr.heap.size) (W := y0) (fun b hb => by omega)) HK4.out (fun b hb => hb); refine ⟨hSA, ?_⟩)
            repeat
              first | refine lexO_pass rfl ?_ | (refine lexO_take2 ?_ rfl (by kernel_rfl) (by with_reducible assumption) (fun w' hS K Q' hK => ?_) ?_; rotate_left; focus (have hS2 := hS.2; clear hS; go_wp2_with fail; exact hK))
            refine lexO_do rfl (fun K hK => ?_) lexO_stop
            go_wp2_with fail
            first | refine step_last (by decide) (lexO_done ?_) | refine lexO_done ?_
            go_wp2_with fail
            go_meet
            refine ⟨y1.heap.size, q3, cq3, rfl, Lib.hid (by have h0 := HB4.out; exact (by repeat (first | with_reducible assumption | with_reducible refine Below.drew ?_ | with_reducible refine below_drewN' ?_ _ | with_reducible refine Below.alloc ?_ ?_ _ | with_reducible refine Below.setCell ?_ ?_ _ | with_reducible exact Nat.le_refl _ | omega | focus (simp; done) | focus (simp; omega)))), ⟨by omega, by first | omega | (simp; omega)⟩, ⟨by go_simp, by go_simp, by go_simp, by go_simp, by go_simp, by go_simp, by go_simp⟩, ?_, (HQ4.out.keeps (by repeat (first | with_reducible assumption | with_reducible exact Keeps.refl _ _ | with_reducible refine Keeps.drew ?_ | with_reducible refine Keeps.drewN ?_ _ | with_reducible refine Keeps.alloc ?_ _ | with_reducible refine Keeps.setCell ?_ ?_ _ | omega | focus (simp; done) | focus (simp; omega)))).imp (fun b _ hb => by omega)⟩
            intro i x hx
            rcases i with _ | _ | _ | i
            · simp at hx; subst hx; go_simp
            · simp at hx; subst hx; go_simp
            · simp at hx; subst hx; go_simp
            · simp at hx
        · go_wp2_with fail
          generalize hw : (World.alloc _ _).drew = y1
          have kq1_0 : y1.cell? ⟨wr.heap.size + 1, 0, none⟩ = some (.slice (some ⟨gn, on, none⟩) 2 cn) := by rw [← hw]; clear hw; go_simp
          have kq1_1 : y1.cell? ⟨wr.heap.size + 1, 1, none⟩ = some (.slice none 0 0) := by rw [← hw]; clear hw; go_simp
          have kq1_2 : y1.cell? ⟨wr.heap.size + 1, 2, none⟩ = some (.slice none 0 0) := by rw [← hw]; clear hw; go_simp
          have kq1_3 : y1.cell? ⟨wr.heap.size + 1, 3, none⟩ = some (.slice none 0 0) := by rw [← hw]; clear hw; go_simp
          have kq1_4 : y1.cell? ⟨wr.heap.size + 1, 4, none⟩ = some (.int .i64 0) := by rw [← hw]; clear hw; go_simp
          have kq1_5 : y1.cell? ⟨wr.heap.size + 1, 5, none⟩ = some (.int .i64 0) := by rw [← hw]; clear hw; go_simp
          have kq1_6 : y1.cell? ⟨wr.heap.size + 1, 6, none⟩ = some (.bool false) := by rw [← hw]; clear hw; go_simp
          have kq1_7 : y1.cell? ⟨wr.heap.size + 1, 7, none⟩ = some (.bool false) := by rw [← hw]; clear hw; go_simp
          have kf1_4 : y1.frozen? ⟨wr.heap.size + 1, 4, none⟩ = false := by rw [← hw]; clear hw; go_simp
          have ke1_0 : y1.cell? ⟨gn, on, none⟩ = some (.int .u64 a) := by rw [← hw]; clear hw; go_simp
          have ke1_1 : y1.cell? ⟨gn, on + 1, none⟩ = some (.int .u64 n) := by rw [← hw]; clear hw; go_simp
          have ko1_0 : y1.cell? ⟨y0.heap.size, 0, none⟩ = some (.int .u8 0) := by rw [← hw]; clear hw; go_simp
          have kz1_0 : y1.frozen? ⟨y0.heap.size, 0, none⟩ = false := by rw [← hw]; clear hw; go_simp
          have ko1_1 : y1.cell? ⟨y0.heap.size, 1, none⟩ = some (.int .u8 0) := by rw [← hw]; clear hw; go_simp
          have kz1_1 : y1.frozen? ⟨y0.heap.size, 1, none⟩ = false := by rw [← hw]; clear hw; go_simp
          have ko1_2 : y1.cell? ⟨y0.heap.size, 2, none⟩ = some (.slice none 0 0) := by rw [← hw]; clear hw; go_simp
          have kz1_2 : y1.frozen? ⟨y0.heap.size, 2, none⟩ = false := by rw [← hw]; clear hw; go_simp
          have lq1 : wr.heap.size + 1 < y1.heap.size := World.block_lt_of_cell? _ _ kq1_0
          have lg1 : gn < y1.heap.size := by omega
          have lo1 : y0.heap.size < y1.heap.size := World.block_lt_of_cell? _ _ ko1_0
          have HB1 := Lib.hid (show Below wr.heap.size wr y1 from by rw [← hw]; clear hw; have h0 := HB0.out; exact (by repeat (first | with_reducible assumption | with_reducible refine Below.drew ?_ | with_reducible refine below_drewN' ?_ _ | with_reducible refine Below.alloc ?_ ?_ _ | with_reducible refine Below.setCell ?_ ?_ _ | with_reducible exact Nat.le_refl _ | omega | focus (simp; done) | focus (simp; omega))))
          have lz1 : y0.heap.size ≤ y1.heap.size := by rw [← hw]; clear hw; first | omega | (simp; done) | (simp; omega)
          have HK1 := Lib.hid (show Keeps (fun b => b = wr.heap.size) y0 y1 from by rw [← hw]; clear hw; have h0 := HK0.out; exact (by repeat (first | with_reducible assumption | with_reducible exact Keeps.refl _ _ | with_reducible refine Keeps.drew ?_ | with_reducible refine Keeps.drewN ?_ _ | with_reducible refine Keeps.alloc ?_ _ | with_reducible refine Keeps.setCell ?_ ?_ _ | omega | focus (simp; done) | focus (simp; omega))))
          clear hw kq0_0 kq0_1 kq0_2 kq0_3 kq0_4 kq0_5 kq0_6 kq0_7 kf0_4 ke0_0 ke0_1 lg0
          first | refine step_and (SameOn.keeps (SameOn.refl (fun b hb => by omega)) HK1.out (fun b hb => hb)) (fun _ => ?_) | (have hSA := SameOn.keeps (SameOn.refl (ok := fun b => b = wr.heap.size) (W := y0) (fun b hb => by omega)) HK1.out (fun b hb => hb); refine ⟨hSA, ?_⟩)
          repeat
            first | refine lexO_pass rfl ?_ | (refine lexO_take2 ?_ rfl (by kernel_rfl) (by with_reducible assumption) (fun w' hS K Q' hK => ?_) ?_; rotate_left; focus (have hS2 := hS.2; clear hS; go_wp2_with fail; exact hK))
          refine lexO_do rfl (fun K hK => ?_) lexO_stop
          go_wp2_with fail
          refine (num8_c (n := 0) (N := 0) (b := gn) (o := on) (m := 2) (c := cn) (x := a) (by go_simp) (by go_simp) (by go_simp) rfl (by go_simp) (by omega) (by omega) han (by omega)).mono ?_
          rintro e y2 ⟨rfl, z2, hw⟩
          have kq2_0 : y2.cell? ⟨wr.heap.size + 1, 0, none⟩ = some (.slice (some ⟨gn, on, none⟩) 2 cn) := by rw [← hw]; clear hw; go_simp
          have kq2_1 : y2.cell? ⟨wr.heap.size + 1, 1, none⟩ = some (.slice none 0 0) := by rw [← hw]; clear hw; go_simp
          have kq2_2 : y2.cell? ⟨wr.heap.size + 1, 2, none⟩ = some (.slice none 0 0) := by rw [← hw]; clear hw; go_simp
          have kq2_3 : y2.cell? ⟨wr.heap.size + 1, 3, none⟩ = some (.slice none 0 0) := by rw [← hw]; clear hw; go_simp
          have kq2_4 : y2.cell? ⟨wr.heap.size + 1, 4, none⟩ = some (.int .i64 1) := by rw [← hw]; clear hw; go_simp
          have kq2_5 : y2.cell? ⟨wr.heap.size + 1, 5, none⟩ = some (.int .i64 0) := by rw [← hw]; clear hw; go_simp
          have kq2_6 : y2.cell? ⟨wr.heap.size + 1, 6, none⟩ = some (.bool false) := by rw [← hw]; clear hw; go_simp
          have kq2_7 : y2.cell? ⟨wr.heap.size + 1, 7, none⟩ = some (.bool false) := by rw [← hw]; clear hw; go_simp
          have kf2_4 : y2.frozen? ⟨wr.heap.size + 1, 4, none⟩ = false := by rw [← hw]; clear hw; go_simp
          have ke2_0 : y2.cell? ⟨gn, on, none⟩ = some (.int .u64 a) := by rw [← hw]; clear hw; go_simp
          have ke2_1 : y2.cell? ⟨gn, on + 1, none⟩ = some (.int .u64 n) := by rw [← hw]; clear hw; go_simp
          have ko2_0 : y2.cell? ⟨y0.heap.size, 0, none⟩ = some (.int .u8 0) := by rw [← hw]; clear hw; go_simp
          have kz2_0 : y2.frozen? ⟨y0.heap.size, 0, none⟩ = false := by rw [← hw]; clear hw; go_simp
          have ko2_1 : y2.cell? ⟨y0.heap.size, 1, none⟩ = some (.int .u8 0) := by rw [← hw]; clear hw; go_simp
          have kz2_1 : y2.frozen? ⟨y0.heap.size, 1, none⟩ = false := by rw [← hw]; clear hw; go_simp
          have ko2_2 : y2.cell? ⟨y0.heap.size, 2, none⟩ = some (.slice none 0 0) := by rw [← hw]; clear hw; go_simp
          have kz2_2 : y2.frozen? ⟨y0.heap.size, 2, none⟩ = false := by rw [← hw]; clear hw; go_simp
          have lq2 : wr.heap.size + 1 < y2.heap.size := World.block_lt_of_cell? _ _ kq2_0
          have lg2 : gn < y2.heap.size := by omega
          have lo2 : y0.heap.size < y2.heap.size := World.block_lt_of_cell? _ _ ko2_0
          have HB2 := Lib.hid (show Below wr.heap.size wr y2 from by rw [← hw]; clear hw; have h0 := HB1.out; exact (by repeat (first | with_reducible assumption | with_reducible refine Below.drew ?_ | with_reducible refine below_drewN' ?_ _ | with_reducible refine Below.alloc ?_ ?_ _ | with_reducible refine Below.setCell ?_ ?_ _ | with_reducible exact Nat.le_refl _ | omega | focus (simp; done) | focus (simp; omega))))
          have lz2 : y1.heap.size ≤ y2.heap.size := by rw [← hw]; clear hw; first | omega | (simp; done) | (simp; omega)
          have HK2 := Lib.hid (show Keeps (fun b => b = wr.heap.size) y0 y2 from by rw [← hw]; clear hw; have h0 := HK1.out; exact (by repeat (first | with_reducible assumption | with_reducible exact Keeps.refl _ _ | with_reducible refine Keeps.drew ?_ | with_reducible refine Keeps.drewN ?_ _ | with_reducible refine Keeps.alloc ?_ _ | with_reducible refine Keeps.setCell ?_ ?_ _ | omega | focus (simp; done) | focus (simp; omega))))
          clear hw kq1_0 kq1_1 kq1_2 kq1_3 kq1_4 kq1_5 kq1_6 kq1_7 kf1_4 ke1_0 ke1_1 lg1 ko1_0 ko1_1 ko1_2 kz1_0 kz1_1 kz1_2
          go_wp2_with fail
          first | refine step_and (SameOn.keeps (SameOn.refl (fun b hb => by omega)) HK2.out (fun b hb => hb)) (fun _ => ?_) | (have hSA := SameOn.keeps (SameOn.refl (ok := fun b => b = wr.heap.size) (W := y0) (fun b hb => by omega)) HK2.out (fun b hb => hb); refine ⟨hSA, ?_⟩)
          repeat
            first | refine lexO_pass rfl ?_ | (refine lexO_take2 ?_ rfl (by kernel_rfl) (by with_reducible assumption) (fun w' hS K Q' hK => ?_) ?_; rotate_left; focus (have hS2 := hS.2; clear hS; go_wp2_with fail; exact hK))
          refine lexO_do rfl (fun K hK => ?_) lexO_stop
          go_wp2_with fail
          refine (num8_c (n := 1) (N := 1) (b := gn) (o := on) (m := 2) (c := cn) (x := n) (by go_simp) (by go_simp) (by go_simp) rfl (by go_simp) (by omega) (by omega) hnn (by omega)).mono ?_
          rintro e y3 ⟨rfl, z3, hw⟩
          have kq3_0 : y3.cell? ⟨wr.heap.size + 1, 0, none⟩ = some (.slice (some ⟨gn, on, none⟩) 2 cn) := by rw [← hw]; clear hw; go_simp
          have kq3_1 : y3.cell? ⟨wr.heap.size + 1, 1, none⟩ = some (.slice none 0 0) := by rw [← hw]; clear hw; go_simp
          have kq3_2 : y3.cell? ⟨wr.heap.size + 1, 2, none⟩ = some (.slice none 0 0) := by rw [← hw]; clear hw; go_simp
          have kq3_3 : y3.cell? ⟨wr.heap.size + 1, 3, none⟩ = some (.slice none 0 0) := by rw [← hw]; clear hw; go_simp
          have kq3_4 : y3.cell? ⟨wr.heap.size + 1, 4, none⟩ = some (.int .i64 2) := by rw [← hw]; clear hw; go_simp
          have kq3_5 : y3.cell? ⟨wr.heap.size + 1, 5, none⟩ = some (.int .i64 0) := by rw [← hw]; clear hw; go_simp
          have kq3_6 : y3.cell? ⟨wr.heap.size + 1, 6, none⟩ = some (.bool false) := by rw [← hw]; clear hw; go_simp
          have kq3_7 : y3.cell? ⟨wr.heap.size + 1, 7, none⟩ = some (.bool false) := by rw [← hw]; clear hw; go_simp
          have kf3_4 : y3.frozen? ⟨wr.heap.size + 1, 4, none⟩ = false := by rw [← hw]; clear hw; go_simp
          have ke3_0 : y3.cell? ⟨gn, on, none⟩ = some (.int .u64 a) := by rw [← hw]; clear hw; go_simp
          have ke3_1 : y3.cell? ⟨gn, on + 1, none⟩ = some (.int .u64 n) := by rw [← hw]; clear hw; go_simp
          have ko3_0 : y3.cell? ⟨y0.heap.size, 0, none⟩ = some (.int .u8 0) := by rw [← hw]; clear hw; go_simp
          have kz3_0 : y3.frozen? ⟨y0.heap.size, 0, none⟩ = false := by rw [← hw]; clear hw; go_simp
          have ko3_1 : y3.cell? ⟨y0.heap.size, 1, none⟩ = some (.int .u8 0) := by rw [← hw]; clear hw; go_simp
          have kz3_1 : y3.frozen? ⟨y0.heap.size, 1, none⟩ = false := by rw [← hw]; clear hw; go_simp
          have ko3_2 : y3.cell? ⟨y0.heap.size, 2, none⟩ = some (.slice none 0 0) := by rw [← hw]; clear hw; go_simp
          have kz3_2 : y3.frozen? ⟨y0.heap.size, 2, none⟩ = false := by rw [← hw]; clear hw; go_simp
          have lq3 : wr.heap.size + 1 < y3.heap.size := World.block_lt_of_cell? _ _ kq3_0
          have lg3 : gn < y3.heap.size := by omega
          have lo3 : y0.heap.size < y3.heap.size := World.block_lt_of_cell? _ _ ko3_0
          have HB3 := Lib.hid (show Below wr.heap.size wr y3 from by rw [← hw]; clear hw; have h0 := HB2.out; exact (by repeat (first | with_reducible assumption | with_reducible refine Below.drew ?_ | with_reducible refine below_drewN' ?_ _ | with_reducible refine Below.alloc ?_ ?_ _ | with_reducible refine Below.setCell ?_ ?_ _ | with_reducible exact Nat.le_refl _ | omega | focus (simp; done) | focus (simp; omega))))
          have lz3 : y2.heap.size ≤ y3.heap.size := by rw [← hw]; clear hw; first | omega | (simp; done) | (simp; omega)
          have HK3 := Lib.hid (show Keeps (fun b => b = wr.heap.size) y0 y3 from by rw [← hw]; clear hw; have h0 := HK2.out; exact (by repeat (first | with_reducible assumption | with_reducible exact Keeps.refl _ _ | with_reducible refine Keeps.drew ?_ | with_reducible refine Keeps.drewN ?_ _ | with_reducible refine Keeps.alloc ?_ _ | with_reducible refine Keeps.setCell ?_ ?_ _ | omega | focus (simp; done) | focus (simp; omega))))
          clear hw kq2_0 kq2_1 kq2_2 kq2_3 kq2_4 kq2_5 kq2_6 kq2_7 kf2_4 ke2_0 ke2_1 lg2 ko2_0 ko2_1 ko2_2 kz2_0 kz2_1 kz2_2
          go_wp2_with fail
          first | refine step_and (SameOn.keeps (SameOn.refl (fun b hb => by omega)) HK3.out (fun b hb => hb)) (fun _ => ?_) | (have hSA := SameOn.keeps (SameOn.refl (ok := fun b => b = wr.heap.size) (W := y0) (fun b hb => by omega)) HK3.out (fun b hb => hb); refine ⟨hSA, ?_⟩)
          repeat
            first | refine lexO_pass rfl ?_ | (refine lexO_take2 ?_ rfl (by kernel_rfl) (by with_reducible assumption) (fun w' hS K Q' hK => ?_) ?_; rotate_left; focus (have hS2 := hS.2; clear hS; go_wp2_with fail; exact hK))
          refine lexO_do rfl (fun K hK => ?_) lexO_stop
          go_wp2_with fail
          refine (clone_c (HDD.out.keeps (Keeps.trans (Keeps.of_below HB3.out) (by repeat (first | with_reducible assumption | with_reducible exact Keeps.refl _ _ | with_reducible refine Keeps.drew ?_ | with_reducible refine Keeps.drewN ?_ _ | with_reducible refine Keeps.alloc ?_ _ | with_reducible refine Keeps.setCell ?_ ?_ _ | omega | focus (simp; done) | focus (simp; omega))))) (by omega)).mono ?_
          rintro e y4 ⟨q3, cq3, rfl, hq3, hb3⟩
          have kq4_0 : y4.cell? ⟨wr.heap.size + 1, 0, none⟩ = some (.slice (some ⟨gn, on, none⟩) 2 cn) := (hb3.cell (p := ⟨wr.heap.size + 1, 0, none⟩) (by first | omega | (simp; done) | (simp; omega))).trans (by go_simp)
          have kq4_1 : y4.cell? ⟨wr.heap.size + 1, 1, none⟩ = some (.slice none 0 0) := (hb3.cell (p := ⟨wr.heap.size + 1, 1, none⟩) (by first | omega | (simp; done) | (simp; omega))).trans (by go_simp)
          have kq4_2 : y4.cell? ⟨wr.heap.size + 1, 2, none⟩ = some (.slice none 0 0) := (hb3.cell (p := ⟨wr.heap.size + 1, 2, none⟩) (by first | omega | (simp; done) | (simp; omega))).trans (by go_simp)
          have kq4_3 : y4.cell? ⟨wr.heap.size + 1, 3, none⟩ = some (.slice none 0 0) := (hb3.cell (p := ⟨wr.heap.size + 1, 3, none⟩) (by first | omega | (simp; done) | (simp; omega))).trans (by go_simp)
          have kq4_4 : y4.cell? ⟨wr.heap.size + 1, 4, none⟩ = some (.int .i64 2) := (hb3.cell (p := ⟨wr.heap.size + 1, 4, none⟩) (by first | omega | (simp; done) | (simp; omega))).trans (by go_simp)
          have kq4_5 : y4.cell? ⟨wr.heap.size + 1, 5, none⟩ = some (.int .i64 0) := (hb3.cell (p := ⟨wr.heap.size + 1, 5, none⟩) (by first | omega | (simp; done) | (simp; omega))).trans (by go_simp)
          have kq4_6 : y4.cell? ⟨wr.heap.size + 1, 6, none⟩ = some (.bool false) := (hb3.cell (p := ⟨wr.heap.size + 1, 6, none⟩) (by first | omega | (simp; done) | (simp; omega))).trans (by go_simp)
          have kq4_7 : y4.cell? ⟨wr.heap.size + 1, 7, none⟩ = some (.bool false) := (hb3.cell (p := ⟨wr.heap.size + 1, 7, none⟩) (by first | omega | (simp; done) | (simp; omega))).trans (by go_simp)
          have kf4_4 : y4.frozen? ⟨wr.heap.size + 1, 4, none⟩ = false := (hb3.frozen (p := ⟨wr.heap.size + 1, 4, none⟩) (by first | omega | (simp; done) | (simp; omega))).trans (by go_simp)
          have ke4_0 : y4.cell? ⟨gn, on, none⟩ = some (.int .u64 a) := (hb3.cell (p := ⟨gn, on, none⟩) (by first | omega | (simp; done) | (simp; omega))).trans (by go_simp)
          have ke4_1 : y4.cell? ⟨gn, on + 1, none⟩ = some (.int .u64 n) := (hb3.cell (p := ⟨gn, on + 1, none⟩) (by first | omega | (simp; done) | (simp; omega))).trans (by go_simp)
          have ko4_0 : y4.cell? ⟨y0.heap.size, 0, none⟩ = some (.int .u8 0) := (hb3.cell (p := ⟨y0.heap.size, 0, none⟩) (by first | omega | (simp; done) | (simp; omega))).trans (by go_simp)
          have kz4_0 : y4.frozen? ⟨y0.heap.size, 0, none⟩ = false := (hb3.frozen (p := ⟨y0.heap.size, 0, none⟩) (by first | omega | (simp; done) | (simp; omega))).trans (by go_simp)
          have ko4_1 : y4.cell? ⟨y0.heap.size, 1, none⟩ = some (.int .u8 0) := (hb3.cell (p := ⟨y0.heap.size, 1, none⟩) (by first | omega | (simp; done) | (simp; omega))).trans (by go_simp)
          have kz4_1 : y4.frozen? ⟨y0.heap.size, 1, none⟩ = false := (hb3.frozen (p := ⟨y0.heap.size, 1, none⟩) (by first | omega | (simp; done) | (simp; omega))).trans (by go_simp)
          have ko4_2 : y4.cell? ⟨y0.heap.size, 2, none⟩ = some (.slice none 0 0) := (hb3.cell (p := ⟨y0.heap.size, 2, none⟩) (by first | omega | (simp; done) | (simp; omega))).trans (by go_simp)
          have kz4_2 : y4.frozen? ⟨y0.heap.size, 2, none⟩ = false := (hb3.frozen (p := ⟨y0.heap.size, 2, none⟩) (by first | omega | (simp; done) | (simp; omega))).trans (by go_simp)
          have lq4 : wr.heap.size + 1 < y4.heap.size := World.block_lt_of_cell? _ _ kq4_0
          have lg4 : gn < y4.heap.size := by omega
          have lo4 : y0.heap.size < y4.heap.size := World.block_lt_of_cell? _ _ ko4_0
          have HB4 := Lib.hid (show Below wr.heap.size wr y4 from Below.trans (by have h0 := HB3.out; exact (by repeat (first | with_reducible assumption | with_reducible refine Below.drew ?_ | with_reducible refine below_drewN' ?_ _ | with_reducible refine Below.alloc ?_ ?_ _ | with_reducible refine Below.setCell ?_ ?_ _ | with_reducible exact Nat.le_refl _ | omega | focus (simp; done) | focus (simp; omega)))) (hb3.mono (by first | omega | (simp; done) | (simp; omega))))
          have lz4 : y3.heap.size ≤ y4.heap.size := by have := hb3.size; simpa using this
          have HQ4 := Lib.hid (show SB y4 (fun b => y3.heap.size ≤ b ∧ b < y4.heap.size) (.slice q3 dd.length cq3) dd from hq3.imp (fun b hl hb => ⟨by simpa using hb, hl⟩))
          have HK4 := Lib.hid (show Keeps (fun b => b = wr.heap.size) y0 y4 from Keeps.trans (by have h0 := HK3.out; exact (by repeat (first | with_reducible assumption | with_reducible exact Keeps.refl _ _ | with_reducible refine Keeps.drew ?_ | with_reducible refine Keeps.drewN ?_ _ | with_reducible refine Keeps.alloc ?_ _ | with_reducible refine Keeps.setCell ?_ ?_ _ | omega | focus (simp; done) | focus (simp; omega)))) (Keeps.of_below (hb3.mono (by simp))))
          clear hq3 hb3 kq3_0 kq3_1 kq3_2 kq3_3 kq3_4 kq3_5 kq3_6 kq3_7 kf3_4 ke3_0 ke3_1 lg3 ko3_0 ko3_1 ko3_2 kz3_0 kz3_1 kz3_2
          go_wp2_with fail
          first | refine step_and (SameOn.keeps (SameOn.refl (fun b hb => by omega)) HK4.out (fun b hb => hb)) (fun _ => ?_) | (have hSA := SameOn.keeps (SameOn.refl (ok := fun b => b = wr.heap.size) (W := y0) (fun b hb => by omega)) HK4.out (fun b hb => hb); refine ⟨hSA, ?_⟩)
          repeat
            first | refine lexO_pass rfl ?_ | (refine lexO_take2 ?_ rfl (by kernel_rfl) (by with_reducible assumption) (fun w' hS K Q' hK => ?_) ?_; rotate_left; focus (have hS2 := hS.2; clear hS; go_wp2_with fail; exact hK))
          refine lexO_do rfl (fun K hK => ?_) lexO_stop
          go_wp2_with fail
          first | refine step_last (by decide) (lexO_done ?_) | refine lexO_done ?_
          go_wp2_with fail
          go_meet
          refine ⟨y0.heap.size, q3, cq3, rfl, Lib.hid (by have h0 := HB4.out; exact (by repeat (first | with_reducible assumption | with_reducible refine Below.drew ?_ | with_reducible refine below_drewN' ?_ _ | with_reducible refine Below.alloc ?_ ?_ _ | with_reducible refine Below.setCell ?_ ?_ _ | with_reducible exact Nat.le_refl _ | omega | focus (simp; done) | focus (simp; omega)))), ⟨by omega, by first | omega | (simp; omega)⟩, ⟨by go_simp, by go_simp, by go_simp, by go_simp, by go_simp, by go_simp, by go_simp⟩, ?_, (HQ4.out.keeps (by repeat (first | with_reducible assumption | with_reducible exact Keeps.refl _ _ | with_reducible refine Keeps.drew ?_ | with_reducible refine Keeps.drewN ?_ _ | with_reducible refine Keeps.alloc ?_ _ | with_reducible refine Keeps.setCell ?_ ?_ _ | omega | focus (simp; done) | focus (simp; omega)))).imp (fun b _ hb => by omega)⟩
          intro i x hx
          rcases i with _ | _ | _ | i
          · simp at hx; subst hx; go_simp
          · simp at hx; subst hx; go_simp
          · simp at hx; subst hx; go_simp
          · simp at hx
      case rest =>
        obtain ⟨P, q3, cq3, rfl, HBC, ⟨lP1, lP2⟩, ⟨t0, t1, t2, t4, t5, t6, t7⟩, hcs, hsb⟩ := hcut
        have HSB := Lib.hid hsb
        have r0 := hcs 0 _ rfl
        have r1 := hcs 1 _ rfl
        have r2 := hcs 2 _ rfl
        have n7 : wc.cell? ⟨w.heap.size + 1 + 1, 21, none⟩ = _ := (HBC.out.cell (p := ⟨w.heap.size + 1 + 1, 21, none⟩) lXr).trans e21
        have nf := (HBC.out.frozen (p := ⟨w.heap.size + 1 + 1, 21, none⟩) lXr).trans ef
        have lXc : w.heap.size + 1 + 1 < wc.heap.size := by omega
        have lQc : wr.heap.size + 1 < wc.heap.size := World.block_lt_of_cell? _ _ t0
        clear hcs hsb
        go_wp2_with fail
        refine (took_c (n1 := 2) (n2 := 0) (n3 := 0) (p1 := some ⟨gn, on, none⟩) (m1 := cn) (p2 := none) (m2 := 0) (p3 := none) (m3 := 0) (ls := false) (by go_simp) (by go_simp) (by go_simp) (by go_simp) (by go_simp) (by go_simp) (by go_simp) rfl rfl (.inr rfl)).mono ?_
        rintro e w9 ⟨rfl, qq, hw⟩
        have HBC9 := Lib.hid (show Below wr.heap.size wr w9 from by rw [← hw]; exact Below.drewN HBC.out qq)
        have HSB9 := Lib.hid (show SB w9 (fun b => wr.heap.size < b) (.slice q3 dd.length cq3) dd from by rw [← hw]; exact HSB.out.keeps (by repeat (first | with_reducible assumption | with_reducible exact Keeps.refl _ _ | with_reducible refine Keeps.drew ?_ | with_reducible refine Keeps.drewN ?_ _ | with_reducible refine Keeps.alloc ?_ _ | with_reducible refine Keeps.setCell ?_ ?_ _ | omega | focus (simp; done) | focus (simp; omega))))
        have r09 := (show w9.cell? ⟨P, 0, none⟩ = wc.cell? ⟨P, 0, none⟩ from by rw [← hw]; rfl).trans r0
        have r19 := (show w9.cell? ⟨P, 1, none⟩ = wc.cell? ⟨P, 1, none⟩ from by rw [← hw]; rfl).trans r1
        have r29 := (show w9.cell? ⟨P, 2, none⟩ = wc.cell? ⟨P, 2, none⟩ from by rw [← hw]; rfl).trans r2
        have n79 := (show w9.cell? ⟨w.heap.size + 1 + 1, 21, none⟩ = wc.cell? ⟨w.heap.size + 1 + 1, 21, none⟩ from by rw [← hw]; rfl).trans n7
        have nf9 := (show w9.frozen? ⟨w.heap.size + 1 + 1, 21, none⟩ = wc.frozen? ⟨w.heap.size + 1 + 1, 21, none⟩ from by rw [← hw]; rfl).trans nf
        have lX9 : w.heap.size + 1 + 1 < w9.heap.size := by rw [← hw]; exact lXc
        have lP9 : P < w9.heap.size := by rw [← hw]; exact lP2
        have lw9 : wr.heap.size ≤ w9.heap.size := by omega
        clear hw HBC HSB r0 r1 r2 n7 nf lXc lQc lP2 t0 t1 t2 t4 t5 t6 t7
        go_wp2_with fail
        refine wp_region_on (fun b => b < w4.heap.size ∨ b = P) (fun b hb => by first | omega | (rcases hb with hb | hb <;> omega) | (rcases hb with hb | hb <;> simp <;> omega)) [10] (.q 0 (.q 1 (.q 2 (.q 3 (.q 4 (.q 5 (.l 6 (.l 7 (.q 8 (.q 9 (.l 10 .done .stop))) .stop) .stop))))))) (by kernel_rfl) (by kernel_rfl) (fun _ _ d _ _ h => by cases d <;> exact h) (by simp only [Ord.fill, nthOp]; rfl) ?_; intro hSm
        repeat
          first | refine lexO_pass rfl ?_ | (refine lexO_take2 ?_ rfl (by kernel_rfl) (by with_reducible assumption) (fun w' hS K Q' hK => ?_) ?_; rotate_left; focus (have hS2 := hS.2; clear hS; go_wp2_with fail; exact hK))
        refine lexO_do rfl (fun K hK => ?_) lexO_stop
        go_wp2_with fail
        refine step_and (by repeat (first | with_reducible assumption | (with_reducible refine SameOn.refl (fun b hb => ?_); first | omega | (rcases hb with hb | hb <;> omega) | (rcases hb with hb | hb <;> simp <;> omega)) | with_reducible refine SameOn.drew ?_ | with_reducible refine SameOn.alloc ?_ _ | (refine SameOn.below ?_ (by with_reducible assumption)))) (fun _ => ?_)
        repeat
          first | refine lexO_pass rfl ?_ | (refine lexO_take2 ?_ rfl (by kernel_rfl) (by with_reducible assumption) (fun w' hS K Q' hK => ?_) ?_; rotate_left; focus (have hS2 := hS.2; clear hS; go_wp2_with fail; exact hK))
        refine lexO_do rfl (fun K hK => ?_) lexO_stop
        refine wp_append_N2 (E := eA) (.tmp 449) (.tmp 451) 122 129 _ 32 rfl Tryz.underlying122 infoAttr rfl (by decide) (by decide) (HF.out.rows.keeps (Keeps.trans (Keeps.of_below HBC9.out) (by repeat (first | with_reducible assumption | with_reducible exact Keeps.refl _ _ | with_reducible refine Keeps.drew ?_ | with_reducible refine Keeps.drewN ?_ _ | with_reducible refine Keeps.alloc ?_ _ | with_reducible refine Keeps.setCell ?_ ?_ _ | omega | focus (simp; done) | focus (simp; omega))))) wr.heap.size (fun k hk => (HO.out k hk).2) rfl rfl (cs := [.int .u8 a, .int .u8 n, .slice q3 dd.length cq3]) (y := ([a, n], dd)) ?hcells ?hrep (by rw [List.length_take]; omega) (by first | omega | (simp; omega)) (fun q' c2 w8 hr5 hs5 hk5 hb5 => hK _ _ ?_)
        case hcells =>
          intro j u hu
          rcases j with _ | _ | _ | j
          · simp at hu; subst hu; go_simp
          · simp at hu; subst hu; go_simp
          · simp at hu; subst hu; go_simp
          · simp at hu
        case hrep => exact ⟨a, n, _, rfl, rfl, (HSB9.out.keeps (by repeat (first | with_reducible assumption | with_reducible exact Keeps.refl _ _ | with_reducible refine Keeps.drew ?_ | with_reducible refine Keeps.drewN ?_ _ | with_reducible refine Keeps.alloc ?_ _ | with_reducible refine Keeps.setCell ?_ ?_ _ | omega | focus (simp; done) | focus (simp; omega)))).imp (fun b _ hb => ⟨by omega, .inr (by omega)⟩), by omega, by omega, by show dd.length ≤ 256; omega⟩
        refine step_and (SameOn.keeps (by repeat (first | with_reducible assumption | (with_reducible refine SameOn.refl (fun b hb => ?_); first | omega | (rcases hb with hb | hb <;> omega) | (rcases hb with hb | hb <;> simp <;> omega)) | with_reducible refine SameOn.drew ?_ | with_reducible refine SameOn.alloc ?_ _ | (refine SameOn.below ?_ (by with_reducible assumption)))) hk5 (fun b hb => by omega)) (fun _ => ?_)
        rw [show (ps.take k).length = k by rw [List.length_take]; have := HNP.out; omega] at hr5
        have hL5 : w8.cell? ⟨w.heap.size + 1 + 1, 21, none⟩ = some (.slice p k c') := hk5.cell (.inl lw4) (by go_simp)
        have hf5 : w8.frozen? ⟨w.heap.size + 1 + 1, 21, none⟩ = false := hk5.frozen (.inl lw4) (by first | omega | (simp; omega)) (by go_simp)
        have l8 : w.heap.size + 1 + 1 < w8.heap.size := World.block_lt_of_cell? _ _ hL5
        have H5 := Lib.hid (HF.out.step (w5 := w8) (fun b hb => by omega) (show Below wr.heap.size wr _ from (by have h0 := HBC9.out; exact (by repeat (first | with_reducible assumption | with_reducible refine Below.drew ?_ | with_reducible refine below_drewN' ?_ _ | with_reducible refine Below.alloc ?_ ?_ _ | with_reducible refine Below.setCell ?_ ?_ _ | with_reducible exact Nat.le_refl _ | omega | focus (simp; done) | focus (simp; omega))))) hr5 hs5 (hk5.imp (fun b hb => .inl hb)) hb5)
        clear hr5 hs5 hk5 hb5
        repeat
          first | refine lexO_pass rfl ?_ | (refine lexO_take2 ?_ rfl (by kernel_rfl) (by with_reducible assumption) (fun w' hS K Q' hK => ?_) ?_; rotate_left; focus (have hS2 := hS.2; clear hS; go_wp2_with fail; exact hK))
        refine lexO_do rfl (fun K hK => ?_) lexO_stop
        go_wp2_with fail
        first | refine step_last (by decide) (lexO_done ?_) | refine lexO_done ?_
        go_wp2_with fail
        go_roundw
        case rel =>
          exact ⟨k + 1, HK1.out, by go_num, _, by have h := H5.out; rw [take_snoc9 HQG.out] at h; have hm : min k ps.length = k := Nat.min_eq_left (by have := HNP.out; have := HK1.out; omega); rw [hm]; exact h⟩
        case measure => have := HK1.out; simp [intOf]; omega
    · obtain rfl : k = np := by omega
      have hkI : ¬ ((k : Nat) : Int) < (k : Int) := by omega
      have hK4 : ∀ j u, w4.cell? ⟨w.heap.size + 1, j, none⟩ = some u → wr.cell? ⟨w.heap.size + 1, j, none⟩ = some u := fun j u hu => hF.keep.cell (b := w.heap.size + 1) ⟨lC4, by omega⟩ hu
      have z0 := hK4 _ _ kc4_0
      have z1 := hK4 _ _ kc4_1
      have z2 := hK4 _ _ kc4_2
      have z4 := hK4 _ _ kc4_4
      have z5 := hK4 _ _ kc4_5
      have z6 := hK4 _ _ kc4_6
      have z7 := hK4 _ _ kc4_7
      have y2 := hF.other 2 _ (by decide) kx4_2
      have y3 := hF.other 3 _ (by decide) kx4_3
      have y4 := hF.other 4 _ (by decide) kx4_4
      have lCr : w.heap.size + 1 < wr.heap.size := by omega
      clear hF hown hK4 kc4_0 kc4_1 kc4_2 kc4_3 kc4_4 kc4_5 kc4_6 kc4_7 kx4_0 kx4_1 kx4_2 kx4_3 kx4_4 kx4_21
      go_wp2_with fail
      refine (took_c (n1 := 3) (n2 := 1) (n3 := k) (p1 := some ⟨nb, no, none⟩) (m1 := nc) (p2 := some ⟨pd, po, none⟩) (m2 := cd) (p3 := pp) (m3 := cp) (ls := true) (by go_simp) (by go_simp) (by go_simp) (by go_simp) (by go_simp) (by go_simp) (by go_simp) rfl rfl (.inl rfl)).mono ?_
      rintro e w' ⟨rfl, qq, rfl⟩
      go_wp2_with fail
      refine bodyPost_ret (v := .iface 116 (.pointer (some ⟨w.heap.size + 1 + 1, 0, none⟩))) (by simp only [results, Tryz.results34]; go_simp) rfl ?_
      have hF := HF.out
      rw [List.take_of_length_le (by have := HNP.out; omega)] at hF
      have hbl : Below w.heap.size w wr := hF.below _ _ (by omega) HB4.out
      have hau : ∀ i x, auth[i]? = some x → wr.cell? ⟨w.heap.size + 1 + 1, 5 + i, none⟩ = some (.int .u8 x) := fun i x hx => hF.other _ _ (by have := (List.getElem?_eq_some_iff.1 hx).1; have := HAL.out; omega) (HA4.out i x hx)
      refine ⟨(by repeat (first | with_reducible assumption | with_reducible refine Below.drew ?_ | with_reducible refine below_drewN' ?_ _ | with_reducible refine Below.alloc ?_ ?_ _ | with_reducible refine Below.setCell ?_ ?_ _ | with_reducible exact Nat.le_refl _ | omega | focus (simp; done) | focus (simp; omega))), _, rfl, by first | omega | (simp; done) | (simp; omega), by go_simp, by go_simp, by go_simp, fun i x hx => by have := hau i x hx; go_simp, _, by go_simp, (hF.rows.imp (Nat.zero_le _) (fun _ _ _ => trivial)).keeps (by repeat (first | with_reducible assumption | with_reducible exact Keeps.refl _ _ | with_reducible refine Keeps.drew ?_ | with_reducible refine Keeps.drewN ?_ _ | with_reducible refine Keeps.alloc ?_ _ | with_reducible refine Keeps.setCell ?_ ?_ _ | omega | focus (simp; done) | focus (simp; omega)))⟩
end Go.Proofs.YtaejicpdaldpiaaGreat
