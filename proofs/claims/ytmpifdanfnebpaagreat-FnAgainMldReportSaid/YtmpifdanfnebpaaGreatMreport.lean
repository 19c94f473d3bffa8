/-
  impl.made of mldreport2.
-/
import Derived.Test.YtmpifdanfnebpaaGreatMquery
import Derived.Test.YtmpifdanfnebpaaGreatWreport
import Derived.Deep.DeepCutAuto
namespace Go.Proofs.YtmpifdanfnebpaaGreat
open Go Go.RowKit

set_option maxRecDepth 100000 in
set_option maxHeartbeats 8000000 in
theorem made_report {M : Nat} {ps : List (List Int × List Int)} (hM : M ≤ 65535) (hn50 : ps.length ≤ 50) (hok : ∀ p ∈ ps, OkM p) :
    MadeOf (.string ⟨#[109, 108, 100, 114, 101, 112, 111, 114, 116, 50]⟩) ⟨[(M : Int)], [], ps, []⟩ 100 (MIsReport (M : Int) ps) := by
  intro vv w h
  obtain ⟨a, b, c, d, rfl, hn, hd, hp, hpl⟩ := h
  obtain ⟨nb, no, nc, rfl, lnb, hnc⟩ := hn.cellsN (n := 1) rfl (by decide)
  obtain ⟨pd, cd, rfl⟩ := hd.form
  obtain ⟨pp, cp, rfl⟩ := hp.form
  obtain ⟨pl, cl, rfl⟩ := hpl.form
  have HPP := Lib.hid hp
  have HOK := Lib.hid hok
  have e0 := hnc 0 _ rfl
  rw [Nat.add_zero] at e0
  obtain ⟨np, hnp⟩ : ∃ n, n = ps.length := ⟨_, rfl⟩
  have lnp : np ≤ 50 := by omega
  have HNP := Lib.hid hnp
  rw [← hnp]
  have l1 : nb < w.heap.size + 1 := by omega
  have l2 : nb < w.heap.size + 1 + 1 := by omega
  have hdr : ∀ (W : World) (q : Nat) (p : Addr) (v : Value), (W.drewN q).setCell p v = (W.setCell p v).drewN q := fun _ _ _ _ => rfl
  clear hnc hd hp hpl hok hnp
  go_enter Tryz.func23, Tryz.ntmps23
  go_wp2_with fail
  refine (num16_c (n := 0) (N := 0) (b := nb) (o := no) (m := 1) (c := nc) (x := (M : Int)) (by go_simp) (by go_simp) (by go_simp) rfl (by go_simp) (by omega) (by omega) (by omega) (by omega)).mono ?_
  rintro e w' ⟨rfl, q0, rfl⟩
  go_wp2_with fail
  refine (parts_c (v := .slice pp np cp) (u := .bool false) (by go_simp) (by go_simp) (by go_simp)).mono ?_
  rintro e w4 ⟨rfl, hw⟩
  have kc_0 : w4.cell? ⟨w.heap.size + 1, 0, none⟩ = some (.slice (some ⟨nb, no, none⟩) 1 nc) := by rw [← hw]; clear hw; go_simp
  have kc_1 : w4.cell? ⟨w.heap.size + 1, 1, none⟩ = some (.slice pd 0 cd) := by rw [← hw]; clear hw; go_simp
  have kc_2 : w4.cell? ⟨w.heap.size + 1, 2, none⟩ = some (.slice pp np cp) := by rw [← hw]; clear hw; go_simp
  have kc_3 : w4.cell? ⟨w.heap.size + 1, 3, none⟩ = some (.slice pl 0 cl) := by rw [← hw]; clear hw; go_simp
  have kc_4 : w4.cell? ⟨w.heap.size + 1, 4, none⟩ = some (.int .i64 1) := by rw [← hw]; clear hw; go_simp
  have kc_5 : w4.cell? ⟨w.heap.size + 1, 5, none⟩ = some (.int .i64 0) := by rw [← hw]; clear hw; go_simp
  have kc_6 : w4.cell? ⟨w.heap.size + 1, 6, none⟩ = some (.bool false) := by rw [← hw]; clear hw; go_simp
  have kc_7 : w4.cell? ⟨w.heap.size + 1, 7, none⟩ = some (.bool true) := by rw [← hw]; clear hw; go_simp
  have kx_2 : w4.cell? ⟨w.heap.size + 1 + 1, 2, none⟩ = some (.int .u16 (M : Int)) := by rw [← hw]; clear hw; go_simp
  have kx_3 : w4.cell? ⟨w.heap.size + 1 + 1, 3, none⟩ = some (.slice none 0 0) := by rw [← hw]; clear hw; go_simp
  have fx4 : ∀ j, w4.frozen? ⟨w.heap.size + 1 + 1, j, none⟩ = false := fun j => by rw [← hw]; clear hw; go_simp
  have HB4 := Lib.hid (show Below w.heap.size w w4 from by rw [← hw]; clear hw; have h0 := Below.refl w.heap.size w; exact (by repeat (first | with_reducible assumption | with_reducible refine Below.drew ?_ | with_reducible refine below_drewN' ?_ _ | with_reducible refine Below.alloc ?_ ?_ _ | with_reducible refine Below.setCell ?_ ?_ _ | with_reducible exact Nat.le_refl _ | omega | focus (simp; done) | focus (simp; omega))))
  obtain ⟨X, hX⟩ : ∃ X, X = w.heap.size + 1 + 1 := ⟨_, rfl⟩
  rw [← hX] at kx_2 kx_3 fx4
  have lX4 : X < w4.heap.size := World.block_lt_of_cell? _ _ kx_2
  clear hw
  go_wp2_with fail
  have HF0 := Lib.hid (GFills.start (E := eR) (T := 106) (J := 3) (W := w4) (L := X) (base := w4.heap.size) (ok := fun b => w4.heap.size ≤ b) lX4 (Nat.le_refl _) kx_3 fx4)
  rw [← hX]
  have lCX : w.heap.size + 1 < X := by omega
  clear hX e0 l1 l2
  go_loopw [19, 20, 21, 22, 23, 238, 278] (fun _ _ _ _ _ i _ wr => ∃ k : Nat, k ≤ np ∧ i = .int .i64 (k : Int) ∧ ∃ v, GFills eR 106 3 w4 wr X w4.heap.size (fun b => w4.heap.size ≤ b) v (ps.take k)) (fun _ _ _ _ _ i _ _ => np - (intOf i).toNat)
  case atStart => exact ⟨0, Nat.zero_le _, rfl, _, HF0.out⟩
  case round =>
    obtain ⟨k, hk, rfl, v, hF⟩ := hrel
    have HF := Lib.hid hF
    have lXr : X < wr.heap.size := Nat.lt_of_lt_of_le hF.lt hF.le
    have leW := hF.le
    have ef := hF.froz 3
    have hown := hF.rows.own
    obtain ⟨p, c', hv⟩ := hF.rows.form
    rw [show (ps.take k).length = k by rw [List.length_take]; have := HNP.out; omega] at hv
    subst hv
    have e3 := hF.parts
    have HO := Lib.hid hown
    have HKG := Lib.hid (hF.keep.imp (fun b hb => ⟨by omega, by omega⟩ : ∀ b, b < X → b < w4.heap.size ∧ b ≠ X))
    by_cases hlt : k < np
    · obtain ⟨gI, oI, u1', u2', q, rfl, lgI, hq, hc1, hc2, hs1, hs2⟩ := HPP.out.get (k := k) (by have := HNP.out; show k < ps.length; omega)
      obtain ⟨t, a, N, hq1, bt, ba, bN, hdl, hd4⟩ := HOK.out q (List.mem_of_getElem? hq)
      obtain ⟨q1, dd⟩ := q
      obtain rfl : q1 = [t, a, (N : Int), (N : Int)] := hq1
      replace hdl : dd.length = 16 + 16 * N + 4 * a.toNat := hdl
      replace hd4 : dd.length ≤ 400 := hd4
      obtain ⟨gn, on, cn, rfl, lgn, hnc⟩ := hs1.cellsN (n := 4) rfl (by decide)
      have hkeep : Keeps (fun b => b < w.heap.size) w wr := (Keeps.of_below HB4.out).trans (HKG.out.imp (fun b hb => by omega))
      have hc1' := hkeep.cell (b := gI) lgI hc1
      have n0 := hkeep.cell (b := gn) lgn (hnc 0 _ rfl)
      have n1 := hkeep.cell (b := gn) lgn (hnc 1 _ rfl)
      have n2 := hkeep.cell (b := gn) lgn (hnc 2 _ rfl)
      have n3 := hkeep.cell (b := gn) lgn (hnc 3 _ rfl)
      rw [Nat.add_zero] at n0
      obtain ⟨L, hL⟩ : ∃ L, L = dd.length := ⟨_, rfl⟩
      obtain ⟨pq, cq, rfl, hdn, hdm, -, hdr⟩ := hs2
      rcases hdr with h | ⟨gd, od, rfl, -, hgd, hdc⟩
      · have hz : dd.length = 0 := by have := congrArg List.length h; rw [List.length_map, List.length_nil] at this; exact this
        omega
      have hrow : RowAt w (fun b => b < w.heap.size) (some ⟨gd, od, none⟩) (dd.map (.int .u8)) := .inr ⟨gd, od, rfl, hgd, hgd, hdc⟩
      have HRD := Lib.hid (hrow.keeps hkeep)
      replace hc2 : w.cell? ⟨gI, oI + k * 2 + 1, none⟩ = some (.slice (some ⟨gd, od, none⟩) L cq) := by rw [hL]; exact hc2
      have hc2' := hkeep.cell (b := gI) lgI hc2
      rw [← hL] at hdl hd4 hdn
      have hge : 16 + 16 * N ≤ L := by omega
      have HDL := Lib.hid hdl
      clear hdl
      have HL := Lib.hid hL
      have HQG := Lib.hid hq
      have HK1 := Lib.hid hlt
      have hkI : ((k : Nat) : Int) < (np : Int) := by omega
      have lgr : gI < wr.heap.size := by omega
      have lgnr : gn < wr.heap.size := by omega
      have lgdr : gd < wr.heap.size := by omega
      have lgn1 : gn < wr.heap.size + 1 := by omega
      have lgn2 : gn < wr.heap.size + 1 + 1 := by omega
      have lgn3 : gn < wr.heap.size + 1 + 1 + 1 := by omega
      have hLn : ¬ ((L : Int) < 16 + 16 * (N : Int)) := by omega
      have hc16 : (16 : Int) ≤ (cq : Int) := by omega
      have S16 := Lib.hid (show SB wr (fun b => b < w.heap.size) (.slice (some ⟨gd, od, none⟩) 16 cq) (dd.take 16) from by
        have h := SB.from (lo := 0) (hi := 16) (A := some ⟨gd, od, none⟩) HRD.out (by omega) (by rw [← HL.out]; omega) (by rw [← HL.out]; omega) hdm (by rw [if_neg (by omega)]; rfl)
        simpa using h)
      have h16 : (dd.take 16).length = 16 := by rw [List.length_take, ← HL.out]; omega
      clear hF hown hq hc1 hc2 hs1 hkeep hnc hrow hdc hL kc_0 kc_1 kc_2 kc_3 kc_4 kc_5 kc_6 kc_7 kx_2 kx_3 fx4
      go_wp2_with fail
      refine (num8_c (n := 0) (N := 0) (b := gn) (o := on) (m := 4) (c := cn) (x := t) (by go_simp) (by go_simp) (by go_simp) rfl (by go_simp) (by omega) (by omega) bt (by omega)).mono ?_
      rintro e w' ⟨rfl, z0, rfl⟩
      go_wp2_with fail
      refine (num8_c (n := 1) (N := 1) (b := gn) (o := on) (m := 4) (c := cn) (x := a) (by go_simp) (by go_simp) (by go_simp) rfl (by go_simp) (by omega) (by omega) ba (by omega)).mono ?_
      rintro e w' ⟨rfl, z1, rfl⟩
      go_wp2_with fail
      refine (num16_c (n := 2) (N := 2) (b := gn) (o := on) (m := 4) (c := cn) (x := (N : Int)) (by go_simp) (by go_simp) (by go_simp) rfl (by go_simp) (by omega) (by omega) (by omega) (by omega)).mono ?_
      rintro e w' ⟨rfl, z2, rfl⟩
      go_wp2_with fail
      refine (num8_c (n := 3) (N := 3) (b := gn) (o := on) (m := 4) (c := cn) (x := (N : Int)) (by go_simp) (by go_simp) (by go_simp) rfl (by go_simp) (by omega) (by omega) (by omega) (by omega)).mono ?_
      rintro e w' ⟨rfl, z3, rfl⟩
      go_wp2_with fail
      refine (took_c (n1 := 4) (n2 := 0) (n3 := 0) (p1 := some ⟨gn, on, none⟩) (m1 := cn) (p2 := none) (m2 := 0) (p3 := none) (m3 := 0) (ls := false) (by go_simp) (by go_simp) (by go_simp) (by go_simp) (by go_simp) (by go_simp) (by go_simp) rfl rfl (.inr rfl)).mono ?_
      rintro e w' ⟨rfl, qq, rfl⟩
      go_upto_region 60 with fail
      obtain ⟨H, hH⟩ : ∃ H, H = wr.heap.size + 1 + 1 := ⟨_, rfl⟩
      rw [← hH]
      refine wp_gen (fun W => Below wr.heap.size wr W ∧ (W.cell? ⟨H, 0, none⟩ = some (.int .u8 t) ∧ W.cell? ⟨H, 1, none⟩ = some (.int .u8 a) ∧ W.cell? ⟨H, 2, none⟩ = some (.int .u16 (N : Int)) ∧ W.cell? ⟨H, 3, none⟩ = some (.slice none 0 0) ∧ W.cell? ⟨H, 4, none⟩ = some (.slice none 0 0) ∧ W.cell? ⟨H, 5, none⟩ = some (.slice none 0 0)) ∧ (∀ j, W.frozen? ⟨H, j, none⟩ = false) ∧ W.cell? ⟨wr.heap.size, 1, none⟩ = some (.slice (some ⟨gd, od, none⟩) L cq) ∧ H < W.heap.size) ?G0 (fun y0 hy0 => ?_)
      case G0 =>
        subst hH
        exact ⟨by have h0 := Below.refl wr.heap.size wr; exact (by repeat (first | with_reducible assumption | with_reducible refine Below.drew ?_ | with_reducible refine below_drewN' ?_ _ | with_reducible refine Below.alloc ?_ ?_ _ | with_reducible refine Below.setCell ?_ ?_ _ | with_reducible exact Nat.le_refl _ | omega | focus (simp; done) | focus (simp; omega))), ⟨by go_simp, by go_simp, by go_simp, by go_simp, by go_simp, by go_simp⟩, fun j => by go_simp, by go_simp, by first | omega | (simp; done) | (simp; omega)⟩
      obtain ⟨hB0, ⟨k0, k1, k2, k3, k4, k5⟩, kf, d1, lH0⟩ := hy0
      have HB0 := Lib.hid hB0
      have lrH : wr.heap.size + 1 < H := by omega
      have kf3 := kf 3
      clear hB0 hH n0 n1 n2 n3 hc1' hc2'
      go_wp2_with fail
      refine (clone_c (S16.out.keeps (Keeps.trans (Keeps.of_below HB0.out) (by repeat (first | with_reducible assumption | with_reducible exact Keeps.refl _ _ | with_reducible refine Keeps.drew ?_ | with_reducible refine Keeps.drewN ?_ _ | with_reducible refine Keeps.alloc ?_ _ | with_reducible refine Keeps.setCell ?_ ?_ _ | omega | focus (simp; done) | focus (simp; omega))))) (by rw [h16]; omega)).mono ?_
      rintro e y1 ⟨pm, cm, rfl, hqm, hbm⟩
      rw [h16] at hqm ⊢
      have HBM := Lib.hid (show Below y0.heap.size y0 y1 from Below.trans (by have h0 := Below.refl y0.heap.size y0; exact (by repeat (first | with_reducible assumption | with_reducible refine Below.drew ?_ | with_reducible refine below_drewN' ?_ _ | with_reducible refine Below.alloc ?_ ?_ _ | with_reducible refine Below.setCell ?_ ?_ _ | with_reducible exact Nat.le_refl _ | omega | focus (simp; done) | focus (simp; omega)))) (hbm.mono (by first | omega | (simp; done) | (simp; omega))))
      have HQM := Lib.hid (hqm.imp (fun b hl hb => (by first | omega | (simp at hb; omega) : H < b)))
      have HB1 := Lib.hid (show Below wr.heap.size wr y1 from HB0.out.trans (HBM.out.mono HB0.out.size))
      have j0 := (HBM.out.cell (p := ⟨H, 0, none⟩) lH0).trans k0
      have j1 := (HBM.out.cell (p := ⟨H, 1, none⟩) lH0).trans k1
      have j2 := (HBM.out.cell (p := ⟨H, 2, none⟩) lH0).trans k2
      have j3 := (HBM.out.cell (p := ⟨H, 3, none⟩) lH0).trans k3
      have j4 := (HBM.out.cell (p := ⟨H, 4, none⟩) lH0).trans k4
      have j5 := (HBM.out.cell (p := ⟨H, 5, none⟩) lH0).trans k5
      have jf : ∀ j, y1.frozen? ⟨H, j, none⟩ = false := fun j => (HBM.out.frozen (p := ⟨H, j, none⟩) lH0).trans (kf j)
      have jf3 := jf 3
      have d1' := (HBM.out.cell (p := ⟨wr.heap.size, 1, none⟩) (by simp only; omega)).trans d1
      have lH1 : H < y1.heap.size := World.block_lt_of_cell? _ _ j0
      clear hqm hbm k0 k1 k2 k3 k4 k5 kf kf3 d1 HBM HB0 lH0
      go_wp2_with fail
      refine wp_gen (fun W => Below wr.heap.size wr W ∧ (W.cell? ⟨H, 0, none⟩ = some (.int .u8 t) ∧ W.cell? ⟨H, 1, none⟩ = some (.int .u8 a) ∧ W.cell? ⟨H, 2, none⟩ = some (.int .u16 (N : Int)) ∧ W.cell? ⟨H, 3, none⟩ = some (.slice pm 16 cm) ∧ W.cell? ⟨H, 4, none⟩ = some (.slice none 0 0) ∧ W.cell? ⟨H, 5, none⟩ = some (.slice none 0 0)) ∧ (∀ j, W.frozen? ⟨H, j, none⟩ = false) ∧ W.cell? ⟨wr.heap.size, 1, none⟩ = some (.slice (some ⟨gd, od, none⟩) L cq) ∧ H < W.heap.size ∧ SB W (fun b => H < b) (.slice pm 16 cm) (dd.take 16)) ?G1 (fun W5 hW5 => ?_)
      case G1 => exact ⟨by have h0 := HB1.out; exact (by repeat (first | with_reducible assumption | with_reducible refine Below.drew ?_ | with_reducible refine below_drewN' ?_ _ | with_reducible refine Below.alloc ?_ ?_ _ | with_reducible refine Below.setCell ?_ ?_ _ | with_reducible exact Nat.le_refl _ | omega | focus (simp; done) | focus (simp; omega))), ⟨by go_simp, by go_simp, by go_simp, by go_simp, by go_simp, by go_simp⟩, fun j => by have := jf j; go_simp, by go_simp, by first | omega | (simp; done) | (simp; omega), HQM.out.keeps (by repeat (first | with_reducible assumption | with_reducible exact Keeps.refl _ _ | with_reducible refine Keeps.drew ?_ | with_reducible refine Keeps.drewN ?_ _ | with_reducible refine Keeps.alloc ?_ _ | with_reducible refine Keeps.setCell ?_ ?_ _ | omega | focus (simp; done) | focus (simp; omega)))⟩
      obtain ⟨hB5, ⟨k0, k1, k2, k3, k4, k5⟩, kf, d1, lH5, hma⟩ := hW5
      have HB5 := Lib.hid hB5
      have SMA := Lib.hid hma
      have l5 := hB5.size
      clear hB5 hma j0 j1 j2 j3 j4 j5 jf jf3 d1' lH1 HB1 HQM
      have HG0 := Lib.hid (GFills.start (E := eB) (T := 84) (J := 4) (W := W5) (L := H) (base := W5.heap.size) (ok := fun b => W5.heap.size ≤ b) lH5 (Nat.le_refl _) k4 kf)
      obtain ⟨wo, hwo⟩ : ∃ x, x = wr := ⟨_, rfl⟩
      subst hwo
      go_loopw [23, 278] (fun _ i wr => ∃ m : Nat, m ≤ N ∧ i = .int .i64 (m : Int) ∧ ∃ v, GFills eB 84 4 W5 wr H W5.heap.size (fun b => W5.heap.size ≤ b) v ((List.range m).map (fun i => (dd.drop (16 + 16 * i)).take 16))) (fun _ i _ => N - (intOf i).toNat)
      case atStart => exact ⟨0, Nat.zero_le _, rfl, _, HG0.out⟩
      case round =>
        obtain ⟨m, hm, rfl, v2, hG⟩ := hrel
        have HGF := Lib.hid hG
        have lHq : H < wr.heap.size := Nat.lt_of_lt_of_le hG.lt hG.le
        have le5 := hG.le
        have hown2 := hG.rows.own
        have HO2 := Lib.hid hown2
        obtain ⟨p2, c2', hv2⟩ := hG.rows.form
        rw [show ((List.range m).map (fun i => (dd.drop (16 + 16 * i)).take 16)).length = m by simp] at hv2
        subst hv2
        have e4 := hG.parts
        have ef4 := hG.froz 4
        have d1q := hG.keep.cell (b := wo.heap.size) ⟨by omega, by omega⟩ d1
        have lrq : wo.heap.size < wr.heap.size := by omega
        by_cases hm1 : m < N
        · have hlo : (16 : Int) + 16 * (m : Int) ≤ 32 + 16 * (m : Int) := by omega
          have hhi : (32 : Int) + 16 * (m : Int) ≤ (cq : Int) := by omega
          have ec : ¬ cq = 16 + 16 * m := by omega
          have e16 : 32 + 16 * m - (16 + 16 * m) = 16 := by omega
          have hmI : ((m : Nat) : Int) < (N : Int) := by omega
          have hch : ((dd.drop (16 + 16 * m)).take 16).length = 16 := by rw [List.length_take, List.length_drop, ← HL.out]; omega
          have hsm : SB wo (fun b => b < w.heap.size) (.slice (some ⟨gd, od + (16 + 16 * m), none⟩) 16 (cq - (16 + 16 * m))) ((dd.drop (16 + 16 * m)).take 16) := by
            have h := SB.from (lo := 16 + 16 * m) (hi := 32 + 16 * m) (A := some ⟨gd, od + (16 + 16 * m), none⟩) HRD.out (by omega) (by rw [← HL.out]; omega) (by rw [← HL.out]; omega) hdm (by rw [if_neg ec])
            rw [e16] at h
            exact h
          have HSM := Lib.hid (hsm.keeps (w' := wr) ((Keeps.of_below HB5.out).trans (hG.keep.imp (fun b hb => ⟨by omega, by omega⟩))))
          have HM1 := Lib.hid hm1
          clear hG hown2 hsm
          go_wp2_with fail
          refine wp_region_on (fun b => b = H ∨ b = wo.heap.size) (fun b hb => by first | omega | (rcases hb with hb | hb <;> omega) | (rcases hb with hb | hb <;> simp <;> omega)) [15] (.q 0 (.q 1 (.q 2 (.q 3 (.q 4 (.q 5 (.q 6 (.q 7 (.q 8 (.q 9 (.q 10 (.l 11 (.l 12 (.l 13 (.q 14 (.l 15 .done .stop)) .stop) .stop) .stop)))))))))))) (by kernel_rfl) (by kernel_rfl) (fun _ _ d _ _ h => by cases d <;> exact h) (by simp only [Ord.fill, nthOp]; rfl) ?_; intro hSm
          repeat
            first | refine lexO_pass rfl ?_ | (refine lexO_take2 ?_ rfl (by kernel_rfl) (by with_reducible assumption) (fun w' hS K Q' hK => ?_) ?_; rotate_left; focus (have hS2 := hS.2; clear hS; go_wp2_with fail; exact hK))
          refine lexO_do rfl (fun K hK => ?_) lexO_stop
          go_wp2_with fail
          refine (clone_c (HSM.out.keeps (by repeat (first | with_reducible assumption | with_reducible exact Keeps.refl _ _ | with_reducible refine Keeps.drew ?_ | with_reducible refine Keeps.drewN ?_ _ | with_reducible refine Keeps.alloc ?_ _ | with_reducible refine Keeps.setCell ?_ ?_ _ | omega | focus (simp; done) | focus (simp; omega)))) (by rw [hch]; omega)).mono ?_
          rintro e z1 ⟨p3, c3, rfl, hq3, hb3⟩
          rw [hch] at hq3 ⊢
          have HQ3 := Lib.hid (hq3.imp (fun b hl hb => (⟨by first | omega | (simp at hb; omega), hl⟩ : wr.heap.size ≤ b ∧ b < z1.heap.size)))
          have HB3 := Lib.hid (show Below wr.heap.size wr z1 from Below.trans (by have h0 := Below.refl wr.heap.size wr; exact (by repeat (first | with_reducible assumption | with_reducible refine Below.drew ?_ | with_reducible refine below_drewN' ?_ _ | with_reducible refine Below.alloc ?_ ?_ _ | with_reducible refine Below.setCell ?_ ?_ _ | with_reducible exact Nat.le_refl _ | omega | focus (simp; done) | focus (simp; omega)))) (hb3.mono (by first | omega | (simp; done) | (simp; omega))))
          have g4 : z1.cell? ⟨H, 4, none⟩ = some (.slice p2 m c2') := (HB3.out.cell (p := ⟨H, 4, none⟩) lHq).trans e4
          have gf4 : z1.frozen? ⟨H, 4, none⟩ = false := (HB3.out.frozen (p := ⟨H, 4, none⟩) lHq).trans ef4
          have lHz : H < z1.heap.size := World.block_lt_of_cell? _ _ g4
          have lz1 : wr.heap.size ≤ z1.heap.size := HB3.out.size
          clear hq3
          go_wp2_with fail
          refine step_and (SameOn.below (by repeat (first | with_reducible assumption | (with_reducible refine SameOn.refl (fun b hb => ?_); first | omega | (rcases hb with hb | hb <;> omega) | (rcases hb with hb | hb <;> simp <;> omega)) | with_reducible refine SameOn.drew ?_ | with_reducible refine SameOn.alloc ?_ _ | (refine SameOn.below ?_ (by with_reducible assumption)))) hb3) (fun _ => ?_)
          clear hb3
          repeat
            first | refine lexO_pass rfl ?_ | (refine lexO_take2 ?_ rfl (by kernel_rfl) (by with_reducible assumption) (fun w' hS K Q' hK => ?_) ?_; rotate_left; focus (have hS2 := hS.2; clear hS; go_wp2_with fail; exact hK))
          refine lexO_do rfl (fun K hK => ?_) lexO_stop
          go_wp2_with fail
          refine step_and (by repeat (first | with_reducible assumption | (with_reducible refine SameOn.refl (fun b hb => ?_); first | omega | (rcases hb with hb | hb <;> omega) | (rcases hb with hb | hb <;> simp <;> omega)) | with_reducible refine SameOn.drew ?_ | with_reducible refine SameOn.alloc ?_ _ | (refine SameOn.below ?_ (by with_reducible assumption)))) (fun _ => ?_)
          repeat
            first | refine lexO_pass rfl ?_ | (refine lexO_take2 ?_ rfl (by kernel_rfl) (by with_reducible assumption) (fun w' hS K Q' hK => ?_) ?_; rotate_left; focus (have hS2 := hS.2; clear hS; go_wp2_with fail; exact hK))
          refine lexO_do rfl (fun K hK => ?_) lexO_stop
          refine wp_append_N2 (E := eB) (.tmp 282) (.tmp 293) 96 84 _ 24 rfl Tryz.underlying96 infoIP rfl (by decide) (by decide) (HGF.out.rows.keeps (Keeps.trans (Keeps.of_below HB3.out) (by repeat (first | with_reducible assumption | with_reducible exact Keeps.refl _ _ | with_reducible refine Keeps.drew ?_ | with_reducible refine Keeps.drewN ?_ _ | with_reducible refine Keeps.alloc ?_ _ | with_reducible refine Keeps.setCell ?_ ?_ _ | omega | focus (simp; done) | focus (simp; omega))))) wr.heap.size (fun k hk => (HO2.out k hk).2) rfl rfl (cs := [.slice p3 16 c3]) (y := (fun i => (dd.drop (16 + 16 * i)).take 16) m) ?hcells ?hrep (by simp; omega) (by first | omega | (simp; omega)) (fun q' c2 w8 hr5 hs5 hk5 hb5 => hK _ _ ?_)
          case hcells =>
            intro j u hu
            rcases j with _ | j
            · simp at hu; subst hu; go_simp
            · simp at hu
          case hrep => exact ⟨_, rfl, (HQ3.out.keeps (by repeat (first | with_reducible assumption | with_reducible exact Keeps.refl _ _ | with_reducible refine Keeps.drew ?_ | with_reducible refine Keeps.drewN ?_ _ | with_reducible refine Keeps.alloc ?_ _ | with_reducible refine Keeps.setCell ?_ ?_ _ | omega | focus (simp; done) | focus (simp; omega)))).imp (fun b _ hb => ⟨by omega, .inr (by omega)⟩)⟩
          refine step_and (SameOn.keeps (by repeat (first | with_reducible assumption | (with_reducible refine SameOn.refl (fun b hb => ?_); first | omega | (rcases hb with hb | hb <;> omega) | (rcases hb with hb | hb <;> simp <;> omega)) | with_reducible refine SameOn.drew ?_ | with_reducible refine SameOn.alloc ?_ _ | (refine SameOn.below ?_ (by with_reducible assumption)))) hk5 (fun b hb => by omega)) (fun _ => ?_)
          rw [show ((List.range m).map (fun i => (dd.drop (16 + 16 * i)).take 16)).length = m by simp] at hr5
          have hL5 : w8.cell? ⟨H, 4, none⟩ = some (.slice p2 m c2') := hk5.cell (.inl lH5) (by go_simp)
          have hf5 : w8.frozen? ⟨H, 4, none⟩ = false := hk5.frozen (.inl lH5) (by first | omega | (simp; omega)) (by go_simp)
          have l8 : H < w8.heap.size := World.block_lt_of_cell? _ _ hL5
          have H5 := Lib.hid (HGF.out.step (w5 := w8) (fun b hb => by omega) (show Below wr.heap.size wr _ from (by have h0 := HB3.out; exact (by repeat (first | with_reducible assumption | with_reducible refine Below.drew ?_ | with_reducible refine below_drewN' ?_ _ | with_reducible refine Below.alloc ?_ ?_ _ | with_reducible refine Below.setCell ?_ ?_ _ | with_reducible exact Nat.le_refl _ | omega | focus (simp; done) | focus (simp; omega))))) hr5 hs5 (hk5.imp (fun b hb => .inl hb)) hb5)
          clear hr5 hs5 hk5 hb5
          repeat
            first | refine lexO_pass rfl ?_ | (refine lexO_take2 ?_ rfl (by kernel_rfl) (by with_reducible assumption) (fun w' hS K Q' hK => ?_) ?_; rotate_left; focus (have hS2 := hS.2; clear hS; go_wp2_with fail; exact hK))
          refine lexO_do rfl (fun K hK => ?_) lexO_stop
          go_wp2_with fail
          first | refine step_last (by decide) (lexO_done ?_) | refine lexO_done ?_
          go_wp2_with fail
          go_roundw
          case rel => exact ⟨m + 1, HM1.out, by go_num, _, by have h := H5.out; rw [range_snoc] at h; exact h⟩
          case measure => have := HM1.out; simp [intOf]; omega
        · obtain rfl : N = m := by omega
          have hmI : ¬ ((N : Nat) : Int) < (N : Int) := by omega
          have e16 : 16 + 16 * N - (16 + 16 * N) = 0 := by omega
          have g0 := hG.other 0 _ (by decide) k0
          have g1 := hG.other 1 _ (by decide) k1
          have g2 := hG.other 2 _ (by decide) k2
          have g3 := hG.other 3 _ (by decide) k3
          have g5 := hG.other 5 _ (by decide) k5
          have gf5 := hG.froz 5
          have HIV := Lib.hid (hG.rows.sd (ok' := fun b => H < b) (fun b _ hb => by omega) (fun b _ hb => by omega))
          have HMV := Lib.hid (show SB wr (fun b => H < b) (.slice pm 16 cm) (dd.take 16) from ((SMA.out.imp (fun b hl hb => ⟨⟨hl, by omega⟩, hb⟩ : ∀ b, b < W5.heap.size → H < b → (b < W5.heap.size ∧ b ≠ H) ∧ H < b)).keeps (hG.keep.imp (fun b hb => hb.1))).imp (fun b _ hb => hb.2))
          have HBQ := Lib.hid (show Below wo.heap.size wo wr from hG.below _ _ (by omega) HB5.out)
          obtain ⟨A5, hA5⟩ : ∃ A, (if cq = 16 + 16 * N then some (⟨gd, od, none⟩ : Addr) else some ⟨gd, od + (16 + 16 * N), none⟩) = A := ⟨_, rfl⟩
          have hab : SB wo (fun b => b < w.heap.size) (.slice A5 (L - (16 + 16 * N)) (cq - (16 + 16 * N))) (dd.drop (16 + 16 * N)) := by
            have h := SB.from (lo := 16 + 16 * N) (hi := L) HRD.out (by omega) (by rw [HL.out]; exact Nat.le_refl _) (by rw [← HL.out]; omega) hdm hA5
            rw [List.take_of_length_le (by rw [List.length_drop, ← HL.out]; exact Nat.le_refl _)] at h
            exact h
          have habl : (dd.drop (16 + 16 * N)).length = L - (16 + 16 * N) := by rw [List.length_drop, ← HL.out]
          have HAB := Lib.hid (hab.keeps (w' := wr) (Keeps.of_below HBQ.out))
          have lo : (16 : Int) + 16 * (N : Int) ≤ (L : Int) := by omega
          have lo2 : (16 : Int) + 16 * (N : Int) ≤ (cq : Int) := by omega
          clear hG hown2 hab
          go_wp2_with fail
          refine (clone_c (HAB.out.keeps (by repeat (first | with_reducible assumption | with_reducible exact Keeps.refl _ _ | with_reducible refine Keeps.drew ?_ | with_reducible refine Keeps.drewN ?_ _ | with_reducible refine Keeps.alloc ?_ _ | with_reducible refine Keeps.setCell ?_ ?_ _ | omega | focus (simp; done) | focus (simp; omega)))) (by rw [habl]; omega)).mono ?_
          rintro e z1 ⟨pa, ca, rfl, hqa, hba⟩
          rw [habl] at hqa ⊢
          have HQA := Lib.hid (hqa.imp (fun b hl hb => (by first | omega | (simp at hb; omega) : H < b)))
          have HBZ := Lib.hid (show Below wo.heap.size wo z1 from (HBQ.out.trans (by have h0 := Below.refl wo.heap.size wr; exact (by repeat (first | with_reducible assumption | with_reducible refine Below.drew ?_ | with_reducible refine below_drewN' ?_ _ | with_reducible refine Below.alloc ?_ ?_ _ | with_reducible refine Below.setCell ?_ ?_ _ | with_reducible exact Nat.le_refl _ | omega | focus (simp; done) | focus (simp; omega))))).trans (hba.mono (by have := HBQ.out.size; first | omega | (simp; done) | (simp; omega))))
          have HBA := Lib.hid (show Below wr.heap.size wr z1 from Below.trans (by have h0 := Below.refl wr.heap.size wr; exact (by repeat (first | with_reducible assumption | with_reducible refine Below.drew ?_ | with_reducible refine below_drewN' ?_ _ | with_reducible refine Below.alloc ?_ ?_ _ | with_reducible refine Below.setCell ?_ ?_ _ | with_reducible exact Nat.le_refl _ | omega | focus (simp; done) | focus (simp; omega)))) (hba.mono (by first | omega | (simp; done) | (simp; omega))))
          have r0 := (HBA.out.cell (p := ⟨H, 0, none⟩) lHq).trans g0
          have r1 := (HBA.out.cell (p := ⟨H, 1, none⟩) lHq).trans g1
          have r2 := (HBA.out.cell (p := ⟨H, 2, none⟩) lHq).trans g2
          have r3 := (HBA.out.cell (p := ⟨H, 3, none⟩) lHq).trans g3
          have r4 := (HBA.out.cell (p := ⟨H, 4, none⟩) lHq).trans e4
          have r5 := (HBA.out.cell (p := ⟨H, 5, none⟩) lHq).trans g5
          have rf5 := (HBA.out.frozen (p := ⟨H, 5, none⟩) lHq).trans gf5
          have lHz : H < z1.heap.size := World.block_lt_of_cell? _ _ r0
          clear hqa hba g0 g1 g2 g3 g5 gf5 e4 ef4 d1q k0 k1 k2 k3 k4 k5 kf d1
          go_upto_region 67 with fail
          refine wp_gen (fun W => Below wo.heap.size wo W ∧ (W.cell? ⟨H, 0, none⟩ = some (.int .u8 t) ∧ W.cell? ⟨H, 1, none⟩ = some (.int .u8 a) ∧ W.cell? ⟨H, 2, none⟩ = some (.int .u16 (N : Int)) ∧ W.cell? ⟨H, 3, none⟩ = some (.slice pm 16 cm) ∧ W.cell? ⟨H, 4, none⟩ = some (.slice p2 N c2') ∧ W.cell? ⟨H, 5, none⟩ = some (.slice pa (L - (16 + 16 * N)) ca)) ∧
            SB W (fun b => H < b) (.slice pm 16 cm) (dd.take 16) ∧ SD W (fun b => H < b) (.slice p2 N c2') ((List.range N).map (fun i => (dd.drop (16 + 16 * i)).take 16)) ∧ SB W (fun b => H < b) (.slice pa (L - (16 + 16 * N)) ca) (dd.drop (16 + 16 * N))) ?G2 (fun W8 hW8 => ?_)
          case G2 =>
            have hiv := HIV.out
            exact ⟨by have h0 := HBZ.out; exact (by repeat (first | with_reducible assumption | with_reducible refine Below.drew ?_ | with_reducible refine below_drewN' ?_ _ | with_reducible refine Below.alloc ?_ ?_ _ | with_reducible refine Below.setCell ?_ ?_ _ | with_reducible exact Nat.le_refl _ | omega | focus (simp; done) | focus (simp; omega))), ⟨by go_simp, by go_simp, by go_simp, by go_simp, by go_simp, by go_simp⟩, (HMV.out.keeps (w' := z1) (Keeps.of_below HBA.out)).keeps (by repeat (first | with_reducible assumption | with_reducible exact Keeps.refl _ _ | with_reducible refine Keeps.drew ?_ | with_reducible refine Keeps.drewN ?_ _ | with_reducible refine Keeps.alloc ?_ _ | with_reducible refine Keeps.setCell ?_ ?_ _ | omega | focus (simp; done) | focus (simp; omega))), (hiv.keeps (w' := z1) (Keeps.of_below HBA.out)).keeps (by repeat (first | with_reducible assumption | with_reducible exact Keeps.refl _ _ | with_reducible refine Keeps.drew ?_ | with_reducible refine Keeps.drewN ?_ _ | with_reducible refine Keeps.alloc ?_ _ | with_reducible refine Keeps.setCell ?_ ?_ _ | omega | focus (simp; done) | focus (simp; omega))), HQA.out.keeps (by repeat (first | with_reducible assumption | with_reducible exact Keeps.refl _ _ | with_reducible refine Keeps.drew ?_ | with_reducible refine Keeps.drewN ?_ _ | with_reducible refine Keeps.alloc ?_ _ | with_reducible refine Keeps.setCell ?_ ?_ _ | omega | focus (simp; done) | focus (simp; omega)))⟩
          obtain ⟨hB8, ⟨k0, k1, k2, k3, k4, k5⟩, hma, hiv, hav⟩ := hW8
          have HB8 := Lib.hid hB8
          have HRP := Lib.hid (And.intro hma (And.intro hiv hav))
          have lH8 : H < W8.heap.size := World.block_lt_of_cell? _ _ k0
          have x3 : W8.cell? ⟨X, 3, none⟩ = some (.slice p k c') := (hB8.cell (p := ⟨X, 3, none⟩) lXr).trans e3
          have xf : W8.frozen? ⟨X, 3, none⟩ = false := (hB8.frozen (p := ⟨X, 3, none⟩) lXr).trans ef
          have lX8 : X < W8.heap.size := World.block_lt_of_cell? _ _ x3
          clear hB8 hma hiv hav r0 r1 r2 r3 r4 r5 rf5 lHz HBZ HBA HQA HIV HMV HBQ HAB HGF HO2 lHq hA5
          refine wp_region_on (fun b => b = X ∨ b = H) (fun b hb => by first | omega | (rcases hb with hb | hb <;> omega) | (rcases hb with hb | hb <;> simp <;> omega)) [10] (.q 0 (.q 1 (.q 2 (.q 3 (.q 4 (.q 5 (.l 6 (.l 7 (.q 8 (.q 9 (.l 10 .done .stop))) .stop) .stop))))))) (by kernel_rfl) (by kernel_rfl) (fun _ _ d _ _ h => by cases d <;> exact h) (by simp only [Ord.fill, nthOp]; rfl) ?_; intro hSm
          repeat
            first | refine lexO_pass rfl ?_ | (refine lexO_take2 ?_ rfl (by kernel_rfl) (by with_reducible assumption) (fun w' hS K Q' hK => ?_) ?_; rotate_left; focus (have hS2 := hS.2; clear hS; go_wp2_with fail; exact hK))
          refine lexO_do rfl (fun K hK => ?_) lexO_stop
          go_wp2_with fail
          have hSA : SameOn (fun b => b = X ∨ b = H) W8 (W8.alloc (.cells #[.int .u8 t, .int .u8 a, .int .u16 (N : Int), .slice pm 16 cm, .slice p2 N c2', .slice pa (L - (16 + 16 * N)) ca] 106)) := SameOn.alloc (SameOn.refl (fun b hb => by rcases hb with hb | hb <;> omega)) _
          first | refine step_and hSA (fun _ => ?_) | refine ⟨hSA, ?_⟩
          repeat
            first | refine lexO_pass rfl ?_ | (refine lexO_take2 ?_ rfl (by kernel_rfl) (by with_reducible assumption) (fun w' hS K Q' hK => ?_) ?_; rotate_left; focus (have hS2 := hS.2; clear hS; go_wp2_with fail; exact hK))
          refine lexO_do rfl (fun K hK => ?_) lexO_stop
          refine wp_append_N2 (E := eR) (.tmp 309) (.tmp 311) 101 106 _ 80 rfl Tryz.underlying101 infoRec rfl (by decide) (by decide) (HF.out.rows.keeps (Keeps.trans (Keeps.of_below HB8.out) (by repeat (first | with_reducible assumption | with_reducible exact Keeps.refl _ _ | with_reducible refine Keeps.drew ?_ | with_reducible refine Keeps.drewN ?_ _ | with_reducible refine Keeps.alloc ?_ _ | with_reducible refine Keeps.setCell ?_ ?_ _ | omega | focus (simp; done) | focus (simp; omega))))) wo.heap.size (fun k hk => (HO.out k hk).2) rfl rfl (cs := [Value.int .u8 t, .int .u8 a, .int .u16 (N : Int), .slice pm 16 cm, .slice p2 N c2', .slice pa (L - (16 + 16 * N)) ca]) (y := ([t, a, (N : Int), (N : Int)], dd)) ?hcells ?hrep (by rw [List.length_take]; omega) (by first | omega | (simp; omega)) (fun q' c2 w8 hr5 hs5 hk5 hb5 => hK _ _ ?_)
          case hcells =>
            intro j u hu
            rcases j with _ | _ | _ | _ | _ | _ | j
            · simp at hu; subst hu; go_simp
            · simp at hu; subst hu; go_simp
            · simp at hu; subst hu; go_simp
            · simp at hu; subst hu; go_simp
            · simp at hu; subst hu; go_simp
            · simp at hu; subst hu; go_simp
            · simp at hu
          case hrep =>
            obtain ⟨hma, hiv, hav⟩ := HRP.out
            have hdd := HL.out
            have hok : ∀ b, H < b → w4.heap.size ≤ b ∧ (b < w4.heap.size ∨ wo.heap.size ≤ b) := fun b hb => ⟨by omega, .inr (by omega)⟩
            refine ⟨t, a, (N : Int), _, _, _, dd.take 16, (List.range N).map (fun i => (dd.drop (16 + 16 * i)).take 16), dd.drop (16 + 16 * N), rfl, ?_, (hma.keeps (by repeat (first | with_reducible assumption | with_reducible exact Keeps.refl _ _ | with_reducible refine Keeps.drew ?_ | with_reducible refine Keeps.drewN ?_ _ | with_reducible refine Keeps.alloc ?_ _ | with_reducible refine Keeps.setCell ?_ ?_ _ | omega | focus (simp; done) | focus (simp; omega)))).imp (fun b _ hb => hok b hb), (hiv.keeps (by repeat (first | with_reducible assumption | with_reducible exact Keeps.refl _ _ | with_reducible refine Keeps.drew ?_ | with_reducible refine Keeps.drewN ?_ _ | with_reducible refine Keeps.alloc ?_ _ | with_reducible refine Keeps.setCell ?_ ?_ _ | omega | focus (simp; done) | focus (simp; omega)))).imp (fun b _ hb => hok b hb), (hav.keeps (by repeat (first | with_reducible assumption | with_reducible exact Keeps.refl _ _ | with_reducible refine Keeps.drew ?_ | with_reducible refine Keeps.drewN ?_ _ | with_reducible refine Keeps.alloc ?_ _ | with_reducible refine Keeps.setCell ?_ ?_ _ | omega | focus (simp; done) | focus (simp; omega)))).imp (fun b _ hb => hok b hb), by omega, by rw [List.length_take, ← hdd]; omega, by simp; omega, fun d hd => ?_, by rw [List.length_drop, ← hdd]; have := HDL.out; omega, by rw [List.length_drop, ← hdd]; omega⟩
            · have e1 : ((List.range N).map (fun i => (dd.drop (16 + 16 * i)).take 16)) = ((List.range N).map fun i => ((dd.drop 16).drop (16 * i)).take 16) := by simp only [List.drop_drop]
              have e2 : (dd.drop 16).take (16 * N) ++ dd.drop (16 + 16 * N) = dd.drop 16 := by rw [← List.drop_drop, List.take_append_drop]
              rw [e1, flat16 (dd.drop 16) N (by rw [List.length_drop, ← hdd]; omega), e2, List.take_append_drop]
              simp
            · obtain ⟨i, hi, rfl⟩ := List.mem_map.1 hd
              have := List.mem_range.1 hi
              rw [List.length_take, List.length_drop, ← hdd]
              omega
          refine step_and (SameOn.keeps (by repeat (first | with_reducible assumption | (with_reducible refine SameOn.refl (fun b hb => ?_); first | omega | (rcases hb with hb | hb <;> omega) | (rcases hb with hb | hb <;> simp <;> omega)) | with_reducible refine SameOn.drew ?_ | with_reducible refine SameOn.alloc ?_ _ | (refine SameOn.below ?_ (by with_reducible assumption)))) hk5 (fun b hb => by omega)) (fun _ => ?_)
          rw [show (ps.take k).length = k by rw [List.length_take]; have := HNP.out; omega] at hr5
          have hL5 : w8.cell? ⟨X, 3, none⟩ = some (.slice p k c') := hk5.cell (.inl lX4) (by go_simp)
          have hf5 : w8.frozen? ⟨X, 3, none⟩ = false := hk5.frozen (.inl lX4) (by first | omega | (simp; omega)) (by go_simp)
          have l8 : X < w8.heap.size := World.block_lt_of_cell? _ _ hL5
          have H5 := Lib.hid (HF.out.step (w5 := w8) (fun b hb => by omega) (show Below wo.heap.size wo _ from (by have h0 := HB8.out; exact (by repeat (first | with_reducible assumption | with_reducible refine Below.drew ?_ | with_reducible refine below_drewN' ?_ _ | with_reducible refine Below.alloc ?_ ?_ _ | with_reducible refine Below.setCell ?_ ?_ _ | with_reducible exact Nat.le_refl _ | omega | focus (simp; done) | focus (simp; omega))))) hr5 hs5 (hk5.imp (fun b hb => .inl hb)) hb5)
          clear hr5 hs5 hk5 hb5
          repeat
            first | refine lexO_pass rfl ?_ | (refine lexO_take2 ?_ rfl (by kernel_rfl) (by with_reducible assumption) (fun w' hS K Q' hK => ?_) ?_; rotate_left; focus (have hS2 := hS.2; clear hS; go_wp2_with fail; exact hK))
          refine lexO_do rfl (fun K hK => ?_) lexO_stop
          go_wp2_with fail
          first | refine step_last (by decide) (lexO_done ?_) | refine lexO_done ?_
          go_wp2_with fail
          go_roundw
          case rel =>
            exact ⟨k + 1, HK1.out, by go_num, _, by have h := H5.out; rw [take_snoc9 HQG.out] at h; have hm : min k ps.length = k := Nat.min_eq_left (by have := HNP.out; have := HK1.out; omega); rw [hm]; exact h⟩
          case measure => have := HK1.out; simp [intOf]; omega
    · obtain rfl : np = k := by omega
      have hkI : ¬ ((np : Nat) : Int) < (np : Int) := by omega
      have hK4 : ∀ j u, w4.cell? ⟨w.heap.size + 1, j, none⟩ = some u → wr.cell? ⟨w.heap.size + 1, j, none⟩ = some u := fun j u hu => hF.keep.cell (b := w.heap.size + 1) ⟨by omega, by omega⟩ hu
      have z0 := hK4 _ _ kc_0
      have z1 := hK4 _ _ kc_1
      have z2 := hK4 _ _ kc_2
      have z4 := hK4 _ _ kc_4
      have z5 := hK4 _ _ kc_5
      have z6 := hK4 _ _ kc_6
      have z7 := hK4 _ _ kc_7
      have y2 := hF.other 2 _ (by decide) kx_2
      have lCr : w.heap.size + 1 < wr.heap.size := by omega
      clear hF hown hK4 kc_0 kc_1 kc_2 kc_3 kc_4 kc_5 kc_6 kc_7 kx_2 kx_3 fx4
      go_wp2_with fail
      refine (took_c (n1 := 1) (n2 := 0) (n3 := np) (p1 := some ⟨nb, no, none⟩) (m1 := nc) (p2 := pd) (m2 := cd) (p3 := pp) (m3 := cp) (ls := true) (by go_simp) (by go_simp) (by go_simp) (by go_simp) (by go_simp) (by go_simp) (by go_simp) rfl rfl (.inl rfl)).mono ?_
      rintro e w' ⟨rfl, qq, rfl⟩
      go_wp2_with fail
      refine bodyPost_ret (v := .iface 100 (.pointer (some ⟨X, 0, none⟩))) (by simp only [results, Tryz.results23]; go_simp) rfl ?_
      have hF := HF.out
      rw [List.take_of_length_le (by have := HNP.out; omega)] at hF
      have hbl : Below w.heap.size w wr := hF.below _ _ (by omega) HB4.out
      refine ⟨(by repeat (first | with_reducible assumption | with_reducible refine Below.drew ?_ | with_reducible refine below_drewN' ?_ _ | with_reducible refine Below.alloc ?_ ?_ _ | with_reducible refine Below.setCell ?_ ?_ _ | with_reducible exact Nat.le_refl _ | omega | focus (simp; done) | focus (simp; omega))), _, rfl, by first | omega | (simp; done) | (simp; omega), by go_simp, _, by go_simp, (hF.rows.imp (Nat.zero_le _) (fun _ _ _ => trivial)).keeps (by repeat (first | with_reducible assumption | with_reducible exact Keeps.refl _ _ | with_reducible refine Keeps.drew ?_ | with_reducible refine Keeps.drewN ?_ _ | with_reducible refine Keeps.alloc ?_ _ | with_reducible refine Keeps.setCell ?_ ?_ _ | omega | focus (simp; done) | focus (simp; omega)))⟩
end Go.Proofs.YtmpifdanfnebpaaGreat
