/-
  impl.made of tls.
-/
import Derived.Test.YtmpifdanfnebpaaGreatMquery
import Derived.Test.YtmpifdanfnebpaaGreatIstls
namespace Go.Proofs.YtmpifdanfnebpaaGreat
open Go Go.RowKit

set_option maxRecDepth 100000 in
set_option maxHeartbeats 16000000 in
theorem made_tls {ps : List (List Int × List Int)} (hn50 : ps.length ≤ 50) (hok : ∀ p ∈ ps, OkP p) :
    MadeOf (.string ⟨#[116, 108, 115]⟩) ⟨[], [], ps, []⟩ 144 (MIsTls (fun i => sel i ps)) := by
  intro vv w h
  obtain ⟨a, b, c, d, rfl, hn, hd, hp, hpl⟩ := h
  obtain ⟨pn, cn0, rfl, -⟩ := hn
  obtain ⟨pd, cd, rfl⟩ := hd.form
  obtain ⟨pp, cp, rfl⟩ := hp.form
  obtain ⟨pl, cl, rfl⟩ := hpl.form
  have HPP := Lib.hid hp
  have HOK := Lib.hid hok
  obtain ⟨np, hnp⟩ : ∃ n, n = ps.length := ⟨_, rfl⟩
  have lnp : np ≤ 50 := by omega
  have HNP := Lib.hid hnp
  rw [← hnp]
  have hdr : ∀ (W : World) (q : Nat) (p : Addr) (v : Value), (W.drewN q).setCell p v = (W.setCell p v).drewN q := fun _ _ _ _ => rfl
  clear hd hp hpl hok hnp
  go_enter Tryz.func23, Tryz.ntmps23
  go_wp2_with fail
  refine (parts_c (v := .slice pp np cp) (u := .bool false) (by go_simp) (by go_simp) (by go_simp)).mono ?_
  rintro e w4 ⟨rfl, hw⟩
  have kc_0 : w4.cell? ⟨w.heap.size + 1, 0, none⟩ = some (.slice pn 0 cn0) := by rw [← hw]; clear hw; go_simp
  have kc_1 : w4.cell? ⟨w.heap.size + 1, 1, none⟩ = some (.slice pd 0 cd) := by rw [← hw]; clear hw; go_simp
  have kc_2 : w4.cell? ⟨w.heap.size + 1, 2, none⟩ = some (.slice pp np cp) := by rw [← hw]; clear hw; go_simp
  have kc_3 : w4.cell? ⟨w.heap.size + 1, 3, none⟩ = some (.slice pl 0 cl) := by rw [← hw]; clear hw; go_simp
  have kc_4 : w4.cell? ⟨w.heap.size + 1, 4, none⟩ = some (.int .i64 0) := by rw [← hw]; clear hw; go_simp
  have kc_5 : w4.cell? ⟨w.heap.size + 1, 5, none⟩ = some (.int .i64 0) := by rw [← hw]; clear hw; go_simp
  have kc_6 : w4.cell? ⟨w.heap.size + 1, 6, none⟩ = some (.bool false) := by rw [← hw]; clear hw; go_simp
  have kc_7 : w4.cell? ⟨w.heap.size + 1, 7, none⟩ = some (.bool true) := by rw [← hw]; clear hw; go_simp
  have kx_2 : w4.cell? ⟨w.heap.size + 1 + 1, 2, none⟩ = some (.slice none 0 0) := by rw [← hw]; clear hw; go_simp
  have kx_3 : w4.cell? ⟨w.heap.size + 1 + 1, 3, none⟩ = some (.slice none 0 0) := by rw [← hw]; clear hw; go_simp
  have kx_4 : w4.cell? ⟨w.heap.size + 1 + 1, 4, none⟩ = some (.slice none 0 0) := by rw [← hw]; clear hw; go_simp
  have kx_5 : w4.cell? ⟨w.heap.size + 1 + 1, 5, none⟩ = some (.slice none 0 0) := by rw [← hw]; clear hw; go_simp
  have fx4 : ∀ j, w4.frozen? ⟨w.heap.size + 1 + 1, j, none⟩ = false := fun j => by rw [← hw]; clear hw; go_simp
  have HB4 := Lib.hid (show Below w.heap.size w w4 from by rw [← hw]; clear hw; have h0 := Below.refl w.heap.size w; exact (by repeat (first | with_reducible assumption | with_reducible refine Below.drew ?_ | with_reducible refine below_drewN' ?_ _ | with_reducible refine Below.alloc ?_ ?_ _ | with_reducible refine Below.setCell ?_ ?_ _ | with_reducible exact Nat.le_refl _ | omega | focus (simp; done) | focus (simp; omega))))
  obtain ⟨X, hX⟩ : ∃ X, X = w.heap.size + 1 + 1 := ⟨_, rfl⟩
  rw [← hX] at kx_2 kx_3 kx_4 kx_5 fx4
  have lX4 : X < w4.heap.size := World.block_lt_of_cell? _ _ kx_2
  clear hw
  go_wp2_with fail
  have HF0 := Lib.hid (Four.start (E := eT) (T := tT) (J := 2) (w := w4) (X := X) (base := w4.heap.size) (ok := fun b => w4.heap.size ≤ b) lX4 (Nat.le_refl _) (fun i hi => by
    rcases i with _ | _ | _ | _ | i
    · exact kx_2
    · exact kx_3
    · exact kx_4
    · exact kx_5
    · omega) fx4)
  rw [← hX]
  have lCX : w.heap.size + 1 < X := by omega
  clear hX
  go_loopw [41, 42, 43, 44, 569] (fun _ _ _ _ i wr => ∃ k : Nat, k ≤ np ∧ i = .int .i64 (k : Int) ∧ ∃ v, Hid (Four eT tT 2 wr X w4.heap.size (fun b => w4.heap.size ≤ b) v (fun i => sel i (ps.take k))) ∧ Hid (Below X w4 wr)) (fun _ _ _ _ i _ => np - (intOf i).toNat)
  case atStart => exact ⟨0, Nat.zero_le _, rfl, _, HF0, Lib.hid (Below.refl _ _)⟩
  case round =>
    obtain ⟨k, hk, rfl, v, HF, HBX⟩ := hrel
    have lXr : X < wr.heap.size := Nat.lt_of_lt_of_le HF.out.lt HF.out.le
    have leW := HF.out.le
    have hkX : Keeps (fun b => b < X) w4 wr := ⟨HBX.out.size, fun b hb _ => HBX.out.block b hb⟩
    by_cases hlt : k < np
    · obtain ⟨gI, oI, u1', u2', q, rfl, lgI, hq, hc1, hc2, hs1, hs2⟩ := HPP.out.get (k := k) (by have := HNP.out; show k < ps.length; omega)
      have hokq := HOK.out q (List.mem_of_getElem? hq)
      have hkeep : Keeps (fun b => b < w.heap.size) w wr := (Keeps.of_below HB4.out).trans (hkX.imp (fun b hb => by omega))
      have hc1' := hkeep.cell (b := gI) lgI hc1
      have hc2' := hkeep.cell (b := gI) lgI hc2
      have HQG := Lib.hid hq
      have HK1 := Lib.hid hlt
      have hkI : ((k : Nat) : Int) < (np : Int) := by omega
      have lgr : gI < wr.heap.size := by omega
      clear hkX kc_0 kc_1 kc_2 kc_3 kc_4 kc_5 kc_6 kc_7 kx_2 kx_3 kx_4 kx_5 fx4
      rcases hokq with ⟨xv, xn, xm, rfl, bv, bn, bm⟩ | ⟨xv, xn, xd, rfl, bv, bn, bd⟩ | ⟨xv, xn, xa, xb, rfl, bv, bn, ba, bb⟩
      · obtain ⟨gn, on, cn, rfl, lgn, hnc⟩ := hs1.cellsN (n := 5) rfl (by decide)
        obtain ⟨pq, cq, rfl⟩ := hs2.form
        have n0 := hkeep.cell (b := gn) lgn (hnc 0 _ rfl)
        have n1 := hkeep.cell (b := gn) lgn (hnc 1 _ rfl)
        have n2 := hkeep.cell (b := gn) lgn (hnc 2 _ rfl)
        have n3 := hkeep.cell (b := gn) lgn (hnc 3 _ rfl)
        have n4 := hkeep.cell (b := gn) lgn (hnc 4 _ rfl)
        rw [Nat.add_zero] at n0
        have HDD := Lib.hid ((hs2.imp (fun b hb _ => hb : ∀ b, b < w.heap.size → True → b < w.heap.size)).keeps hkeep)
        have lgnr : gn < wr.heap.size := by omega
        have d1 : wr.cell? ⟨gI, oI + k * 2 + 1, none⟩ = some (.slice pq 0 cq) := hc2'
        clear hs1 hs2 hnc hc2' hc1 hc2 hkeep hq
        go_wp2_with fail
        refine (num8_c (n := 0) (N := 0) (b := gn) (o := on) (m := 5) (c := cn) (x := 0) (by go_simp) (by go_simp) (by go_simp) rfl (by go_simp) (by omega) (by omega) (by omega) (by omega)).mono ?_
        rintro e w' ⟨rfl, z0, rfl⟩
        go_wp2_with fail
        refine (num8_c (n := 1) (N := 1) (b := gn) (o := on) (m := 5) (c := cn) (x := 20) (by go_simp) (by go_simp) (by go_simp) rfl (by go_simp) (by omega) (by omega) (by omega) (by omega)).mono ?_
        rintro e w' ⟨rfl, z1, rfl⟩
        go_wp2_with fail
        refine (num16_c (n := 2) (N := 2) (b := gn) (o := on) (m := 5) (c := cn) (x := xv) (by go_simp) (by go_simp) (by go_simp) rfl (by go_simp) (by omega) (by omega) bv (by omega)).mono ?_
        rintro e w' ⟨rfl, z2, rfl⟩
        go_wp2_with fail
        refine (num16_c (n := 3) (N := 3) (b := gn) (o := on) (m := 5) (c := cn) (x := xn) (by go_simp) (by go_simp) (by go_simp) rfl (by go_simp) (by omega) (by omega) bn (by omega)).mono ?_
        rintro e w' ⟨rfl, z3, rfl⟩
        go_wp2_with fail
        refine wp_gen (fun W => Below wr.heap.size wr W ∧ W.cell? ⟨wr.heap.size + 1, 0, none⟩ = some (.slice (some ⟨gn, on, none⟩) 5 cn) ∧ W.cell? ⟨wr.heap.size + 1, 1, none⟩ = some (.slice none 0 0) ∧ W.cell? ⟨wr.heap.size + 1, 2, none⟩ = some (.slice none 0 0) ∧ W.cell? ⟨wr.heap.size + 1, 3, none⟩ = some (.slice none 0 0) ∧ W.cell? ⟨wr.heap.size + 1, 4, none⟩ = some (.int .i64 4) ∧ W.cell? ⟨wr.heap.size + 1, 5, none⟩ = some (.int .i64 0) ∧ W.cell? ⟨wr.heap.size + 1, 6, none⟩ = some (.bool false) ∧ W.cell? ⟨wr.heap.size + 1, 7, none⟩ = some (.bool false) ∧ W.frozen? ⟨wr.heap.size + 1, 4, none⟩ = false ∧ W.cell? ⟨wr.heap.size + 1 + 1, 0, none⟩ = some (.int .u8 20) ∧ W.cell? ⟨wr.heap.size + 1 + 1, 1, none⟩ = some (.int .u16 xv) ∧ W.cell? ⟨wr.heap.size + 1 + 1, 2, none⟩ = some (.int .u16 xn) ∧ W.cell? ⟨wr.heap.size, 1, none⟩ = some (.slice pq 0 cq) ∧ wr.heap.size + 1 + 1 < W.heap.size) ?G (fun y0 hy0 => ?_)
        case G => exact ⟨by have h0 := Below.refl wr.heap.size wr; exact (by repeat (first | with_reducible assumption | with_reducible refine Below.drew ?_ | with_reducible refine below_drewN' ?_ _ | with_reducible refine Below.alloc ?_ ?_ _ | with_reducible refine Below.setCell ?_ ?_ _ | with_reducible exact Nat.le_refl _ | omega | focus (simp; done) | focus (simp; omega))), by go_simp, by go_simp, by go_simp, by go_simp, by go_simp, by go_simp, by go_simp, by go_simp, by go_simp, by go_simp, by go_simp, by go_simp, by go_simp, by first | omega | (simp; done) | (simp; omega)⟩
        obtain ⟨hB0, qy0_0, qy0_1, qy0_2, qy0_3, qy0_4, qy0_5, qy0_6, qy0_7, qy0_f, hy0_0, hy0_1, hy0_2, dy0_1, ly0⟩ := hy0
        have HB0 := Lib.hid hB0
        have ny0_4 := (hB0.cell (p := ⟨gn, on + 4, none⟩) lgnr).trans n4
        have HF0 := Lib.hid (HF.out.below hB0)
        have xy0_c : y0.cell? ⟨X, 2, none⟩ = some (v 0) := by simpa using HF0.out.cells 0 (by omega)
        have xy0_f : y0.frozen? ⟨X, 2, none⟩ = false := HF0.out.froz 2
        have lXy0 : X < y0.heap.size := by omega
        have lgy0 : gn < y0.heap.size := by omega
        have KXHy0 := Lib.hid (Keeps.refl (fun b => b = X ∨ b = wr.heap.size + 1 + 1 ∨ b = wr.heap.size) y0)
        clear hB0 n0 n1 n2 n3 n4 d1
        refine wp_region_on (fun b => b = X ∨ b = wr.heap.size + 1 + 1 ∨ b = wr.heap.size) (fun b hb => by first | omega | (rcases hb with hb | hb <;> omega) | (rcases hb with hb | hb <;> simp <;> omega)) [14] (.q 0 (.q 1 (.q 2 (.q 3 (.q 4 (.q 5 (.q 6 (.l 7 (.q 8 (.q 9 (.l 10 (.l 11 (.q 12 (.q 13 (.l 14 .done .stop))) .stop) .stop))) .stop)))))))) (by kernel_rfl) (by kernel_rfl) (fun _ _ d _ _ h => by cases d <;> exact h) (by simp only [Ord.fill, nthOp]; rfl) ?_; intro hSm
        repeat
          first | refine lexO_pass rfl ?_ | (refine lexO_take2 ?_ rfl (by kernel_rfl) (by with_reducible assumption) (fun w' hS K Q' hK => ?_) ?_; rotate_left; focus (have hS2 := hS.2; clear hS; go_wp2_with fail; exact hK))
        refine lexO_do rfl (fun K hK => ?_) lexO_stop
        go_wp2_with fail
        refine (num8_c (n := 4) (N := 4) (b := gn) (o := on) (m := 5) (c := cn) (x := xm) (by go_simp) (by go_simp) (by go_simp) rfl (by go_simp) (by omega) (by omega) bm (by omega)).mono ?_
        rintro e y1 ⟨rfl, zz1, hw⟩
        have qy1_0 : y1.cell? ⟨wr.heap.size + 1, 0, none⟩ = some (.slice (some ⟨gn, on, none⟩) 5 cn) := by rw [← hw]; clear hw; go_simp
        have qy1_1 : y1.cell? ⟨wr.heap.size + 1, 1, none⟩ = some (.slice none 0 0) := by rw [← hw]; clear hw; go_simp
        have qy1_2 : y1.cell? ⟨wr.heap.size + 1, 2, none⟩ = some (.slice none 0 0) := by rw [← hw]; clear hw; go_simp
        have qy1_3 : y1.cell? ⟨wr.heap.size + 1, 3, none⟩ = some (.slice none 0 0) := by rw [← hw]; clear hw; go_simp
        have qy1_4 : y1.cell? ⟨wr.heap.size + 1, 4, none⟩ = some (.int .i64 5) := by rw [← hw]; clear hw; go_simp
        have qy1_5 : y1.cell? ⟨wr.heap.size + 1, 5, none⟩ = some (.int .i64 0) := by rw [← hw]; clear hw; go_simp
        have qy1_6 : y1.cell? ⟨wr.heap.size + 1, 6, none⟩ = some (.bool false) := by rw [← hw]; clear hw; go_simp
        have qy1_7 : y1.cell? ⟨wr.heap.size + 1, 7, none⟩ = some (.bool false) := by rw [← hw]; clear hw; go_simp
        have qy1_f : y1.frozen? ⟨wr.heap.size + 1, 4, none⟩ = false := by rw [← hw]; clear hw; go_simp
        have hy1_0 : y1.cell? ⟨wr.heap.size + 1 + 1, 0, none⟩ = some (.int .u8 20) := by rw [← hw]; clear hw; go_simp
        have hy1_1 : y1.cell? ⟨wr.heap.size + 1 + 1, 1, none⟩ = some (.int .u16 xv) := by rw [← hw]; clear hw; go_simp
        have hy1_2 : y1.cell? ⟨wr.heap.size + 1 + 1, 2, none⟩ = some (.int .u16 xn) := by rw [← hw]; clear hw; go_simp
        have dy1_1 : y1.cell? ⟨wr.heap.size, 1, none⟩ = some (.slice pq 0 cq) := by rw [← hw]; clear hw; go_simp
        have xy1_c : y1.cell? ⟨X, 2, none⟩ = some (v 0) := by rw [← hw]; clear hw; go_simp
        have xy1_f : y1.frozen? ⟨X, 2, none⟩ = false := by rw [← hw]; clear hw; go_simp
        have HB1 := Lib.hid (show Below wr.heap.size wr y1 from by rw [← hw]; clear hw; have h0 := HB0.out; exact (by repeat (first | with_reducible assumption | with_reducible refine Below.drew ?_ | with_reducible refine below_drewN' ?_ _ | with_reducible refine Below.alloc ?_ ?_ _ | with_reducible refine Below.setCell ?_ ?_ _ | with_reducible exact Nat.le_refl _ | omega | focus (simp; done) | focus (simp; omega))))
        have KXHy1 := Lib.hid (show Keeps (fun b => b = X ∨ b = wr.heap.size + 1 + 1 ∨ b = wr.heap.size) y0 y1 from by rw [← hw]; clear hw; have h0 := KXHy0.out; exact (by repeat (first | with_reducible assumption | with_reducible exact Keeps.refl _ _ | with_reducible refine Keeps.drew ?_ | with_reducible refine Keeps.drewN ?_ _ | with_reducible refine Keeps.alloc ?_ _ | with_reducible refine Keeps.setCell ?_ ?_ _ | omega | focus (simp; done) | focus (simp; omega))))
        have ly1 : wr.heap.size + 1 + 1 < y1.heap.size := World.block_lt_of_cell? _ _ hy1_0
        have lXy1 : X < y1.heap.size := by omega
        have lgy1 : gn < y1.heap.size := by omega
        clear hw qy0_0 qy0_1 qy0_2 qy0_3 qy0_4 qy0_5 qy0_6 qy0_7 qy0_f ny0_4 hy0_0 hy0_1 hy0_2 xy0_c xy0_f dy0_1
        go_wp2_with fail
        first | refine step_and (SameOn.keeps (SameOn.refl (fun b hb => by omega)) KXHy1.out (fun b hb => hb)) (fun _ => ?_) | (have hSA := SameOn.keeps (SameOn.refl (ok := fun b => b = X ∨ b = wr.heap.size + 1 + 1 ∨ b = wr.heap.size) (W := y0) (fun b hb => by omega)) KXHy1.out (fun b hb => hb); refine ⟨hSA, ?_⟩)
        repeat
          first | refine lexO_pass rfl ?_ | (refine lexO_take2 ?_ rfl (by kernel_rfl) (by with_reducible assumption) (fun w' hS K Q' hK => ?_) ?_; rotate_left; focus (have hS2 := hS.2; clear hS; go_wp2_with fail; exact hK))
        refine lexO_do rfl (fun K hK => ?_) lexO_stop
        go_wp2_with fail
        have hSB : SameOn (fun b => b = X ∨ b = wr.heap.size + 1 + 1 ∨ b = wr.heap.size) y0 _ := SameOn.alloc (SameOn.keeps (SameOn.refl (fun b hb => by omega)) KXHy1.out (fun b hb => hb)) (.cells #[.int .u8 20, .int .u16 xv, .int .u16 xn, .int .u8 xm] 157)
        first | refine step_and hSB (fun _ => ?_) | refine ⟨hSB, ?_⟩
        repeat
          first | refine lexO_pass rfl ?_ | (refine lexO_take2 ?_ rfl (by kernel_rfl) (by with_reducible assumption) (fun w' hS K Q' hK => ?_) ?_; rotate_left; focus (have hS2 := hS.2; clear hS; go_wp2_with fail; exact hK))
        refine lexO_do rfl (fun K hK => ?_) lexO_stop
        refine wp_append_all (E := eT 0) (.tmp 597) (.tmp 603) 145 157 _ 8 rfl Tryz.underlying145 infoCcs rfl (by decide) (by decide) (v := v 0) rfl (((HF.out.below HB1.out).below (show Below y1.heap.size y1 _ from by have h0 := Below.refl y1.heap.size y1; exact (by repeat (first | with_reducible assumption | with_reducible refine Below.drew ?_ | with_reducible refine below_drewN' ?_ _ | with_reducible refine Below.alloc ?_ ?_ _ | with_reducible refine Below.setCell ?_ ?_ _ | with_reducible exact Nat.le_refl _ | omega | focus (simp; done) | focus (simp; omega))))).row (i := 0) (by omega)) rfl (cs := [Value.int .u8 20, .int .u16 xv, .int .u16 xn, .int .u8 xm]) (y := ([0, 20, xv, xn, xm], ([] : List Int))) ?hcells ?hrep (by have := sel_le 0 (ps.take k); rw [List.length_take] at this; omega) (by first | omega | (simp; omega)) (fun q' c2 w5 hr5 hg5 ha5 => hK _ _ ?_)
        case hcells =>
          intro j u hu
          rcases j with _ | _ | _ | _ | j
          · simp at hu; subst hu; go_simp
          · simp at hu; subst hu; go_simp
          · simp at hu; subst hu; go_simp
          · simp at hu; subst hu; go_simp
          · simp at hu
        case hrep => exact ⟨_, _, _, rfl, rfl, by omega, by omega, by omega⟩
        have hk5 := grown_keeps (N := w4.heap.size) hg5 (fun k hk => (HF.out.own (i := 0) (by omega) hk).1)
        have hX5 : w5.cell? ⟨X, 2, none⟩ = some (v 0) := hk5.cell lX4 (by go_simp)
        have hXf5 : w5.frozen? ⟨X, 2, none⟩ = false := hk5.frozen lX4 (by first | omega | (simp; omega)) (by go_simp)
        have lX5 : X < w5.heap.size := World.block_lt_of_cell? _ _ hX5
        have hkQ : Keeps (fun b => b = X ∨ (wr.heap.size ≤ b ∧ b < y1.heap.size)) y1 w5 := ⟨by have := hg5.size; simp at this; omega, fun b hb hl => (hg5.block b (by simp; omega) (fun he => by have := HF.out.own (i := 0) (by omega) he.symm; rcases hb with hb | hb <;> omega)).trans (Below.heap_alloc _ _ _ hl)⟩
        have hSC := SameOn.keeps (SameOn.keeps (SameOn.refl (ok := fun b => b = X ∨ b = wr.heap.size + 1 + 1 ∨ b = wr.heap.size) (W := y0) (fun b hb => by omega)) KXHy1.out (fun b hb => hb)) hkQ (fun b hb => by rcases hb with hb | hb | hb; exact .inl hb; exact .inr ⟨by omega, by omega⟩; exact .inr ⟨by omega, by omega⟩)
        first | refine step_and hSC (fun _ => ?_) | refine ⟨hSC, ?_⟩
        have H6 := Lib.hid (((HF.out.below HB1.out).below (show Below y1.heap.size y1 _ from by have h0 := Below.refl y1.heap.size y1; exact (by repeat (first | with_reducible assumption | with_reducible refine Below.drew ?_ | with_reducible refine below_drewN' ?_ _ | with_reducible refine Below.alloc ?_ ?_ _ | with_reducible refine Below.setCell ?_ ?_ _ | with_reducible exact Nat.le_refl _ | omega | focus (simp; done) | focus (simp; omega))))).step (fun b hb => by omega) (i := 0) (by omega) hr5 hg5 ha5)
        have HB6 := Lib.hid (show Below X w4 w5 from ((HBX.out.trans (HB1.out.mono (by omega))).trans (show Below X y1 _ from by have h0 := Below.refl X y1; exact (by repeat (first | with_reducible assumption | with_reducible refine Below.drew ?_ | with_reducible refine below_drewN' ?_ _ | with_reducible refine Below.alloc ?_ ?_ _ | with_reducible refine Below.setCell ?_ ?_ _ | with_reducible exact Nat.le_refl _ | omega | focus (simp; done) | focus (simp; omega))))).grown hg5 (by simp; omega) (fun k hk => by have := (HF.out.own (i := 0) (by omega) hk).1; omega))
        have r0 := hkQ.cell (.inr ⟨by omega, by omega⟩) qy1_0
        have r1 := hkQ.cell (.inr ⟨by omega, by omega⟩) qy1_1
        have r2 := hkQ.cell (.inr ⟨by omega, by omega⟩) qy1_2
        have r3 := hkQ.cell (.inr ⟨by omega, by omega⟩) qy1_3
        have r4 := hkQ.cell (.inr ⟨by omega, by omega⟩) qy1_4
        have r5 := hkQ.cell (.inr ⟨by omega, by omega⟩) qy1_5
        have r6 := hkQ.cell (.inr ⟨by omega, by omega⟩) qy1_6
        have r7 := hkQ.cell (.inr ⟨by omega, by omega⟩) qy1_7
        have rd := hkQ.cell (.inr ⟨by omega, by omega⟩) dy1_1
        have lQ5 : wr.heap.size + 1 < w5.heap.size := World.block_lt_of_cell? _ _ r0
        clear hr5 hg5 ha5 hSC hkQ
        repeat
          first | refine lexO_pass rfl ?_ | (refine lexO_take2 ?_ rfl (by kernel_rfl) (by with_reducible assumption) (fun w' hS K Q' hK => ?_) ?_; rotate_left; focus (have hS2 := hS.2; clear hS; go_wp2_with fail; exact hK))
        refine lexO_do rfl (fun K hK => ?_) lexO_stop
        go_wp2_with fail
        first | refine step_last (by decide) (lexO_done ?_) | refine lexO_done ?_
        go_wp2_with fail
        refine (took_c (n1 := 5) (n2 := 0) (n3 := 0) (p1 := some ⟨gn, on, none⟩) (m1 := cn) (p2 := none) (m2 := 0) (p3 := none) (m3 := 0) (ls := false) (by go_simp) (by go_simp) (by go_simp) (by go_simp) (by go_simp) (by go_simp) (by go_simp) rfl rfl (.inr rfl)).mono ?_
        rintro e w9 ⟨rfl, qq, hw⟩
        have H9 := Lib.hid (show Four eT tT 2 w9 X w4.heap.size (fun b => w4.heap.size ≤ b) _ _ from by rw [← hw]; exact H6.out.below (show Below _ _ _ from ⟨rfl, rfl, rfl, Nat.le_refl _, fun _ _ => rfl⟩))
        have HB9 := Lib.hid (show Below X w4 w9 from by rw [← hw]; exact Below.drewN (HB6.out.setCell (Nat.le_refl _) _) qq)
        have rd9 : w9.cell? ⟨wr.heap.size, 1, none⟩ = some (.slice pq 0 cq) := by rw [← hw]; clear hw; go_simp
        have lP9 : wr.heap.size < w9.heap.size := World.block_lt_of_cell? _ _ rd9
        clear hw r0 r1 r2 r3 r4 r5 r6 r7 rd H6 HB6 hX5 hXf5 lX5 lQ5
        go_wp2_with fail
        go_roundw
        case rel => exact ⟨k + 1, HK1.out, by go_num, _, Lib.hid (H9.out.ext2 (fun j => sel_upd HQG.out (i := 0) rfl j)), HB9⟩
        case measure => have := HK1.out; simp [intOf]; omega
      · obtain ⟨gn, on, cn, rfl, lgn, hnc⟩ := hs1.cellsN (n := 4) rfl (by decide)
        obtain ⟨pq, cq, rfl⟩ := hs2.form
        have n0 := hkeep.cell (b := gn) lgn (hnc 0 _ rfl)
        have n1 := hkeep.cell (b := gn) lgn (hnc 1 _ rfl)
        have n2 := hkeep.cell (b := gn) lgn (hnc 2 _ rfl)
        have n3 := hkeep.cell (b := gn) lgn (hnc 3 _ rfl)
        rw [Nat.add_zero] at n0
        have HDD := Lib.hid ((hs2.imp (fun b hb _ => hb : ∀ b, b < w.heap.size → True → b < w.heap.size)).keeps hkeep)
        have lgnr : gn < wr.heap.size := by omega
        have d1 : wr.cell? ⟨gI, oI + k * 2 + 1, none⟩ = some (.slice pq xd.length cq) := hc2'
        clear hs1 hs2 hnc hc2' hc1 hc2 hkeep hq
        go_wp2_with fail
        refine (num8_c (n := 0) (N := 0) (b := gn) (o := on) (m := 4) (c := cn) (x := 2) (by go_simp) (by go_simp) (by go_simp) rfl (by go_simp) (by omega) (by omega) (by omega) (by omega)).mono ?_
        rintro e w' ⟨rfl, z0, rfl⟩
        go_wp2_with fail
        refine (num8_c (n := 1) (N := 1) (b := gn) (o := on) (m := 4) (c := cn) (x := 23) (by go_simp) (by go_simp) (by go_simp) rfl (by go_simp) (by omega) (by omega) (by omega) (by omega)).mono ?_
        rintro e w' ⟨rfl, z1, rfl⟩
        go_wp2_with fail
        refine (num16_c (n := 2) (N := 2) (b := gn) (o := on) (m := 4) (c := cn) (x := xv) (by go_simp) (by go_simp) (by go_simp) rfl (by go_simp) (by omega) (by omega) bv (by omega)).mono ?_
        rintro e w' ⟨rfl, z2, rfl⟩
        go_wp2_with fail
        refine (num16_c (n := 3) (N := 3) (b := gn) (o := on) (m := 4) (c := cn) (x := xn) (by go_simp) (by go_simp) (by go_simp) rfl (by go_simp) (by omega) (by omega) bn (by omega)).mono ?_
        rintro e w' ⟨rfl, z3, rfl⟩
        go_wp2_with fail
        refine wp_gen (fun W => Below wr.heap.size wr W ∧ W.cell? ⟨wr.heap.size + 1, 0, none⟩ = some (.slice (some ⟨gn, on, none⟩) 4 cn) ∧ W.cell? ⟨wr.heap.size + 1, 1, none⟩ = some (.slice none 0 0) ∧ W.cell? ⟨wr.heap.size + 1, 2, none⟩ = some (.slice none 0 0) ∧ W.cell? ⟨wr.heap.size + 1, 3, none⟩ = some (.slice none 0 0) ∧ W.cell? ⟨wr.heap.size + 1, 4, none⟩ = some (.int .i64 4) ∧ W.cell? ⟨wr.heap.size + 1, 5, none⟩ = some (.int .i64 0) ∧ W.cell? ⟨wr.heap.size + 1, 6, none⟩ = some (.bool false) ∧ W.cell? ⟨wr.heap.size + 1, 7, none⟩ = some (.bool false) ∧ W.frozen? ⟨wr.heap.size + 1, 4, none⟩ = false ∧ W.cell? ⟨wr.heap.size + 1 + 1, 0, none⟩ = some (.int .u8 23) ∧ W.cell? ⟨wr.heap.size + 1 + 1, 1, none⟩ = some (.int .u16 xv) ∧ W.cell? ⟨wr.heap.size + 1 + 1, 2, none⟩ = some (.int .u16 xn) ∧ W.cell? ⟨wr.heap.size, 1, none⟩ = some (.slice pq xd.length cq) ∧ wr.heap.size + 1 + 1 < W.heap.size) ?G (fun y0 hy0 => ?_)
        case G => exact ⟨by have h0 := Below.refl wr.heap.size wr; exact (by repeat (first | with_reducible assumption | with_reducible refine Below.drew ?_ | with_reducible refine below_drewN' ?_ _ | with_reducible refine Below.alloc ?_ ?_ _ | with_reducible refine Below.setCell ?_ ?_ _ | with_reducible exact Nat.le_refl _ | omega | focus (simp; done) | focus (simp; omega))), by go_simp, by go_simp, by go_simp, by go_simp, by go_simp, by go_simp, by go_simp, by go_simp, by go_simp, by go_simp, by go_simp, by go_simp, by go_simp, by first | omega | (simp; done) | (simp; omega)⟩
        obtain ⟨hB0, qy0_0, qy0_1, qy0_2, qy0_3, qy0_4, qy0_5, qy0_6, qy0_7, qy0_f, hy0_0, hy0_1, hy0_2, dy0_1, ly0⟩ := hy0
        have HB0 := Lib.hid hB0
        have HF0 := Lib.hid (HF.out.below hB0)
        have xy0_c : y0.cell? ⟨X, 4, none⟩ = some (v 2) := by simpa using HF0.out.cells 2 (by omega)
        have xy0_f : y0.frozen? ⟨X, 4, none⟩ = false := HF0.out.froz 4
        have lXy0 : X < y0.heap.size := by omega
        have lgy0 : gn < y0.heap.size := by omega
        have KXHy0 := Lib.hid (Keeps.refl (fun b => b = X ∨ b = wr.heap.size + 1 + 1 ∨ b = wr.heap.size) y0)
        clear hB0 n0 n1 n2 n3 d1
        refine wp_region_on (fun b => b = X ∨ b = wr.heap.size + 1 + 1 ∨ b = wr.heap.size) (fun b hb => by first | omega | (rcases hb with hb | hb <;> omega) | (rcases hb with hb | hb <;> simp <;> omega)) [14] (.q 0 (.q 1 (.q 2 (.q 3 (.q 4 (.q 5 (.q 6 (.q 7 (.l 8 (.q 9 (.l 10 (.l 11 (.q 12 (.q 13 (.l 14 .done .stop))) .stop) .stop)) .stop))))))))) (by kernel_rfl) (by kernel_rfl) (fun _ _ d _ _ h => by cases d <;> exact h) (by simp only [Ord.fill, nthOp]; rfl) ?_; intro hSm
        repeat
          first | refine lexO_pass rfl ?_ | (refine lexO_take2 ?_ rfl (by kernel_rfl) (by with_reducible assumption) (fun w' hS K Q' hK => ?_) ?_; rotate_left; focus (have hS2 := hS.2; clear hS; go_wp2_with fail; exact hK))
        refine lexO_do rfl (fun K hK => ?_) lexO_stop
        go_wp2_with fail
        refine (clone_c (HDD.out.keeps (Keeps.trans (Keeps.of_below HB0.out) (by repeat (first | with_reducible assumption | with_reducible exact Keeps.refl _ _ | with_reducible refine Keeps.drew ?_ | with_reducible refine Keeps.drewN ?_ _ | with_reducible refine Keeps.alloc ?_ _ | with_reducible refine Keeps.setCell ?_ ?_ _ | omega | focus (simp; done) | focus (simp; omega))))) (by omega)).mono ?_
        rintro e y1 ⟨q3, cq3, rfl, hq3, hb3⟩
        have qy1_0 : y1.cell? ⟨wr.heap.size + 1, 0, none⟩ = some (.slice (some ⟨gn, on, none⟩) 4 cn) := (hb3.cell (p := ⟨wr.heap.size + 1, 0, none⟩) (by first | omega | (simp; done) | (simp; omega))).trans (by go_simp)
        have qy1_1 : y1.cell? ⟨wr.heap.size + 1, 1, none⟩ = some (.slice none 0 0) := (hb3.cell (p := ⟨wr.heap.size + 1, 1, none⟩) (by first | omega | (simp; done) | (simp; omega))).trans (by go_simp)
        have qy1_2 : y1.cell? ⟨wr.heap.size + 1, 2, none⟩ = some (.slice none 0 0) := (hb3.cell (p := ⟨wr.heap.size + 1, 2, none⟩) (by first | omega | (simp; done) | (simp; omega))).trans (by go_simp)
        have qy1_3 : y1.cell? ⟨wr.heap.size + 1, 3, none⟩ = some (.slice none 0 0) := (hb3.cell (p := ⟨wr.heap.size + 1, 3, none⟩) (by first | omega | (simp; done) | (simp; omega))).trans (by go_simp)
        have qy1_4 : y1.cell? ⟨wr.heap.size + 1, 4, none⟩ = some (.int .i64 4) := (hb3.cell (p := ⟨wr.heap.size + 1, 4, none⟩) (by first | omega | (simp; done) | (simp; omega))).trans (by go_simp)
        have qy1_5 : y1.cell? ⟨wr.heap.size + 1, 5, none⟩ = some (.int .i64 0) := (hb3.cell (p := ⟨wr.heap.size + 1, 5, none⟩) (by first | omega | (simp; done) | (simp; omega))).trans (by go_simp)
        have qy1_6 : y1.cell? ⟨wr.heap.size + 1, 6, none⟩ = some (.bool false) := (hb3.cell (p := ⟨wr.heap.size + 1, 6, none⟩) (by first | omega | (simp; done) | (simp; omega))).trans (by go_simp)
        have qy1_7 : y1.cell? ⟨wr.heap.size + 1, 7, none⟩ = some (.bool false) := (hb3.cell (p := ⟨wr.heap.size + 1, 7, none⟩) (by first | omega | (simp; done) | (simp; omega))).trans (by go_simp)
        have qy1_f : y1.frozen? ⟨wr.heap.size + 1, 4, none⟩ = false := (hb3.frozen (p := ⟨wr.heap.size + 1, 4, none⟩) (by first | omega | (simp; done) | (simp; omega))).trans (by go_simp)
        have hy1_0 : y1.cell? ⟨wr.heap.size + 1 + 1, 0, none⟩ = some (.int .u8 23) := (hb3.cell (p := ⟨wr.heap.size + 1 + 1, 0, none⟩) (by first | omega | (simp; done) | (simp; omega))).trans (by go_simp)
        have hy1_1 : y1.cell? ⟨wr.heap.size + 1 + 1, 1, none⟩ = some (.int .u16 xv) := (hb3.cell (p := ⟨wr.heap.size + 1 + 1, 1, none⟩) (by first | omega | (simp; done) | (simp; omega))).trans (by go_simp)
        have hy1_2 : y1.cell? ⟨wr.heap.size + 1 + 1, 2, none⟩ = some (.int .u16 xn) := (hb3.cell (p := ⟨wr.heap.size + 1 + 1, 2, none⟩) (by first | omega | (simp; done) | (simp; omega))).trans (by go_simp)
        have dy1_1 : y1.cell? ⟨wr.heap.size, 1, none⟩ = some (.slice pq xd.length cq) := (hb3.cell (p := ⟨wr.heap.size, 1, none⟩) (by first | omega | (simp; done) | (simp; omega))).trans (by go_simp)
        have xy1_c : y1.cell? ⟨X, 4, none⟩ = some (v 2) := (hb3.cell (p := ⟨X, 4, none⟩) (by first | omega | (simp; done) | (simp; omega))).trans (by go_simp)
        have xy1_f : y1.frozen? ⟨X, 4, none⟩ = false := (hb3.frozen (p := ⟨X, 4, none⟩) (by first | omega | (simp; done) | (simp; omega))).trans (by go_simp)
        have HB1 := Lib.hid (show Below wr.heap.size wr y1 from Below.trans (by have h0 := HB0.out; exact (by repeat (first | with_reducible assumption | with_reducible refine Below.drew ?_ | with_reducible refine below_drewN' ?_ _ | with_reducible refine Below.alloc ?_ ?_ _ | with_reducible refine Below.setCell ?_ ?_ _ | with_reducible exact Nat.le_refl _ | omega | focus (simp; done) | focus (simp; omega)))) (hb3.mono (by first | omega | (simp; done) | (simp; omega))))
        have HQC := Lib.hid (show SB y1 (fun b => wr.heap.size ≤ b ∧ b < y1.heap.size) (.slice q3 xd.length cq3) xd from hq3.imp (fun b hl hb => ⟨by first | omega | (simp at hb; omega), hl⟩))
        have KXHy1 := Lib.hid (show Keeps (fun b => b = X ∨ b = wr.heap.size + 1 + 1 ∨ b = wr.heap.size) y0 y1 from Keeps.trans (by have h0 := KXHy0.out; exact (by repeat (first | with_reducible assumption | with_reducible exact Keeps.refl _ _ | with_reducible refine Keeps.drew ?_ | with_reducible refine Keeps.drewN ?_ _ | with_reducible refine Keeps.alloc ?_ _ | with_reducible refine Keeps.setCell ?_ ?_ _ | omega | focus (simp; done) | focus (simp; omega)))) (Keeps.of_below (hb3.mono (by simp))))
        have ly1 : wr.heap.size + 1 + 1 < y1.heap.size := World.block_lt_of_cell? _ _ hy1_0
        have lXy1 : X < y1.heap.size := by omega
        clear hq3 hb3 qy0_0 qy0_1 qy0_2 qy0_3 qy0_4 qy0_5 qy0_6 qy0_7 qy0_f hy0_0 hy0_1 hy0_2 xy0_c xy0_f dy0_1
        go_wp2_with fail
        first | refine step_and (SameOn.keeps (SameOn.refl (fun b hb => by omega)) KXHy1.out (fun b hb => hb)) (fun _ => ?_) | (have hSA := SameOn.keeps (SameOn.refl (ok := fun b => b = X ∨ b = wr.heap.size + 1 + 1 ∨ b = wr.heap.size) (W := y0) (fun b hb => by omega)) KXHy1.out (fun b hb => hb); refine ⟨hSA, ?_⟩)
        repeat
          first | refine lexO_pass rfl ?_ | (refine lexO_take2 ?_ rfl (by kernel_rfl) (by with_reducible assumption) (fun w' hS K Q' hK => ?_) ?_; rotate_left; focus (have hS2 := hS.2; clear hS; go_wp2_with fail; exact hK))
        refine lexO_do rfl (fun K hK => ?_) lexO_stop
        go_wp2_with fail
        have hSB : SameOn (fun b => b = X ∨ b = wr.heap.size + 1 + 1 ∨ b = wr.heap.size) y0 _ := SameOn.alloc (SameOn.keeps (SameOn.refl (fun b hb => by omega)) KXHy1.out (fun b hb => hb)) (.cells #[.int .u8 23, .int .u16 xv, .int .u16 xn, .slice q3 xd.length cq3] 161)
        first | refine step_and hSB (fun _ => ?_) | refine ⟨hSB, ?_⟩
        repeat
          first | refine lexO_pass rfl ?_ | (refine lexO_take2 ?_ rfl (by kernel_rfl) (by with_reducible assumption) (fun w' hS K Q' hK => ?_) ?_; rotate_left; focus (have hS2 := hS.2; clear hS; go_wp2_with fail; exact hK))
        refine lexO_do rfl (fun K hK => ?_) lexO_stop
        refine wp_append_all (E := eT 2) (.tmp 626) (.tmp 632) 147 161 _ 32 rfl Tryz.underlying147 infoApp rfl (by decide) (by decide) (v := v 2) rfl (((HF.out.below HB1.out).below (show Below y1.heap.size y1 _ from by have h0 := Below.refl y1.heap.size y1; exact (by repeat (first | with_reducible assumption | with_reducible refine Below.drew ?_ | with_reducible refine below_drewN' ?_ _ | with_reducible refine Below.alloc ?_ ?_ _ | with_reducible refine Below.setCell ?_ ?_ _ | with_reducible exact Nat.le_refl _ | omega | focus (simp; done) | focus (simp; omega))))).row (i := 2) (by omega)) rfl (cs := [Value.int .u8 23, .int .u16 xv, .int .u16 xn, .slice q3 xd.length cq3]) (y := ([2, 23, xv, xn], xd)) ?hcells ?hrep (by have := sel_le 2 (ps.take k); rw [List.length_take] at this; omega) (by first | omega | (simp; omega)) (fun q' c2 w5 hr5 hg5 ha5 => hK _ _ ?_)
        case hcells =>
          intro j u hu
          rcases j with _ | _ | _ | _ | j
          · simp at hu; subst hu; go_simp
          · simp at hu; subst hu; go_simp
          · simp at hu; subst hu; go_simp
          · simp at hu; subst hu; go_simp
          · simp at hu
        case hrep => exact ⟨_, _, _, _, rfl, rfl, (HQC.out.keeps (w' := y1.alloc _) (by repeat (first | with_reducible assumption | with_reducible exact Keeps.refl _ _ | with_reducible refine Keeps.drew ?_ | with_reducible refine Keeps.drewN ?_ _ | with_reducible refine Keeps.alloc ?_ _ | with_reducible refine Keeps.setCell ?_ ?_ _ | omega | focus (simp; done) | focus (simp; omega)))).imp (fun b hl hb => ⟨⟨⟨by omega, fun j hj e => by have := HF.out.own hj e; omega⟩, by simp; omega⟩, fun e => by have := HF.out.own (i := 2) (by omega) e.symm; omega⟩), by omega, by omega, by omega⟩
        have hk5 := grown_keeps (N := w4.heap.size) hg5 (fun k hk => (HF.out.own (i := 2) (by omega) hk).1)
        have hX5 : w5.cell? ⟨X, 4, none⟩ = some (v 2) := hk5.cell lX4 (by go_simp)
        have hXf5 : w5.frozen? ⟨X, 4, none⟩ = false := hk5.frozen lX4 (by first | omega | (simp; omega)) (by go_simp)
        have lX5 : X < w5.heap.size := World.block_lt_of_cell? _ _ hX5
        have hkQ : Keeps (fun b => b = X ∨ (wr.heap.size ≤ b ∧ b < y1.heap.size)) y1 w5 := ⟨by have := hg5.size; simp at this; omega, fun b hb hl => (hg5.block b (by simp; omega) (fun he => by have := HF.out.own (i := 2) (by omega) he.symm; rcases hb with hb | hb <;> omega)).trans (Below.heap_alloc _ _ _ hl)⟩
        have hSC := SameOn.keeps (SameOn.keeps (SameOn.refl (ok := fun b => b = X ∨ b = wr.heap.size + 1 + 1 ∨ b = wr.heap.size) (W := y0) (fun b hb => by omega)) KXHy1.out (fun b hb => hb)) hkQ (fun b hb => by rcases hb with hb | hb | hb; exact .inl hb; exact .inr ⟨by omega, by omega⟩; exact .inr ⟨by omega, by omega⟩)
        first | refine step_and hSC (fun _ => ?_) | refine ⟨hSC, ?_⟩
        have H6 := Lib.hid (((HF.out.below HB1.out).below (show Below y1.heap.size y1 _ from by have h0 := Below.refl y1.heap.size y1; exact (by repeat (first | with_reducible assumption | with_reducible refine Below.drew ?_ | with_reducible refine below_drewN' ?_ _ | with_reducible refine Below.alloc ?_ ?_ _ | with_reducible refine Below.setCell ?_ ?_ _ | with_reducible exact Nat.le_refl _ | omega | focus (simp; done) | focus (simp; omega))))).step (fun b hb => by omega) (i := 2) (by omega) hr5 hg5 ha5)
        have HB6 := Lib.hid (show Below X w4 w5 from ((HBX.out.trans (HB1.out.mono (by omega))).trans (show Below X y1 _ from by have h0 := Below.refl X y1; exact (by repeat (first | with_reducible assumption | with_reducible refine Below.drew ?_ | with_reducible refine below_drewN' ?_ _ | with_reducible refine Below.alloc ?_ ?_ _ | with_reducible refine Below.setCell ?_ ?_ _ | with_reducible exact Nat.le_refl _ | omega | focus (simp; done) | focus (simp; omega))))).grown hg5 (by simp; omega) (fun k hk => by have := (HF.out.own (i := 2) (by omega) hk).1; omega))
        have r0 := hkQ.cell (.inr ⟨by omega, by omega⟩) qy1_0
        have r1 := hkQ.cell (.inr ⟨by omega, by omega⟩) qy1_1
        have r2 := hkQ.cell (.inr ⟨by omega, by omega⟩) qy1_2
        have r3 := hkQ.cell (.inr ⟨by omega, by omega⟩) qy1_3
        have r4 := hkQ.cell (.inr ⟨by omega, by omega⟩) qy1_4
        have r5 := hkQ.cell (.inr ⟨by omega, by omega⟩) qy1_5
        have r6 := hkQ.cell (.inr ⟨by omega, by omega⟩) qy1_6
        have r7 := hkQ.cell (.inr ⟨by omega, by omega⟩) qy1_7
        have rd := hkQ.cell (.inr ⟨by omega, by omega⟩) dy1_1
        have lQ5 : wr.heap.size + 1 < w5.heap.size := World.block_lt_of_cell? _ _ r0
        clear hr5 hg5 ha5 hSC hkQ
        repeat
          first | refine lexO_pass rfl ?_ | (refine lexO_take2 ?_ rfl (by kernel_rfl) (by with_reducible assumption) (fun w' hS K Q' hK => ?_) ?_; rotate_left; focus (have hS2 := hS.2; clear hS; go_wp2_with fail; exact hK))
        refine lexO_do rfl (fun K hK => ?_) lexO_stop
        go_wp2_with fail
        first | refine step_last (by decide) (lexO_done ?_) | refine lexO_done ?_
        go_wp2_with fail
        refine (took_c (n1 := 4) (n2 := 0) (n3 := 0) (p1 := some ⟨gn, on, none⟩) (m1 := cn) (p2 := none) (m2 := 0) (p3 := none) (m3 := 0) (ls := false) (by go_simp) (by go_simp) (by go_simp) (by go_simp) (by go_simp) (by go_simp) (by go_simp) rfl rfl (.inr rfl)).mono ?_
        rintro e w9 ⟨rfl, qq, hw⟩
        have H9 := Lib.hid (show Four eT tT 2 w9 X w4.heap.size (fun b => w4.heap.size ≤ b) _ _ from by rw [← hw]; exact H6.out.below (show Below _ _ _ from ⟨rfl, rfl, rfl, Nat.le_refl _, fun _ _ => rfl⟩))
        have HB9 := Lib.hid (show Below X w4 w9 from by rw [← hw]; exact Below.drewN (HB6.out.setCell (Nat.le_refl _) _) qq)
        have rd9 : w9.cell? ⟨wr.heap.size, 1, none⟩ = some (.slice pq xd.length cq) := by rw [← hw]; clear hw; go_simp
        have lP9 : wr.heap.size < w9.heap.size := World.block_lt_of_cell? _ _ rd9
        clear hw r0 r1 r2 r3 r4 r5 r6 r7 rd H6 HB6 hX5 hXf5 lX5 lQ5
        go_wp2_with fail
        go_roundw
        case rel => exact ⟨k + 1, HK1.out, by go_num, _, Lib.hid (H9.out.ext2 (fun j => sel_upd HQG.out (i := 2) rfl j)), HB9⟩
        case measure => have := HK1.out; simp [intOf]; omega
      · obtain ⟨gn, on, cn, rfl, lgn, hnc⟩ := hs1.cellsN (n := 6) rfl (by decide)
        obtain ⟨pq, cq, rfl⟩ := hs2.form
        have n0 := hkeep.cell (b := gn) lgn (hnc 0 _ rfl)
        have n1 := hkeep.cell (b := gn) lgn (hnc 1 _ rfl)
        have n2 := hkeep.cell (b := gn) lgn (hnc 2 _ rfl)
        have n3 := hkeep.cell (b := gn) lgn (hnc 3 _ rfl)
        have n4 := hkeep.cell (b := gn) lgn (hnc 4 _ rfl)
        have n5 := hkeep.cell (b := gn) lgn (hnc 5 _ rfl)
        rw [Nat.add_zero] at n0
        have HDD := Lib.hid ((hs2.imp (fun b hb _ => hb : ∀ b, b < w.heap.size → True → b < w.heap.size)).keeps hkeep)
        have lgnr : gn < wr.heap.size := by omega
        have d1 : wr.cell? ⟨gI, oI + k * 2 + 1, none⟩ = some (.slice pq 0 cq) := hc2'
        clear hs1 hs2 hnc hc2' hc1 hc2 hkeep hq
        go_wp2_with fail
        refine (num8_c (n := 0) (N := 0) (b := gn) (o := on) (m := 6) (c := cn) (x := 3) (by go_simp) (by go_simp) (by go_simp) rfl (by go_simp) (by omega) (by omega) (by omega) (by omega)).mono ?_
        rintro e w' ⟨rfl, z0, rfl⟩
        go_wp2_with fail
        refine (num8_c (n := 1) (N := 1) (b := gn) (o := on) (m := 6) (c := cn) (x := 21) (by go_simp) (by go_simp) (by go_simp) rfl (by go_simp) (by omega) (by omega) (by omega) (by omega)).mono ?_
        rintro e w' ⟨rfl, z1, rfl⟩
        go_wp2_with fail
        refine (num16_c (n := 2) (N := 2) (b := gn) (o := on) (m := 6) (c := cn) (x := xv) (by go_simp) (by go_simp) (by go_simp) rfl (by go_simp) (by omega) (by omega) bv (by omega)).mono ?_
        rintro e w' ⟨rfl, z2, rfl⟩
        go_wp2_with fail
        refine (num16_c (n := 3) (N := 3) (b := gn) (o := on) (m := 6) (c := cn) (x := xn) (by go_simp) (by go_simp) (by go_simp) rfl (by go_simp) (by omega) (by omega) bn (by omega)).mono ?_
        rintro e w' ⟨rfl, z3, rfl⟩
        go_wp2_with fail
        refine wp_gen (fun W => Below wr.heap.size wr W ∧ W.cell? ⟨wr.heap.size + 1, 0, none⟩ = some (.slice (some ⟨gn, on, none⟩) 6 cn) ∧ W.cell? ⟨wr.heap.size + 1, 1, none⟩ = some (.slice none 0 0) ∧ W.cell? ⟨wr.heap.size + 1, 2, none⟩ = some (.slice none 0 0) ∧ W.cell? ⟨wr.heap.size + 1, 3, none⟩ = some (.slice none 0 0) ∧ W.cell? ⟨wr.heap.size + 1, 4, none⟩ = some (.int .i64 4) ∧ W.cell? ⟨wr.heap.size + 1, 5, none⟩ = some (.int .i64 0) ∧ W.cell? ⟨wr.heap.size + 1, 6, none⟩ = some (.bool false) ∧ W.cell? ⟨wr.heap.size + 1, 7, none⟩ = some (.bool false) ∧ W.frozen? ⟨wr.heap.size + 1, 4, none⟩ = false ∧ W.cell? ⟨wr.heap.size + 1 + 1, 0, none⟩ = some (.int .u8 21) ∧ W.cell? ⟨wr.heap.size + 1 + 1, 1, none⟩ = some (.int .u16 xv) ∧ W.cell? ⟨wr.heap.size + 1 + 1, 2, none⟩ = some (.int .u16 xn) ∧ W.cell? ⟨wr.heap.size, 1, none⟩ = some (.slice pq 0 cq) ∧ wr.heap.size + 1 + 1 < W.heap.size) ?G (fun y0 hy0 => ?_)
        case G => exact ⟨by have h0 := Below.refl wr.heap.size wr; exact (by repeat (first | with_reducible assumption | with_reducible refine Below.drew ?_ | with_reducible refine below_drewN' ?_ _ | with_reducible refine Below.alloc ?_ ?_ _ | with_reducible refine Below.setCell ?_ ?_ _ | with_reducible exact Nat.le_refl _ | omega | focus (simp; done) | focus (simp; omega))), by go_simp, by go_simp, by go_simp, by go_simp, by go_simp, by go_simp, by go_simp, by go_simp, by go_simp, by go_simp, by go_simp, by go_simp, by go_simp, by first | omega | (simp; done) | (simp; omega)⟩
        obtain ⟨hB0, qy0_0, qy0_1, qy0_2, qy0_3, qy0_4, qy0_5, qy0_6, qy0_7, qy0_f, hy0_0, hy0_1, hy0_2, dy0_1, ly0⟩ := hy0
        have HB0 := Lib.hid hB0
        have ny0_4 := (hB0.cell (p := ⟨gn, on + 4, none⟩) lgnr).trans n4
        have ny0_5 := (hB0.cell (p := ⟨gn, on + 5, none⟩) lgnr).trans n5
        have HF0 := Lib.hid (HF.out.below hB0)
        have xy0_c : y0.cell? ⟨X, 5, none⟩ = some (v 3) := by simpa using HF0.out.cells 3 (by omega)
        have xy0_f : y0.frozen? ⟨X, 5, none⟩ = false := HF0.out.froz 5
        have lXy0 : X < y0.heap.size := by omega
        have lgy0 : gn < y0.heap.size := by omega
        have KXHy0 := Lib.hid (Keeps.refl (fun b => b = X ∨ b = wr.heap.size + 1 + 1 ∨ b = wr.heap.size) y0)
        clear hB0 n0 n1 n2 n3 n4 n5 d1
        refine wp_region_on (fun b => b = X ∨ b = wr.heap.size + 1 + 1 ∨ b = wr.heap.size) (fun b hb => by first | omega | (rcases hb with hb | hb <;> omega) | (rcases hb with hb | hb <;> simp <;> omega)) [20] (.q 0 (.q 1 (.q 2 (.q 3 (.q 4 (.q 5 (.q 6 (.q 9 (.q 12 (.q 13 (.l 7 (.q 8 (.l 10 (.q 11 (.l 14 (.q 15 (.l 16 (.l 17 (.q 18 (.q 19 (.l 20 .done .stop))) .stop) .stop)) .stop)) .stop)) .stop))))))))))) (by kernel_rfl) (by kernel_rfl) (fun _ _ d _ _ h => by cases d <;> exact h) (by simp only [Ord.fill, nthOp]; rfl) ?_; intro hSm
        repeat
          first | refine lexO_pass rfl ?_ | (refine lexO_take2 ?_ rfl (by kernel_rfl) (by with_reducible assumption) (fun w' hS K Q' hK => ?_) ?_; rotate_left; focus (have hS2 := hS.2; clear hS; go_wp2_with fail; exact hK))
        refine lexO_do rfl (fun K hK => ?_) lexO_stop
        go_wp2_with fail
        refine (num8_c (n := 4) (N := 4) (b := gn) (o := on) (m := 6) (c := cn) (x := xa) (by go_simp) (by go_simp) (by go_simp) rfl (by go_simp) (by omega) (by omega) ba (by omega)).mono ?_
        rintro e y1 ⟨rfl, zz1, hw⟩
        have qy1_0 : y1.cell? ⟨wr.heap.size + 1, 0, none⟩ = some (.slice (some ⟨gn, on, none⟩) 6 cn) := by rw [← hw]; clear hw; go_simp
        have qy1_1 : y1.cell? ⟨wr.heap.size + 1, 1, none⟩ = some (.slice none 0 0) := by rw [← hw]; clear hw; go_simp
        have qy1_2 : y1.cell? ⟨wr.heap.size + 1, 2, none⟩ = some (.slice none 0 0) := by rw [← hw]; clear hw; go_simp
        have qy1_3 : y1.cell? ⟨wr.heap.size + 1, 3, none⟩ = some (.slice none 0 0) := by rw [← hw]; clear hw; go_simp
        have qy1_4 : y1.cell? ⟨wr.heap.size + 1, 4, none⟩ = some (.int .i64 5) := by rw [← hw]; clear hw; go_simp
        have qy1_5 : y1.cell? ⟨wr.heap.size + 1, 5, none⟩ = some (.int .i64 0) := by rw [← hw]; clear hw; go_simp
        have qy1_6 : y1.cell? ⟨wr.heap.size + 1, 6, none⟩ = some (.bool false) := by rw [← hw]; clear hw; go_simp
        have qy1_7 : y1.cell? ⟨wr.heap.size + 1, 7, none⟩ = some (.bool false) := by rw [← hw]; clear hw; go_simp
        have qy1_f : y1.frozen? ⟨wr.heap.size + 1, 4, none⟩ = false := by rw [← hw]; clear hw; go_simp
        have ny1_5 : y1.cell? ⟨gn, on + 5, none⟩ = some (.int .u64 xb) := by rw [← hw]; clear hw; go_simp
        have hy1_0 : y1.cell? ⟨wr.heap.size + 1 + 1, 0, none⟩ = some (.int .u8 21) := by rw [← hw]; clear hw; go_simp
        have hy1_1 : y1.cell? ⟨wr.heap.size + 1 + 1, 1, none⟩ = some (.int .u16 xv) := by rw [← hw]; clear hw; go_simp
        have hy1_2 : y1.cell? ⟨wr.heap.size + 1 + 1, 2, none⟩ = some (.int .u16 xn) := by rw [← hw]; clear hw; go_simp
        have dy1_1 : y1.cell? ⟨wr.heap.size, 1, none⟩ = some (.slice pq 0 cq) := by rw [← hw]; clear hw; go_simp
        have xy1_c : y1.cell? ⟨X, 5, none⟩ = some (v 3) := by rw [← hw]; clear hw; go_simp
        have xy1_f : y1.frozen? ⟨X, 5, none⟩ = false := by rw [← hw]; clear hw; go_simp
        have HB1 := Lib.hid (show Below wr.heap.size wr y1 from by rw [← hw]; clear hw; have h0 := HB0.out; exact (by repeat (first | with_reducible assumption | with_reducible refine Below.drew ?_ | with_reducible refine below_drewN' ?_ _ | with_reducible refine Below.alloc ?_ ?_ _ | with_reducible refine Below.setCell ?_ ?_ _ | with_reducible exact Nat.le_refl _ | omega | focus (simp; done) | focus (simp; omega))))
        have KXHy1 := Lib.hid (show Keeps (fun b => b = X ∨ b = wr.heap.size + 1 + 1 ∨ b = wr.heap.size) y0 y1 from by rw [← hw]; clear hw; have h0 := KXHy0.out; exact (by repeat (first | with_reducible assumption | with_reducible exact Keeps.refl _ _ | with_reducible refine Keeps.drew ?_ | with_reducible refine Keeps.drewN ?_ _ | with_reducible refine Keeps.alloc ?_ _ | with_reducible refine Keeps.setCell ?_ ?_ _ | omega | focus (simp; done) | focus (simp; omega))))
        have ly1 : wr.heap.size + 1 + 1 < y1.heap.size := World.block_lt_of_cell? _ _ hy1_0
        have lXy1 : X < y1.heap.size := by omega
        have lgy1 : gn < y1.heap.size := by omega
        clear hw qy0_0 qy0_1 qy0_2 qy0_3 qy0_4 qy0_5 qy0_6 qy0_7 qy0_f ny0_4 ny0_5 hy0_0 hy0_1 hy0_2 xy0_c xy0_f dy0_1
        go_wp2_with fail
        first | refine step_and (SameOn.keeps (SameOn.refl (fun b hb => by omega)) KXHy1.out (fun b hb => hb)) (fun _ => ?_) | (have hSA := SameOn.keeps (SameOn.refl (ok := fun b => b = X ∨ b = wr.heap.size + 1 + 1 ∨ b = wr.heap.size) (W := y0) (fun b hb => by omega)) KXHy1.out (fun b hb => hb); refine ⟨hSA, ?_⟩)
        repeat
          first | refine lexO_pass rfl ?_ | (refine lexO_take2 ?_ rfl (by kernel_rfl) (by with_reducible assumption) (fun w' hS K Q' hK => ?_) ?_; rotate_left; focus (have hS2 := hS.2; clear hS; go_wp2_with fail; exact hK))
        refine lexO_do rfl (fun K hK => ?_) lexO_stop
        go_wp2_with fail
        refine (num8_c (n := 5) (N := 5) (b := gn) (o := on) (m := 6) (c := cn) (x := xb) (by go_simp) (by go_simp) (by go_simp) rfl (by go_simp) (by omega) (by omega) bb (by omega)).mono ?_
        rintro e y2 ⟨rfl, zz2, hw⟩
        have qy2_0 : y2.cell? ⟨wr.heap.size + 1, 0, none⟩ = some (.slice (some ⟨gn, on, none⟩) 6 cn) := by rw [← hw]; clear hw; go_simp
        have qy2_1 : y2.cell? ⟨wr.heap.size + 1, 1, none⟩ = some (.slice none 0 0) := by rw [← hw]; clear hw; go_simp
        have qy2_2 : y2.cell? ⟨wr.heap.size + 1, 2, none⟩ = some (.slice none 0 0) := by rw [← hw]; clear hw; go_simp
        have qy2_3 : y2.cell? ⟨wr.heap.size + 1, 3, none⟩ = some (.slice none 0 0) := by rw [← hw]; clear hw; go_simp
        have qy2_4 : y2.cell? ⟨wr.heap.size + 1, 4, none⟩ = some (.int .i64 6) := by rw [← hw]; clear hw; go_simp
        have qy2_5 : y2.cell? ⟨wr.heap.size + 1, 5, none⟩ = some (.int .i64 0) := by rw [← hw]; clear hw; go_simp
        have qy2_6 : y2.cell? ⟨wr.heap.size + 1, 6, none⟩ = some (.bool false) := by rw [← hw]; clear hw; go_simp
        have qy2_7 : y2.cell? ⟨wr.heap.size + 1, 7, none⟩ = some (.bool false) := by rw [← hw]; clear hw; go_simp
        have qy2_f : y2.frozen? ⟨wr.heap.size + 1, 4, none⟩ = false := by rw [← hw]; clear hw; go_simp
        have hy2_0 : y2.cell? ⟨wr.heap.size + 1 + 1, 0, none⟩ = some (.int .u8 21) := by rw [← hw]; clear hw; go_simp
        have hy2_1 : y2.cell? ⟨wr.heap.size + 1 + 1, 1, none⟩ = some (.int .u16 xv) := by rw [← hw]; clear hw; go_simp
        have hy2_2 : y2.cell? ⟨wr.heap.size + 1 + 1, 2, none⟩ = some (.int .u16 xn) := by rw [← hw]; clear hw; go_simp
        have dy2_1 : y2.cell? ⟨wr.heap.size, 1, none⟩ = some (.slice pq 0 cq) := by rw [← hw]; clear hw; go_simp
        have xy2_c : y2.cell? ⟨X, 5, none⟩ = some (v 3) := by rw [← hw]; clear hw; go_simp
        have xy2_f : y2.frozen? ⟨X, 5, none⟩ = false := by rw [← hw]; clear hw; go_simp
        have HB2 := Lib.hid (show Below wr.heap.size wr y2 from by rw [← hw]; clear hw; have h0 := HB1.out; exact (by repeat (first | with_reducible assumption | with_reducible refine Below.drew ?_ | with_reducible refine below_drewN' ?_ _ | with_reducible refine Below.alloc ?_ ?_ _ | with_reducible refine Below.setCell ?_ ?_ _ | with_reducible exact Nat.le_refl _ | omega | focus (simp; done) | focus (simp; omega))))
        have KXHy2 := Lib.hid (show Keeps (fun b => b = X ∨ b = wr.heap.size + 1 + 1 ∨ b = wr.heap.size) y0 y2 from by rw [← hw]; clear hw; have h0 := KXHy1.out; exact (by repeat (first | with_reducible assumption | with_reducible exact Keeps.refl _ _ | with_reducible refine Keeps.drew ?_ | with_reducible refine Keeps.drewN ?_ _ | with_reducible refine Keeps.alloc ?_ _ | with_reducible refine Keeps.setCell ?_ ?_ _ | omega | focus (simp; done) | focus (simp; omega))))
        have ly2 : wr.heap.size + 1 + 1 < y2.heap.size := World.block_lt_of_cell? _ _ hy2_0
        have lXy2 : X < y2.heap.size := by omega
        have lgy2 : gn < y2.heap.size := by omega
        clear hw qy1_0 qy1_1 qy1_2 qy1_3 qy1_4 qy1_5 qy1_6 qy1_7 qy1_f ny1_5 hy1_0 hy1_1 hy1_2 xy1_c xy1_f dy1_1
        go_wp2_with fail
        first | refine step_and (SameOn.keeps (SameOn.refl (fun b hb => by omega)) KXHy2.out (fun b hb => hb)) (fun _ => ?_) | (have hSA := SameOn.keeps (SameOn.refl (ok := fun b => b = X ∨ b = wr.heap.size + 1 + 1 ∨ b = wr.heap.size) (W := y0) (fun b hb => by omega)) KXHy2.out (fun b hb => hb); refine ⟨hSA, ?_⟩)
        repeat
          first | refine lexO_pass rfl ?_ | (refine lexO_take2 ?_ rfl (by kernel_rfl) (by with_reducible assumption) (fun w' hS K Q' hK => ?_) ?_; rotate_left; focus (have hS2 := hS.2; clear hS; go_wp2_with fail; exact hK))
        refine lexO_do rfl (fun K hK => ?_) lexO_stop
        go_wp2_with fail
        refine (clone_c (HDD.out.keeps (Keeps.trans (Keeps.of_below HB2.out) (by repeat (first | with_reducible assumption | with_reducible exact Keeps.refl _ _ | with_reducible refine Keeps.drew ?_ | with_reducible refine Keeps.drewN ?_ _ | with_reducible refine Keeps.alloc ?_ _ | with_reducible refine Keeps.setCell ?_ ?_ _ | omega | focus (simp; done) | focus (simp; omega))))) (by simp)).mono ?_
        rintro e y3 ⟨q3, cq3, rfl, hq3, hb3⟩
        replace hq3 : SB y3 _ (.slice q3 0 cq3) [] := hq3
        have qy3_0 : y3.cell? ⟨wr.heap.size + 1, 0, none⟩ = some (.slice (some ⟨gn, on, none⟩) 6 cn) := (hb3.cell (p := ⟨wr.heap.size + 1, 0, none⟩) (by first | omega | (simp; done) | (simp; omega))).trans (by go_simp)
        have qy3_1 : y3.cell? ⟨wr.heap.size + 1, 1, none⟩ = some (.slice none 0 0) := (hb3.cell (p := ⟨wr.heap.size + 1, 1, none⟩) (by first | omega | (simp; done) | (simp; omega))).trans (by go_simp)
        have qy3_2 : y3.cell? ⟨wr.heap.size + 1, 2, none⟩ = some (.slice none 0 0) := (hb3.cell (p := ⟨wr.heap.size + 1, 2, none⟩) (by first | omega | (simp; done) | (simp; omega))).trans (by go_simp)
        have qy3_3 : y3.cell? ⟨wr.heap.size + 1, 3, none⟩ = some (.slice none 0 0) := (hb3.cell (p := ⟨wr.heap.size + 1, 3, none⟩) (by first | omega | (simp; done) | (simp; omega))).trans (by go_simp)
        have qy3_4 : y3.cell? ⟨wr.heap.size + 1, 4, none⟩ = some (.int .i64 6) := (hb3.cell (p := ⟨wr.heap.size + 1, 4, none⟩) (by first | omega | (simp; done) | (simp; omega))).trans (by go_simp)
        have qy3_5 : y3.cell? ⟨wr.heap.size + 1, 5, none⟩ = some (.int .i64 0) := (hb3.cell (p := ⟨wr.heap.size + 1, 5, none⟩) (by first | omega | (simp; done) | (simp; omega))).trans (by go_simp)
        have qy3_6 : y3.cell? ⟨wr.heap.size + 1, 6, none⟩ = some (.bool false) := (hb3.cell (p := ⟨wr.heap.size + 1, 6, none⟩) (by first | omega | (simp; done) | (simp; omega))).trans (by go_simp)
        have qy3_7 : y3.cell? ⟨wr.heap.size + 1, 7, none⟩ = some (.bool false) := (hb3.cell (p := ⟨wr.heap.size + 1, 7, none⟩) (by first | omega | (simp; done) | (simp; omega))).trans (by go_simp)
        have qy3_f : y3.frozen? ⟨wr.heap.size + 1, 4, none⟩ = false := (hb3.frozen (p := ⟨wr.heap.size + 1, 4, none⟩) (by first | omega | (simp; done) | (simp; omega))).trans (by go_simp)
        have hy3_0 : y3.cell? ⟨wr.heap.size + 1 + 1, 0, none⟩ = some (.int .u8 21) := (hb3.cell (p := ⟨wr.heap.size + 1 + 1, 0, none⟩) (by first | omega | (simp; done) | (simp; omega))).trans (by go_simp)
        have hy3_1 : y3.cell? ⟨wr.heap.size + 1 + 1, 1, none⟩ = some (.int .u16 xv) := (hb3.cell (p := ⟨wr.heap.size + 1 + 1, 1, none⟩) (by first | omega | (simp; done) | (simp; omega))).trans (by go_simp)
        have hy3_2 : y3.cell? ⟨wr.heap.size + 1 + 1, 2, none⟩ = some (.int .u16 xn) := (hb3.cell (p := ⟨wr.heap.size + 1 + 1, 2, none⟩) (by first | omega | (simp; done) | (simp; omega))).trans (by go_simp)
        have dy3_1 : y3.cell? ⟨wr.heap.size, 1, none⟩ = some (.slice pq 0 cq) := (hb3.cell (p := ⟨wr.heap.size, 1, none⟩) (by first | omega | (simp; done) | (simp; omega))).trans (by go_simp)
        have xy3_c : y3.cell? ⟨X, 5, none⟩ = some (v 3) := (hb3.cell (p := ⟨X, 5, none⟩) (by first | omega | (simp; done) | (simp; omega))).trans (by go_simp)
        have xy3_f : y3.frozen? ⟨X, 5, none⟩ = false := (hb3.frozen (p := ⟨X, 5, none⟩) (by first | omega | (simp; done) | (simp; omega))).trans (by go_simp)
        have HB3 := Lib.hid (show Below wr.heap.size wr y3 from Below.trans (by have h0 := HB2.out; exact (by repeat (first | with_reducible assumption | with_reducible refine Below.drew ?_ | with_reducible refine below_drewN' ?_ _ | with_reducible refine Below.alloc ?_ ?_ _ | with_reducible refine Below.setCell ?_ ?_ _ | with_reducible exact Nat.le_refl _ | omega | focus (simp; done) | focus (simp; omega)))) (hb3.mono (by first | omega | (simp; done) | (simp; omega))))
        have HQC := Lib.hid (show SB y3 (fun b => wr.heap.size ≤ b ∧ b < y3.heap.size) (.slice q3 0 cq3) ([] : List Int) from hq3.imp (fun b hl hb => ⟨by first | omega | (simp at hb; omega), hl⟩))
        have KXHy3 := Lib.hid (show Keeps (fun b => b = X ∨ b = wr.heap.size + 1 + 1 ∨ b = wr.heap.size) y0 y3 from Keeps.trans (by have h0 := KXHy2.out; exact (by repeat (first | with_reducible assumption | with_reducible exact Keeps.refl _ _ | with_reducible refine Keeps.drew ?_ | with_reducible refine Keeps.drewN ?_ _ | with_reducible refine Keeps.alloc ?_ _ | with_reducible refine Keeps.setCell ?_ ?_ _ | omega | focus (simp; done) | focus (simp; omega)))) (Keeps.of_below (hb3.mono (by simp))))
        have ly3 : wr.heap.size + 1 + 1 < y3.heap.size := World.block_lt_of_cell? _ _ hy3_0
        have lXy3 : X < y3.heap.size := by omega
        clear hq3 hb3 qy2_0 qy2_1 qy2_2 qy2_3 qy2_4 qy2_5 qy2_6 qy2_7 qy2_f hy2_0 hy2_1 hy2_2 xy2_c xy2_f dy2_1
        go_wp2_with fail
        first | refine step_and (SameOn.keeps (SameOn.refl (fun b hb => by omega)) KXHy3.out (fun b hb => hb)) (fun _ => ?_) | (have hSA := SameOn.keeps (SameOn.refl (ok := fun b => b = X ∨ b = wr.heap.size + 1 + 1 ∨ b = wr.heap.size) (W := y0) (fun b hb => by omega)) KXHy3.out (fun b hb => hb); refine ⟨hSA, ?_⟩)
        repeat
          first | refine lexO_pass rfl ?_ | (refine lexO_take2 ?_ rfl (by kernel_rfl) (by with_reducible assumption) (fun w' hS K Q' hK => ?_) ?_; rotate_left; focus (have hS2 := hS.2; clear hS; go_wp2_with fail; exact hK))
        refine lexO_do rfl (fun K hK => ?_) lexO_stop
        go_wp2_with fail
        have hSB : SameOn (fun b => b = X ∨ b = wr.heap.size + 1 + 1 ∨ b = wr.heap.size) y0 _ := SameOn.alloc (SameOn.keeps (SameOn.refl (fun b hb => by omega)) KXHy3.out (fun b hb => hb)) (.cells #[.int .u8 21, .int .u16 xv, .int .u16 xn, .int .u8 xa, .int .u8 xb, .slice q3 0 cq3] 165)
        first | refine step_and hSB (fun _ => ?_) | refine ⟨hSB, ?_⟩
        repeat
          first | refine lexO_pass rfl ?_ | (refine lexO_take2 ?_ rfl (by kernel_rfl) (by with_reducible assumption) (fun w' hS K Q' hK => ?_) ?_; rotate_left; focus (have hS2 := hS.2; clear hS; go_wp2_with fail; exact hK))
        refine lexO_do rfl (fun K hK => ?_) lexO_stop
        refine wp_append_all (E := eT 3) (.tmp 642) (.tmp 654) 148 165 _ 32 rfl Tryz.underlying148 infoAl rfl (by decide) (by decide) (v := v 3) rfl (((HF.out.below HB3.out).below (show Below y3.heap.size y3 _ from by have h0 := Below.refl y3.heap.size y3; exact (by repeat (first | with_reducible assumption | with_reducible refine Below.drew ?_ | with_reducible refine below_drewN' ?_ _ | with_reducible refine Below.alloc ?_ ?_ _ | with_reducible refine Below.setCell ?_ ?_ _ | with_reducible exact Nat.le_refl _ | omega | focus (simp; done) | focus (simp; omega))))).row (i := 3) (by omega)) rfl (cs := [Value.int .u8 21, .int .u16 xv, .int .u16 xn, .int .u8 xa, .int .u8 xb, .slice q3 0 cq3]) (y := ([3, 21, xv, xn, xa, xb], ([] : List Int))) ?hcells ?hrep (by have := sel_le 3 (ps.take k); rw [List.length_take] at this; omega) (by first | omega | (simp; omega)) (fun q' c2 w5 hr5 hg5 ha5 => hK _ _ ?_)
        case hcells =>
          intro j u hu
          rcases j with _ | _ | _ | _ | _ | _ | j
          · simp at hu; subst hu; go_simp
          · simp at hu; subst hu; go_simp
          · simp at hu; subst hu; go_simp
          · simp at hu; subst hu; go_simp
          · simp at hu; subst hu; go_simp
          · simp at hu; subst hu; go_simp
          · simp at hu
        case hrep => exact ⟨_, _, _, _, _, rfl, rfl, (HQC.out.keeps (w' := y3.alloc _) (by repeat (first | with_reducible assumption | with_reducible exact Keeps.refl _ _ | with_reducible refine Keeps.drew ?_ | with_reducible refine Keeps.drewN ?_ _ | with_reducible refine Keeps.alloc ?_ _ | with_reducible refine Keeps.setCell ?_ ?_ _ | omega | focus (simp; done) | focus (simp; omega)))).imp (fun b hl hb => ⟨⟨⟨by omega, fun j hj e => by have := HF.out.own hj e; omega⟩, by simp; omega⟩, fun e => by have := HF.out.own (i := 3) (by omega) e.symm; omega⟩), by omega, by omega, by omega, by omega⟩
        have hk5 := grown_keeps (N := w4.heap.size) hg5 (fun k hk => (HF.out.own (i := 3) (by omega) hk).1)
        have hX5 : w5.cell? ⟨X, 5, none⟩ = some (v 3) := hk5.cell lX4 (by go_simp)
        have hXf5 : w5.frozen? ⟨X, 5, none⟩ = false := hk5.frozen lX4 (by first | omega | (simp; omega)) (by go_simp)
        have lX5 : X < w5.heap.size := World.block_lt_of_cell? _ _ hX5
        have hkQ : Keeps (fun b => b = X ∨ (wr.heap.size ≤ b ∧ b < y3.heap.size)) y3 w5 := ⟨by have := hg5.size; simp at this; omega, fun b hb hl => (hg5.block b (by simp; omega) (fun he => by have := HF.out.own (i := 3) (by omega) he.symm; rcases hb with hb | hb <;> omega)).trans (Below.heap_alloc _ _ _ hl)⟩
        have hSC := SameOn.keeps (SameOn.keeps (SameOn.refl (ok := fun b => b = X ∨ b = wr.heap.size + 1 + 1 ∨ b = wr.heap.size) (W := y0) (fun b hb => by omega)) KXHy3.out (fun b hb => hb)) hkQ (fun b hb => by rcases hb with hb | hb | hb; exact .inl hb; exact .inr ⟨by omega, by omega⟩; exact .inr ⟨by omega, by omega⟩)
        first | refine step_and hSC (fun _ => ?_) | refine ⟨hSC, ?_⟩
        have H6 := Lib.hid (((HF.out.below HB3.out).below (show Below y3.heap.size y3 _ from by have h0 := Below.refl y3.heap.size y3; exact (by repeat (first | with_reducible assumption | with_reducible refine Below.drew ?_ | with_reducible refine below_drewN' ?_ _ | with_reducible refine Below.alloc ?_ ?_ _ | with_reducible refine Below.setCell ?_ ?_ _ | with_reducible exact Nat.le_refl _ | omega | focus (simp; done) | focus (simp; omega))))).step (fun b hb => by omega) (i := 3) (by omega) hr5 hg5 ha5)
        have HB6 := Lib.hid (show Below X w4 w5 from ((HBX.out.trans (HB3.out.mono (by omega))).trans (show Below X y3 _ from by have h0 := Below.refl X y3; exact (by repeat (first | with_reducible assumption | with_reducible refine Below.drew ?_ | with_reducible refine below_drewN' ?_ _ | with_reducible refine Below.alloc ?_ ?_ _ | with_reducible refine Below.setCell ?_ ?_ _ | with_reducible exact Nat.le_refl _ | omega | focus (simp; done) | focus (simp; omega))))).grown hg5 (by simp; omega) (fun k hk => by have := (HF.out.own (i := 3) (by omega) hk).1; omega))
        have r0 := hkQ.cell (.inr ⟨by omega, by omega⟩) qy3_0
        have r1 := hkQ.cell (.inr ⟨by omega, by omega⟩) qy3_1
        have r2 := hkQ.cell (.inr ⟨by omega, by omega⟩) qy3_2
        have r3 := hkQ.cell (.inr ⟨by omega, by omega⟩) qy3_3
        have r4 := hkQ.cell (.inr ⟨by omega, by omega⟩) qy3_4
        have r5 := hkQ.cell (.inr ⟨by omega, by omega⟩) qy3_5
        have r6 := hkQ.cell (.inr ⟨by omega, by omega⟩) qy3_6
        have r7 := hkQ.cell (.inr ⟨by omega, by omega⟩) qy3_7
        have rd := hkQ.cell (.inr ⟨by omega, by omega⟩) dy3_1
        have lQ5 : wr.heap.size + 1 < w5.heap.size := World.block_lt_of_cell? _ _ r0
        clear hr5 hg5 ha5 hSC hkQ
        repeat
          first | refine lexO_pass rfl ?_ | (refine lexO_take2 ?_ rfl (by kernel_rfl) (by with_reducible assumption) (fun w' hS K Q' hK => ?_) ?_; rotate_left; focus (have hS2 := hS.2; clear hS; go_wp2_with fail; exact hK))
        refine lexO_do rfl (fun K hK => ?_) lexO_stop
        go_wp2_with fail
        first | refine step_last (by decide) (lexO_done ?_) | refine lexO_done ?_
        go_wp2_with fail
        refine (took_c (n1 := 6) (n2 := 0) (n3 := 0) (p1 := some ⟨gn, on, none⟩) (m1 := cn) (p2 := none) (m2 := 0) (p3 := none) (m3 := 0) (ls := false) (by go_simp) (by go_simp) (by go_simp) (by go_simp) (by go_simp) (by go_simp) (by go_simp) rfl rfl (.inr rfl)).mono ?_
        rintro e w9 ⟨rfl, qq, hw⟩
        have H9 := Lib.hid (show Four eT tT 2 w9 X w4.heap.size (fun b => w4.heap.size ≤ b) _ _ from by rw [← hw]; exact H6.out.below (show Below _ _ _ from ⟨rfl, rfl, rfl, Nat.le_refl _, fun _ _ => rfl⟩))
        have HB9 := Lib.hid (show Below X w4 w9 from by rw [← hw]; exact Below.drewN (HB6.out.setCell (Nat.le_refl _) _) qq)
        have rd9 : w9.cell? ⟨wr.heap.size, 1, none⟩ = some (.slice pq 0 cq) := by rw [← hw]; clear hw; go_simp
        have lP9 : wr.heap.size < w9.heap.size := World.block_lt_of_cell? _ _ rd9
        clear hw r0 r1 r2 r3 r4 r5 r6 r7 rd H6 HB6 hX5 hXf5 lX5 lQ5
        go_wp2_with fail
        go_roundw
        case rel => exact ⟨k + 1, HK1.out, by go_num, _, Lib.hid (H9.out.ext2 (fun j => sel_upd HQG.out (i := 3) rfl j)), HB9⟩
        case measure => have := HK1.out; simp [intOf]; omega
    · obtain rfl : k = np := by omega
      have hkI : ¬ ((k : Nat) : Int) < (k : Int) := by omega
      have hK4 : ∀ j u, w4.cell? ⟨w.heap.size + 1, j, none⟩ = some u → wr.cell? ⟨w.heap.size + 1, j, none⟩ = some u := fun j u hu => hkX.cell (b := w.heap.size + 1) (by omega) hu
      have z0 := hK4 _ _ kc_0
      have z1 := hK4 _ _ kc_1
      have z2 := hK4 _ _ kc_2
      have z4 := hK4 _ _ kc_4
      have z5 := hK4 _ _ kc_5
      have z6 := hK4 _ _ kc_6
      have z7 := hK4 _ _ kc_7
      have lCr : w.heap.size + 1 < wr.heap.size := by omega
      clear hK4 hkX kc_0 kc_1 kc_2 kc_3 kc_4 kc_5 kc_6 kc_7 kx_2 kx_3 kx_4 kx_5 fx4
      go_wp2_with fail
      refine (took_c (n1 := 0) (n2 := 0) (n3 := k) (p1 := pn) (m1 := cn0) (p2 := pd) (m2 := cd) (p3 := pp) (m3 := cp) (ls := true) (by go_simp) (by go_simp) (by go_simp) (by go_simp) (by go_simp) (by go_simp) (by go_simp) rfl rfl (.inl rfl)).mono ?_
      rintro e w' ⟨rfl, qq, rfl⟩
      go_wp2_with fail
      refine bodyPost_ret (v := .iface 144 (.pointer (some ⟨X, 0, none⟩))) (by simp only [results, Tryz.results23]; go_simp) rfl ?_
      have hF := HF.out
      rw [List.take_of_length_le (by have := HNP.out; omega)] at hF
      have hbl : Below w.heap.size w wr := HB4.out.trans (HBX.out.mono (by omega))
      refine ⟨(by repeat (first | with_reducible assumption | with_reducible refine Below.drew ?_ | with_reducible refine below_drewN' ?_ _ | with_reducible refine Below.alloc ?_ ?_ _ | with_reducible refine Below.setCell ?_ ?_ _ | with_reducible exact Nat.le_refl _ | omega | focus (simp; done) | focus (simp; omega))), _, rfl, by first | omega | (simp; done) | (simp; omega), v, fun i hi => by have := hF.cells i hi; go_simp, fun i hi => ((hF.rows i hi).imp (Nat.zero_le _) (fun _ _ _ => trivial)).keeps (by repeat (first | with_reducible assumption | with_reducible exact Keeps.refl _ _ | with_reducible refine Keeps.drew ?_ | with_reducible refine Keeps.drewN ?_ _ | with_reducible refine Keeps.alloc ?_ _ | with_reducible refine Keeps.setCell ?_ ?_ _ | omega | focus (simp; done) | focus (simp; omega)))⟩
end Go.Proofs.YtmpifdanfnebpaaGreat
