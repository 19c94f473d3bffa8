/-
  The other data of a record of MLDv2 is written ahead of what the buffer holds.
-/
import Derived.Test.YtmpifdanfnebpaaGreatPre0
import Derived.Test.YtmpifdanfnebpaaGreatSrcs
import Derived.Test.YtmpifdanfnebpaaGreatOn
namespace Go.Proofs.YtmpifdanfnebpaaGreat
open Go Go.RowKit

set_option maxRecDepth 100000 in
set_option maxHeartbeats 4000000 in
theorem auxr_none {w0 w : World} {G o B : Nat} {av : Value} {ab pay : List Int} (c5 : w0.cell? ⟨G, o + 5, none⟩ = some av) (hs : SB w0 (fun _ => True) av ab) (h0 : ab = []) (hp : pay.length ≤ 1000) (hb0 : Below w0.heap.size w0 w) (hB : w0.heap.size ≤ B) (hbuf : Buf w B pay) :
    Calls Tryz.prog 115 #[.pointer (some ⟨G, o, none⟩), .iface 166 (.pointer (some ⟨B, 0, none⟩)), .agg #[.bool false, .bool false]] w fun e w' =>
      e = .returned .nilIface ∧ Below B w w' ∧ Buf w' B (ab ++ pay) ∧ KeepsOff w w' B := by
  have mp := m_prepend
  have lG0 : G < w0.heap.size := World.block_lt_of_cell? _ _ c5
  have HS := Lib.hid (hs.imp (fun b hb _ => hb : ∀ b, b < w0.heap.size → True → b < w0.heap.size))
  obtain ⟨pa, ca, rfl⟩ := hs.form
  have c5w : w.cell? ⟨G, o + 5, none⟩ = _ := (hb0.cell (p := ⟨G, o + 5, none⟩) lG0).trans c5
  have lGB : G < B := by omega
  have lB : B < w.heap.size := hbuf.lt
  have lGw : G < w.heap.size := by omega
  have HBUF := Lib.hid hbuf
  have HB0 := Lib.hid hb0
  have HBB := Lib.hid hB
  subst h0
  replace c5w : w.cell? ⟨G, o + 5, none⟩ = some (.slice pa 0 ca) := c5w
  clear hbuf hb0 hB hs c5
  go_enter Tryz.func115, Tryz.ntmps115
  go_wp2_with fail
  refine wp_region_on (fun b => b = G) (fun b hb => by first | omega | (rcases hb with hb | hb <;> omega) | (rcases hb with hb | hb <;> simp <;> omega)) [] (.q 0 (.q 1 (.q 2 (.q 3 (.q 4 (.l 5 (.l 6 (.q 7 (.q 8 (.l 9 (.q 10 (.q 11 (.q 12 (.q 13 (.q 14 .done))))) .stop))) .stop) (.l 6 (.q 7 (.q 8 (.l 5 (.l 9 (.q 10 (.q 11 (.q 12 (.q 13 (.q 14 .done))))) .stop) .stop))) .stop))))))) (by kernel_rfl) (by kernel_rfl) (fun _ _ d _ _ h => by cases d <;> exact h) (by simp only [Ord.fill, nthOp]; rfl) ?_; intro hSm
  repeat
    first | refine lexO_pass rfl ?_ | (refine lexO_take2 ?_ rfl (by kernel_rfl) (by with_reducible assumption) (fun w' hS K Q' hK => ?_) ?_; rotate_left; focus (have hS2 := hS.2; clear hS; go_wp2_with fail; exact hK))
  refine lexO_do rfl (fun K hK => ?_) (lexO_do rfl (fun K hK => ?_) lexO_stop)
  · go_wp2_with fail
    first | refine step_and (by repeat (first | with_reducible assumption | (with_reducible refine SameOn.refl (fun b hb => ?_); first | omega | (rcases hb with hb | hb <;> omega) | (rcases hb with hb | hb <;> simp <;> omega)) | with_reducible refine SameOn.drew ?_ | with_reducible refine SameOn.alloc ?_ _ | (refine SameOn.below ?_ (by with_reducible assumption)))) (fun _ => ?_) | refine ⟨(by repeat (first | with_reducible assumption | (with_reducible refine SameOn.refl (fun b hb => ?_); first | omega | (rcases hb with hb | hb <;> omega) | (rcases hb with hb | hb <;> simp <;> omega)) | with_reducible refine SameOn.drew ?_ | with_reducible refine SameOn.alloc ?_ _ | (refine SameOn.below ?_ (by with_reducible assumption)))), ?_⟩
    repeat
      first | refine lexO_pass rfl ?_ | (refine lexO_take2 ?_ rfl (by kernel_rfl) (by with_reducible assumption) (fun w' hS K Q' hK => ?_) ?_; rotate_left; focus (have hS2 := hS.2; clear hS; go_wp2_with fail; exact hK))
    refine lexO_do rfl (fun K hK => ?_) lexO_stop
    go_wp2_with fail
    first | refine step_and (by repeat (first | with_reducible assumption | (with_reducible refine SameOn.refl (fun b hb => ?_); first | omega | (rcases hb with hb | hb <;> omega) | (rcases hb with hb | hb <;> simp <;> omega)) | with_reducible refine SameOn.drew ?_ | with_reducible refine SameOn.alloc ?_ _ | (refine SameOn.below ?_ (by with_reducible assumption)))) (fun _ => ?_) | refine ⟨(by repeat (first | with_reducible assumption | (with_reducible refine SameOn.refl (fun b hb => ?_); first | omega | (rcases hb with hb | hb <;> omega) | (rcases hb with hb | hb <;> simp <;> omega)) | with_reducible refine SameOn.drew ?_ | with_reducible refine SameOn.alloc ?_ _ | (refine SameOn.below ?_ (by with_reducible assumption)))), ?_⟩
    repeat
      first | refine lexO_pass rfl ?_ | (refine lexO_take2 ?_ rfl (by kernel_rfl) (by with_reducible assumption) (fun w' hS K Q' hK => ?_) ?_; rotate_left; focus (have hS2 := hS.2; clear hS; go_wp2_with fail; exact hK))
    refine lexO_do rfl (fun K hK => ?_) lexO_stop
    go_wp2_with fail
    refine (prepend0_c (bs := pay) (HBUF.out.keeps (by have h0 := Below.refl w.heap.size w; exact (by repeat (first | with_reducible assumption | with_reducible refine Below.drew ?_ | with_reducible refine below_drewN' ?_ _ | with_reducible refine Below.alloc ?_ ?_ _ | with_reducible refine Below.setCell ?_ ?_ _ | with_reducible exact Nat.le_refl _ | omega | focus (simp; done) | focus (simp; omega))))) (by omega)).mono ?_
    rintro e1 w2 ⟨p2, c2, rfl, hh, hb2, hk2⟩
    have HKO := Lib.hid (show KeepsOff w w2 B from (koff_below lB (by have h0 := Below.refl w.heap.size w; exact (by repeat (first | with_reducible assumption | with_reducible refine Below.drew ?_ | with_reducible refine below_drewN' ?_ _ | with_reducible refine Below.alloc ?_ ?_ _ | with_reducible refine Below.setCell ?_ ?_ _ | with_reducible exact Nat.le_refl _ | omega | focus (simp; done) | focus (simp; omega))))).trans hk2)
    have H2 := Lib.hid (show Below B w w2 from Below.trans (by have h0 := Below.refl B w; exact (by repeat (first | with_reducible assumption | with_reducible refine Below.drew ?_ | with_reducible refine below_drewN' ?_ _ | with_reducible refine Below.alloc ?_ ?_ _ | with_reducible refine Below.setCell ?_ ?_ _ | with_reducible exact Nat.le_refl _ | omega | focus (simp; done) | focus (simp; omega)))) hb2)
    have HH := Lib.hid hh
    have g2 : w2.cell? ⟨G, o + 5, none⟩ = some (.slice pa 0 ca) := (H2.out.cell (p := ⟨G, o + 5, none⟩) lGB).trans c5w
    have lG2 : G < w2.heap.size := World.block_lt_of_cell? _ _ g2
    go_wp2_with fail
    refine step_and (by refine ⟨fun b hb => by subst hb; exact lG2, fun b j hb => ?_⟩; subst hb; exact (World.cell?_of_block (H2.out.block _ lGB)).trans (World.cell?_alloc_lt _ _ _ lGw).symm) (fun _ => ?_)
    clear hb2 hk2 hh 
    repeat
      first | refine lexO_pass rfl ?_ | (refine lexO_take2 ?_ rfl (by kernel_rfl) (by with_reducible assumption) (fun w' hS K Q' hK => ?_) ?_; rotate_left; focus (have hS2 := hS.2; clear hS; go_wp2_with fail; exact hK))
    refine lexO_done ?_
    go_wp2_with fail
    rw [run_copy_none (P := Tryz.prog) w2 22 22 _ 5 _ _ _ _ _ _ Tryz.underlying22 sz1B rfl]
    go_wp2_with fail
    exact bodyPost_ret (v := .nilIface) (by simp only [results, Tryz.results115]; go_simp) rfl ⟨rfl, H2.out, HH.out, HKO.out⟩
  · go_wp2_with fail
    first | refine step_and (by repeat (first | with_reducible assumption | (with_reducible refine SameOn.refl (fun b hb => ?_); first | omega | (rcases hb with hb | hb <;> omega) | (rcases hb with hb | hb <;> simp <;> omega)) | with_reducible refine SameOn.drew ?_ | with_reducible refine SameOn.alloc ?_ _ | (refine SameOn.below ?_ (by with_reducible assumption)))) (fun _ => ?_) | refine ⟨(by repeat (first | with_reducible assumption | (with_reducible refine SameOn.refl (fun b hb => ?_); first | omega | (rcases hb with hb | hb <;> omega) | (rcases hb with hb | hb <;> simp <;> omega)) | with_reducible refine SameOn.drew ?_ | with_reducible refine SameOn.alloc ?_ _ | (refine SameOn.below ?_ (by with_reducible assumption)))), ?_⟩
    repeat
      first | refine lexO_pass rfl ?_ | (refine lexO_take2 ?_ rfl (by kernel_rfl) (by with_reducible assumption) (fun w' hS K Q' hK => ?_) ?_; rotate_left; focus (have hS2 := hS.2; clear hS; go_wp2_with fail; exact hK))
    refine lexO_do rfl (fun K hK => ?_) lexO_stop
    go_wp2_with fail
    first | refine step_and (by repeat (first | with_reducible assumption | (with_reducible refine SameOn.refl (fun b hb => ?_); first | omega | (rcases hb with hb | hb <;> omega) | (rcases hb with hb | hb <;> simp <;> omega)) | with_reducible refine SameOn.drew ?_ | with_reducible refine SameOn.alloc ?_ _ | (refine SameOn.below ?_ (by with_reducible assumption)))) (fun _ => ?_) | refine ⟨(by repeat (first | with_reducible assumption | (with_reducible refine SameOn.refl (fun b hb => ?_); first | omega | (rcases hb with hb | hb <;> omega) | (rcases hb with hb | hb <;> simp <;> omega)) | with_reducible refine SameOn.drew ?_ | with_reducible refine SameOn.alloc ?_ _ | (refine SameOn.below ?_ (by with_reducible assumption)))), ?_⟩
    repeat
      first | refine lexO_pass rfl ?_ | (refine lexO_take2 ?_ rfl (by kernel_rfl) (by with_reducible assumption) (fun w' hS K Q' hK => ?_) ?_; rotate_left; focus (have hS2 := hS.2; clear hS; go_wp2_with fail; exact hK))
    refine lexO_do rfl (fun K hK => ?_) lexO_stop
    go_wp2_with fail
    refine (prepend0_c (bs := pay) (HBUF.out.keeps (by have h0 := Below.refl w.heap.size w; exact (by repeat (first | with_reducible assumption | with_reducible refine Below.drew ?_ | with_reducible refine below_drewN' ?_ _ | with_reducible refine Below.alloc ?_ ?_ _ | with_reducible refine Below.setCell ?_ ?_ _ | with_reducible exact Nat.le_refl _ | omega | focus (simp; done) | focus (simp; omega))))) (by omega)).mono ?_
    rintro e1 w2 ⟨p2, c2, rfl, hh, hb2, hk2⟩
    have HKO := Lib.hid (show KeepsOff w w2 B from (koff_below lB (by have h0 := Below.refl w.heap.size w; exact (by repeat (first | with_reducible assumption | with_reducible refine Below.drew ?_ | with_reducible refine below_drewN' ?_ _ | with_reducible refine Below.alloc ?_ ?_ _ | with_reducible refine Below.setCell ?_ ?_ _ | with_reducible exact Nat.le_refl _ | omega | focus (simp; done) | focus (simp; omega))))).trans hk2)
    have H2 := Lib.hid (show Below B w w2 from Below.trans (by have h0 := Below.refl B w; exact (by repeat (first | with_reducible assumption | with_reducible refine Below.drew ?_ | with_reducible refine below_drewN' ?_ _ | with_reducible refine Below.alloc ?_ ?_ _ | with_reducible refine Below.setCell ?_ ?_ _ | with_reducible exact Nat.le_refl _ | omega | focus (simp; done) | focus (simp; omega)))) hb2)
    have HH := Lib.hid hh
    have g2 : w2.cell? ⟨G, o + 5, none⟩ = some (.slice pa 0 ca) := (H2.out.cell (p := ⟨G, o + 5, none⟩) lGB).trans c5w
    have lG2 : G < w2.heap.size := World.block_lt_of_cell? _ _ g2
    go_wp2_with fail
    refine step_and (by refine ⟨fun b hb => by subst hb; exact lG2, fun b j hb => ?_⟩; subst hb; exact (World.cell?_of_block (H2.out.block _ lGB)).trans (World.cell?_alloc_lt _ _ _ lGw).symm) (fun _ => ?_)
    clear hb2 hk2 hh 
    repeat
      first | refine lexO_pass rfl ?_ | (refine lexO_take2 ?_ rfl (by kernel_rfl) (by with_reducible assumption) (fun w' hS K Q' hK => ?_) ?_; rotate_left; focus (have hS2 := hS.2; clear hS; go_wp2_with fail; exact hK))
    refine lexO_done ?_
    go_wp2_with fail
    rw [run_copy_none (P := Tryz.prog) w2 22 22 _ 5 _ _ _ _ _ _ Tryz.underlying22 sz1B rfl]
    go_wp2_with fail
    exact bodyPost_ret (v := .nilIface) (by simp only [results, Tryz.results115]; go_simp) rfl ⟨rfl, H2.out, HH.out, HKO.out⟩

set_option maxRecDepth 100000 in
set_option maxHeartbeats 4000000 in
theorem auxr_some {w0 w : World} {G o B : Nat} {av : Value} {ab pay : List Int} (c5 : w0.cell? ⟨G, o + 5, none⟩ = some av) (hs : SB w0 (fun _ => True) av ab) (h0 : ab ≠ []) (h4 : ab.length % 4 = 0) (hl : ab.length ≤ 400) (hp : pay.length ≤ 1000) (hb0 : Below w0.heap.size w0 w) (hB : w0.heap.size ≤ B) (hbuf : Buf w B pay) :
    Calls Tryz.prog 115 #[.pointer (some ⟨G, o, none⟩), .iface 166 (.pointer (some ⟨B, 0, none⟩)), .agg #[.bool false, .bool false]] w fun e w' =>
      e = .returned .nilIface ∧ Below B w w' ∧ Buf w' B (ab ++ pay) ∧ KeepsOff w w' B := by
  have mp := m_prepend
  have lG0 : G < w0.heap.size := World.block_lt_of_cell? _ _ c5
  have HS := Lib.hid (hs.imp (fun b hb _ => hb : ∀ b, b < w0.heap.size → True → b < w0.heap.size))
  obtain ⟨pa, ca, rfl⟩ := hs.form
  have c5w : w.cell? ⟨G, o + 5, none⟩ = _ := (hb0.cell (p := ⟨G, o + 5, none⟩) lG0).trans c5
  have lGB : G < B := by omega
  have lB : B < w.heap.size := hbuf.lt
  have lGw : G < w.heap.size := by omega
  have HBUF := Lib.hid hbuf
  have HB0 := Lib.hid hb0
  have HBB := Lib.hid hB
  obtain ⟨m, hm⟩ : ∃ m, m = ab.length := ⟨_, rfl⟩
  rw [← hm] at c5w h4 hl
  have hm0 : 0 < m := by rw [hm]; exact List.length_pos_iff.2 h0
  have hrem : ((m : Int)).tmod 4 = 0 := by rw [Int.tmod_eq_emod_of_nonneg (by omega)]; omega
  have HM := Lib.hid hm
  obtain ⟨ba, oa, rfl⟩ : ∃ b o, pa = some ⟨b, o, none⟩ := by
    obtain ⟨p', c', he, -, -, -, hr⟩ := HS.out
    simp only [Value.slice.injEq] at he
    obtain ⟨rfl, -, -⟩ := he
    rcases hr with hr | ⟨b, o, rfl, -⟩
    · exact absurd (by simpa using hr) h0
    · exact ⟨b, o, rfl⟩
  clear hbuf hb0 hB hs c5 hm h0
  go_enter Tryz.func115, Tryz.ntmps115
  go_wp2_with fail
  refine wp_region_on (fun b => b = G) (fun b hb => by first | omega | (rcases hb with hb | hb <;> omega) | (rcases hb with hb | hb <;> simp <;> omega)) [] (.q 0 (.q 1 (.q 2 (.q 3 (.q 4 (.l 5 (.l 6 (.q 7 (.q 8 (.l 9 (.q 10 (.q 11 (.q 12 (.q 13 (.q 14 .done))))) .stop))) .stop) (.l 6 (.q 7 (.q 8 (.l 5 (.l 9 (.q 10 (.q 11 (.q 12 (.q 13 (.q 14 .done))))) .stop) .stop))) .stop))))))) (by kernel_rfl) (by kernel_rfl) (fun _ _ d _ _ h => by cases d <;> exact h) (by simp only [Ord.fill, nthOp]; rfl) ?_; intro hSm
  repeat
    first | refine lexO_pass rfl ?_ | (refine lexO_take2 ?_ rfl (by kernel_rfl) (by with_reducible assumption) (fun w' hS K Q' hK => ?_) ?_; rotate_left; focus (have hS2 := hS.2; clear hS; go_wp2_with fail; exact hK))
  refine lexO_do rfl (fun K hK => ?_) (lexO_do rfl (fun K hK => ?_) lexO_stop)
  · go_wp2_with fail
    first | refine step_and (by repeat (first | with_reducible assumption | (with_reducible refine SameOn.refl (fun b hb => ?_); first | omega | (rcases hb with hb | hb <;> omega) | (rcases hb with hb | hb <;> simp <;> omega)) | with_reducible refine SameOn.drew ?_ | with_reducible refine SameOn.alloc ?_ _ | (refine SameOn.below ?_ (by with_reducible assumption)))) (fun _ => ?_) | refine ⟨(by repeat (first | with_reducible assumption | (with_reducible refine SameOn.refl (fun b hb => ?_); first | omega | (rcases hb with hb | hb <;> omega) | (rcases hb with hb | hb <;> simp <;> omega)) | with_reducible refine SameOn.drew ?_ | with_reducible refine SameOn.alloc ?_ _ | (refine SameOn.below ?_ (by with_reducible assumption)))), ?_⟩
    repeat
      first | refine lexO_pass rfl ?_ | (refine lexO_take2 ?_ rfl (by kernel_rfl) (by with_reducible assumption) (fun w' hS K Q' hK => ?_) ?_; rotate_left; focus (have hS2 := hS.2; clear hS; go_wp2_with fail; exact hK))
    refine lexO_do rfl (fun K hK => ?_) lexO_stop
    go_wp2_with fail
    first | refine step_and (by repeat (first | with_reducible assumption | (with_reducible refine SameOn.refl (fun b hb => ?_); first | omega | (rcases hb with hb | hb <;> omega) | (rcases hb with hb | hb <;> simp <;> omega)) | with_reducible refine SameOn.drew ?_ | with_reducible refine SameOn.alloc ?_ _ | (refine SameOn.below ?_ (by with_reducible assumption)))) (fun _ => ?_) | refine ⟨(by repeat (first | with_reducible assumption | (with_reducible refine SameOn.refl (fun b hb => ?_); first | omega | (rcases hb with hb | hb <;> omega) | (rcases hb with hb | hb <;> simp <;> omega)) | with_reducible refine SameOn.drew ?_ | with_reducible refine SameOn.alloc ?_ _ | (refine SameOn.below ?_ (by with_reducible assumption)))), ?_⟩
    repeat
      first | refine lexO_pass rfl ?_ | (refine lexO_take2 ?_ rfl (by kernel_rfl) (by with_reducible assumption) (fun w' hS K Q' hK => ?_) ?_; rotate_left; focus (have hS2 := hS.2; clear hS; go_wp2_with fail; exact hK))
    refine lexO_do rfl (fun K hK => ?_) lexO_stop
    go_wp2_with fail
    refine (prepend_c (k := m) (bs := pay) (HBUF.out.keeps (by have h0 := Below.refl w.heap.size w; exact (by repeat (first | with_reducible assumption | with_reducible refine Below.drew ?_ | with_reducible refine below_drewN' ?_ _ | with_reducible refine Below.alloc ?_ ?_ _ | with_reducible refine Below.setCell ?_ ?_ _ | with_reducible exact Nat.le_refl _ | omega | focus (simp; done) | focus (simp; omega))))) hm0 (by omega) (by omega)).mono ?_
    rintro e1 w2 ⟨D, s, c, xs, rfl, hcc, hcm, hxl, hh, hb2, hk2, hD2⟩
    have HKO := Lib.hid (show KeepsOff w w2 B from (koff_below lB (by have h0 := Below.refl w.heap.size w; exact (by repeat (first | with_reducible assumption | with_reducible refine Below.drew ?_ | with_reducible refine below_drewN' ?_ _ | with_reducible refine Below.alloc ?_ ?_ _ | with_reducible refine Below.setCell ?_ ?_ _ | with_reducible exact Nat.le_refl _ | omega | focus (simp; done) | focus (simp; omega))))).trans (koff_holds hk2 hh (hD2.imp_right fun ⟨s0, h⟩ => ⟨s0, _, h⟩)))
    have lBD : B < D := hh.lt
    have eGD : ¬ G = D := by omega
    have H2 := Lib.hid (show Below B w w2 from Below.trans (by have h0 := Below.refl B w; exact (by repeat (first | with_reducible assumption | with_reducible refine Below.drew ?_ | with_reducible refine below_drewN' ?_ _ | with_reducible refine Below.alloc ?_ ?_ _ | with_reducible refine Below.setCell ?_ ?_ _ | with_reducible exact Nat.le_refl _ | omega | focus (simp; done) | focus (simp; omega)))) hb2)
    have HH := Lib.hid hh
    have g2 : w2.cell? ⟨G, o + 5, none⟩ = some (.slice (some ⟨ba, oa, none⟩) m ca) := (H2.out.cell (p := ⟨G, o + 5, none⟩) lGB).trans c5w
    have lG2 : G < w2.heap.size := World.block_lt_of_cell? _ _ g2
    go_wp2_with fail
    refine step_and (by refine ⟨fun b hb => by subst hb; exact lG2, fun b j hb => ?_⟩; subst hb; exact (World.cell?_of_block (H2.out.block _ lGB)).trans (World.cell?_alloc_lt _ _ _ lGw).symm) (fun _ => ?_)
    clear hb2 hk2 hh hD2
    repeat
      first | refine lexO_pass rfl ?_ | (refine lexO_take2 ?_ rfl (by kernel_rfl) (by with_reducible assumption) (fun w' hS K Q' hK => ?_) ?_; rotate_left; focus (have hS2 := hS.2; clear hS; go_wp2_with fail; exact hK))
    refine lexO_done ?_
    go_wp2_with fail
    have WS := HS.out.srcs (W := w2) ⟨Nat.le_trans HB0.out.size H2.out.size, fun b hb _ => (H2.out.block b (by have := HBB.out; omega)).trans (HB0.out.block b hb)⟩ ba oa rfl
    rw [run_copy_cells (P := Tryz.prog) w2 _ _ _ 5 _ _ _ _ _ _ _ (ab.map (.int .u8)) Tryz.underlying22 sz1B (by rw [List.length_map, ← HM.out]; show m = min m m; omega) WS ?hdc ?hdf ?hdo]
    case hdc =>
      intro j hj
      rw [List.length_map, ← HM.out] at hj
      rw [HH.out.row j _ (List.getElem?_eq_getElem (by simp; omega))]
      rfl
    case hdf => exact fun j _ => HH.out.frD _
    case hdo => exact ints_oneCell .u8 ab
    have HH3 := Lib.hid (HH.out.first (ds := ab) (by rw [← HM.out]; exact hxl))
    have H3 := Lib.hid (show Below B w (w2.setCells D s (ab.map (.int .u8))) from below_setCells (Nat.le_of_lt HH.out.lt) _ _ H2.out)
    have HK3 := Lib.hid (HKO.out.trans (koff_setCells HH.out s (ab.map (.int .u8))))
    clear WS g2 lG2 H2 HKO
    generalize w2.setCells D s (ab.map (.int .u8)) = w3 at *
    clear HH
    go_wp2_with fail
    exact bodyPost_ret (v := .nilIface) (by simp only [results, Tryz.results115]; go_simp) rfl ⟨rfl, H3.out, .inr ⟨D, s, HH3.out⟩, HK3.out⟩
  · go_wp2_with fail
    first | refine step_and (by repeat (first | with_reducible assumption | (with_reducible refine SameOn.refl (fun b hb => ?_); first | omega | (rcases hb with hb | hb <;> omega) | (rcases hb with hb | hb <;> simp <;> omega)) | with_reducible refine SameOn.drew ?_ | with_reducible refine SameOn.alloc ?_ _ | (refine SameOn.below ?_ (by with_reducible assumption)))) (fun _ => ?_) | refine ⟨(by repeat (first | with_reducible assumption | (with_reducible refine SameOn.refl (fun b hb => ?_); first | omega | (rcases hb with hb | hb <;> omega) | (rcases hb with hb | hb <;> simp <;> omega)) | with_reducible refine SameOn.drew ?_ | with_reducible refine SameOn.alloc ?_ _ | (refine SameOn.below ?_ (by with_reducible assumption)))), ?_⟩
    repeat
      first | refine lexO_pass rfl ?_ | (refine lexO_take2 ?_ rfl (by kernel_rfl) (by with_reducible assumption) (fun w' hS K Q' hK => ?_) ?_; rotate_left; focus (have hS2 := hS.2; clear hS; go_wp2_with fail; exact hK))
    refine lexO_do rfl (fun K hK => ?_) lexO_stop
    go_wp2_with fail
    first | refine step_and (by repeat (first | with_reducible assumption | (with_reducible refine SameOn.refl (fun b hb => ?_); first | omega | (rcases hb with hb | hb <;> omega) | (rcases hb with hb | hb <;> simp <;> omega)) | with_reducible refine SameOn.drew ?_ | with_reducible refine SameOn.alloc ?_ _ | (refine SameOn.below ?_ (by with_reducible assumption)))) (fun _ => ?_) | refine ⟨(by repeat (first | with_reducible assumption | (with_reducible refine SameOn.refl (fun b hb => ?_); first | omega | (rcases hb with hb | hb <;> omega) | (rcases hb with hb | hb <;> simp <;> omega)) | with_reducible refine SameOn.drew ?_ | with_reducible refine SameOn.alloc ?_ _ | (refine SameOn.below ?_ (by with_reducible assumption)))), ?_⟩
    repeat
      first | refine lexO_pass rfl ?_ | (refine lexO_take2 ?_ rfl (by kernel_rfl) (by with_reducible assumption) (fun w' hS K Q' hK => ?_) ?_; rotate_left; focus (have hS2 := hS.2; clear hS; go_wp2_with fail; exact hK))
    refine lexO_do rfl (fun K hK => ?_) lexO_stop
    go_wp2_with fail
    refine (prepend_c (k := m) (bs := pay) (HBUF.out.keeps (by have h0 := Below.refl w.heap.size w; exact (by repeat (first | with_reducible assumption | with_reducible refine Below.drew ?_ | with_reducible refine below_drewN' ?_ _ | with_reducible refine Below.alloc ?_ ?_ _ | with_reducible refine Below.setCell ?_ ?_ _ | with_reducible exact Nat.le_refl _ | omega | focus (simp; done) | focus (simp; omega))))) hm0 (by omega) (by omega)).mono ?_
    rintro e1 w2 ⟨D, s, c, xs, rfl, hcc, hcm, hxl, hh, hb2, hk2, hD2⟩
    have HKO := Lib.hid (show KeepsOff w w2 B from (koff_below lB (by have h0 := Below.refl w.heap.size w; exact (by repeat (first | with_reducible assumption | with_reducible refine Below.drew ?_ | with_reducible refine below_drewN' ?_ _ | with_reducible refine Below.alloc ?_ ?_ _ | with_reducible refine Below.setCell ?_ ?_ _ | with_reducible exact Nat.le_refl _ | omega | focus (simp; done) | focus (simp; omega))))).trans (koff_holds hk2 hh (hD2.imp_right fun ⟨s0, h⟩ => ⟨s0, _, h⟩)))
    have lBD : B < D := hh.lt
    have eGD : ¬ G = D := by omega
    have H2 := Lib.hid (show Below B w w2 from Below.trans (by have h0 := Below.refl B w; exact (by repeat (first | with_reducible assumption | with_reducible refine Below.drew ?_ | with_reducible refine below_drewN' ?_ _ | with_reducible refine Below.alloc ?_ ?_ _ | with_reducible refine Below.setCell ?_ ?_ _ | with_reducible exact Nat.le_refl _ | omega | focus (simp; done) | focus (simp; omega)))) hb2)
    have HH := Lib.hid hh
    have g2 : w2.cell? ⟨G, o + 5, none⟩ = some (.slice (some ⟨ba, oa, none⟩) m ca) := (H2.out.cell (p := ⟨G, o + 5, none⟩) lGB).trans c5w
    have lG2 : G < w2.heap.size := World.block_lt_of_cell? _ _ g2
    go_wp2_with fail
    refine step_and (by refine ⟨fun b hb => by subst hb; exact lG2, fun b j hb => ?_⟩; subst hb; exact (World.cell?_of_block (H2.out.block _ lGB)).trans (World.cell?_alloc_lt _ _ _ lGw).symm) (fun _ => ?_)
    clear hb2 hk2 hh hD2
    repeat
      first | refine lexO_pass rfl ?_ | (refine lexO_take2 ?_ rfl (by kernel_rfl) (by with_reducible assumption) (fun w' hS K Q' hK => ?_) ?_; rotate_left; focus (have hS2 := hS.2; clear hS; go_wp2_with fail; exact hK))
    refine lexO_done ?_
    go_wp2_with fail
    have WS := HS.out.srcs (W := w2) ⟨Nat.le_trans HB0.out.size H2.out.size, fun b hb _ => (H2.out.block b (by have := HBB.out; omega)).trans (HB0.out.block b hb)⟩ ba oa rfl
    rw [run_copy_cells (P := Tryz.prog) w2 _ _ _ 5 _ _ _ _ _ _ _ (ab.map (.int .u8)) Tryz.underlying22 sz1B (by rw [List.length_map, ← HM.out]; show m = min m m; omega) WS ?hdc ?hdf ?hdo]
    case hdc =>
      intro j hj
      rw [List.length_map, ← HM.out] at hj
      rw [HH.out.row j _ (List.getElem?_eq_getElem (by simp; omega))]
      rfl
    case hdf => exact fun j _ => HH.out.frD _
    case hdo => exact ints_oneCell .u8 ab
    have HH3 := Lib.hid (HH.out.first (ds := ab) (by rw [← HM.out]; exact hxl))
    have H3 := Lib.hid (show Below B w (w2.setCells D s (ab.map (.int .u8))) from below_setCells (Nat.le_of_lt HH.out.lt) _ _ H2.out)
    have HK3 := Lib.hid (HKO.out.trans (koff_setCells HH.out s (ab.map (.int .u8))))
    clear WS g2 lG2 H2 HKO
    generalize w2.setCells D s (ab.map (.int .u8)) = w3 at *
    clear HH
    go_wp2_with fail
    exact bodyPost_ret (v := .nilIface) (by simp only [results, Tryz.results115]; go_simp) rfl ⟨rfl, H3.out, .inr ⟨D, s, HH3.out⟩, HK3.out⟩

theorem auxr_c {w0 w : World} {G o B : Nat} {av : Value} {ab pay : List Int} (c5 : w0.cell? ⟨G, o + 5, none⟩ = some av) (hs : SB w0 (fun _ => True) av ab) (h4 : ab.length % 4 = 0) (hl : ab.length ≤ 400) (hp : pay.length ≤ 1000) (hb0 : Below w0.heap.size w0 w) (hB : w0.heap.size ≤ B) (hbuf : Buf w B pay) :
    Calls Tryz.prog 115 #[.pointer (some ⟨G, o, none⟩), .iface 166 (.pointer (some ⟨B, 0, none⟩)), .agg #[.bool false, .bool false]] w fun e w' =>
      e = .returned .nilIface ∧ Below B w w' ∧ Buf w' B (ab ++ pay) ∧ KeepsOff w w' B := by
  by_cases h0 : ab = []
  · exact auxr_none c5 hs h0 hp hb0 hB hbuf
  · exact auxr_some c5 hs h0 h4 hl hp hb0 hB hbuf
end Go.Proofs.YtmpifdanfnebpaaGreat
