/-
  A record of MLDv2 is written ahead of what the buffer holds.
-/
import Derived.Test.YtmpifdanfnebpaaGreatAuxr
import Derived.Test.YtmpifdanfnebpaaGreatSrcr
namespace Go.Proofs.YtmpifdanfnebpaaGreat
open Go Go.RowKit

theorem koff_data {w W : World} {B D s : Nat} {bs bs' : List Int} (hk : Keeps (fun b => b ≠ D) w W) (h1 : Holds w B D s bs) (h2 : Holds W B D s bs') : KeepsOff w W B := fun b ⟨g1, g2, g3⟩ => by
  have e : b ≠ D := fun e => g3 _ _ (e ▸ h1.data)
  refine ⟨⟨Nat.lt_of_lt_of_le g1 hk.size, g2, fun n c hc => ?_⟩, hk.block b e g1⟩
  rw [h2.data] at hc
  have e2 : D = b := by injection hc with e; injection e with e; injection e with e; injection e
  exact e e2.symm
theorem flat_16 {l : List (List Int)} (h : ∀ d ∈ l, d.length = 16) : l.flatten.length = 16 * l.length := by
  induction l with
  | nil => rfl
  | cons d l ih => rw [List.flatten_cons, List.length_append, ih (fun x hx => h x (by simp [hx])), h d (by simp), List.length_cons]; omega

set_option maxRecDepth 100000 in
set_option maxHeartbeats 4000000 in
theorem recser_c {w0 w : World} {G o B : Nat} {t a n : Int} {mv iv av : Value} {ma ab pay : List Int} {ips : List (List Int)} (lG : G < w0.heap.size) (c0 : w0.cell? ⟨G, o, none⟩ = some (.int .u8 t)) (c1 : w0.cell? ⟨G, o + 1, none⟩ = some (.int .u8 a)) (c2 : w0.cell? ⟨G, o + 2, none⟩ = some (.int .u16 n))
    (c3 : w0.cell? ⟨G, o + 3, none⟩ = some mv) (c4 : w0.cell? ⟨G, o + 4, none⟩ = some iv) (c5 : w0.cell? ⟨G, o + 5, none⟩ = some av) (hm : SB w0 (fun _ => True) mv ma) (hi : SD w0 (fun _ => True) iv ips) (ha : SB w0 (fun _ => True) av ab) (hml : ma.length = 16) (h16 : ∀ d ∈ ips, d.length = 16) (hil : ips.length ≤ 25)
    (h4 : ab.length % 4 = 0) (hal : ab.length ≤ 400) (hn : 0 ≤ n ∧ n ≤ 65535) (hp : pay.length ≤ 400) (hb0 : Below w0.heap.size w0 w) (hB : w0.heap.size ≤ B) (hbuf : Buf w B pay) :
    Calls Tryz.prog 114 #[.pointer (some ⟨G, o, none⟩), .iface 166 (.pointer (some ⟨B, 0, none⟩)), .agg #[.bool false, .bool false]] w fun e w' =>
      e = .returned .nilIface ∧ Below B w w' ∧ Buf w' B (t :: a :: n / 256 :: n % 256 :: (ma ++ (ips.flatten ++ (ab ++ pay)))) ∧ KeepsOff w w' B := by
  have mp := m_prepend
  obtain ⟨n0, n1, hn2, hn0, hn1⟩ : ∃ x y : Int, n = x * 256 + y ∧ (0 ≤ x ∧ x ≤ 255) ∧ (0 ≤ y ∧ y ≤ 255) := ⟨n / 256, n % 256, by omega, by omega, by omega⟩
  rw [show n / 256 = n0 by omega, show n % 256 = n1 by omega]
  subst hn2
  have lGB : G < B := by omega
  have lB : B < w.heap.size := hbuf.lt
  have HBUF := Lib.hid hbuf
  have HB0 := Lib.hid hb0
  have HBB := Lib.hid hB
  have H16 := Lib.hid h16
  have HI := Lib.hid (And.intro c4 hi)
  have HA := Lib.hid (And.intro c5 ha)
  have HM := Lib.hid (hm.imp (fun b hb _ => hb : ∀ b, b < w0.heap.size → True → b < w0.heap.size))
  obtain ⟨pm, cm, rfl⟩ := hm.form
  have HC := Lib.hid (And.intro c0 (And.intro c1 (And.intro c2 c3)))
  have hfl := flat_16 h16
  clear hbuf hb0 hB h16 c0 c1 c2 c3 c4 c5 hm hi ha
  go_enter Tryz.func114, Tryz.ntmps114
  go_wp2_with fail
  refine (auxr_c (w0 := w0) (pay := pay) HA.out.1 HA.out.2 h4 hal (by omega) (by have h0 := HB0.out; have := h0.size; exact (by repeat (first | with_reducible assumption | with_reducible refine Below.drew ?_ | with_reducible refine below_drewN' ?_ _ | with_reducible refine Below.alloc ?_ ?_ _ | with_reducible refine Below.setCell ?_ ?_ _ | with_reducible exact Nat.le_refl _ | omega | focus (simp; done) | focus (simp; omega)))) HBB.out (HBUF.out.keeps (by have h0 := Below.refl w.heap.size w; exact (by repeat (first | with_reducible assumption | with_reducible refine Below.drew ?_ | with_reducible refine below_drewN' ?_ _ | with_reducible refine Below.alloc ?_ ?_ _ | with_reducible refine Below.setCell ?_ ?_ _ | with_reducible exact Nat.le_refl _ | omega | focus (simp; done) | focus (simp; omega)))))).mono ?_
  rintro e0 w1 ⟨rfl, hb1, hbuf1, hk1⟩
  have u0 : w1.cell? ⟨w.heap.size, 0, none⟩ = some (.bool false) := (hk1.cell (off_new HBUF.out (by have h0 := Below.refl w.heap.size w; exact (by repeat (first | with_reducible assumption | with_reducible refine Below.drew ?_ | with_reducible refine below_drewN' ?_ _ | with_reducible refine Below.alloc ?_ ?_ _ | with_reducible refine Below.setCell ?_ ?_ _ | with_reducible exact Nat.le_refl _ | omega | focus (simp; done) | focus (simp; omega)))) (Nat.le_refl _) (by first | omega | (simp; done) | (simp; omega))) 0).trans (by go_simp)
  have u1 : w1.cell? ⟨w.heap.size, 1, none⟩ = some (.bool false) := (hk1.cell (off_new HBUF.out (by have h0 := Below.refl w.heap.size w; exact (by repeat (first | with_reducible assumption | with_reducible refine Below.drew ?_ | with_reducible refine below_drewN' ?_ _ | with_reducible refine Below.alloc ?_ ?_ _ | with_reducible refine Below.setCell ?_ ?_ _ | with_reducible exact Nat.le_refl _ | omega | focus (simp; done) | focus (simp; omega)))) (Nat.le_refl _) (by first | omega | (simp; done) | (simp; omega))) 1).trans (by go_simp)
  have lO1 : w.heap.size < w1.heap.size := World.block_lt_of_cell? _ _ u0
  have HK1 := Lib.hid (show KeepsOff w w1 B from (koff_below lB (by have h0 := Below.refl w.heap.size w; exact (by repeat (first | with_reducible assumption | with_reducible refine Below.drew ?_ | with_reducible refine below_drewN' ?_ _ | with_reducible refine Below.alloc ?_ ?_ _ | with_reducible refine Below.setCell ?_ ?_ _ | with_reducible exact Nat.le_refl _ | omega | focus (simp; done) | focus (simp; omega))))).trans hk1)
  have H1 := Lib.hid (show Below B w w1 from Below.trans (by have h0 := Below.refl B w; exact (by repeat (first | with_reducible assumption | with_reducible refine Below.drew ?_ | with_reducible refine below_drewN' ?_ _ | with_reducible refine Below.alloc ?_ ?_ _ | with_reducible refine Below.setCell ?_ ?_ _ | with_reducible exact Nat.le_refl _ | omega | focus (simp; done) | focus (simp; omega)))) hb1)
  have HBUF1 := Lib.hid hbuf1
  clear hb1 hbuf1 hk1
  go_wp2_with fail
  refine (srcr_c (w0 := w0) (o := o) (ips := ips) (pay := ab ++ pay) lG HI.out.1 HI.out.2 H16.out (by omega) (by rw [List.length_append]; omega) (by have h0 := HB0.out.trans (H1.out.mono HBB.out); have := h0.size; exact (by repeat (first | with_reducible assumption | with_reducible refine Below.drew ?_ | with_reducible refine below_drewN' ?_ _ | with_reducible refine Below.alloc ?_ ?_ _ | with_reducible refine Below.setCell ?_ ?_ _ | with_reducible exact Nat.le_refl _ | omega | focus (simp; done) | focus (simp; omega)))) HBB.out (HBUF1.out.keeps (by have h0 := Below.refl w1.heap.size w1; exact (by repeat (first | with_reducible assumption | with_reducible refine Below.drew ?_ | with_reducible refine below_drewN' ?_ _ | with_reducible refine Below.alloc ?_ ?_ _ | with_reducible refine Below.setCell ?_ ?_ _ | with_reducible exact Nat.le_refl _ | omega | focus (simp; done) | focus (simp; omega)))))).mono ?_
  rintro e0 w2 ⟨rfl, hb2, hbuf2, hk2⟩
  have lB1 : B < w1.heap.size := by omega
  have HK2 := Lib.hid (show KeepsOff w w2 B from (HK1.out.trans (koff_below lB1 (by have h0 := Below.refl w1.heap.size w1; exact (by repeat (first | with_reducible assumption | with_reducible refine Below.drew ?_ | with_reducible refine below_drewN' ?_ _ | with_reducible refine Below.alloc ?_ ?_ _ | with_reducible refine Below.setCell ?_ ?_ _ | with_reducible exact Nat.le_refl _ | omega | focus (simp; done) | focus (simp; omega)))))).trans hk2)
  have H2 := Lib.hid (show Below B w w2 from (H1.out.trans (by have h0 := Below.refl B w1; exact (by repeat (first | with_reducible assumption | with_reducible refine Below.drew ?_ | with_reducible refine below_drewN' ?_ _ | with_reducible refine Below.alloc ?_ ?_ _ | with_reducible refine Below.setCell ?_ ?_ _ | with_reducible exact Nat.le_refl _ | omega | focus (simp; done) | focus (simp; omega))))).trans hb2)
  have HBUF2 := Lib.hid hbuf2
  have lB2 : B < w2.heap.size := hbuf2.lt
  clear hb2 hbuf2 hk2 u0 u1
  go_wp2_with fail
  refine (prepend_c (k := 20) (bs := ips.flatten ++ (ab ++ pay)) (HBUF2.out.keeps (by have h0 := Below.refl w2.heap.size w2; exact (by repeat (first | with_reducible assumption | with_reducible refine Below.drew ?_ | with_reducible refine below_drewN' ?_ _ | with_reducible refine Below.alloc ?_ ?_ _ | with_reducible refine Below.setCell ?_ ?_ _ | with_reducible exact Nat.le_refl _ | omega | focus (simp; done) | focus (simp; omega))))) (by omega) (by omega) (by rw [List.length_append, List.length_append]; omega)).mono ?_
  rintro e1 w3 ⟨D, s, c, xs, rfl, hcc, hcm, hxl, hh, hb3, hk3, hD3⟩
  have HK3 := Lib.hid (show KeepsOff w w3 B from (HK2.out.trans (koff_below lB2 (by have h0 := Below.refl w2.heap.size w2; exact (by repeat (first | with_reducible assumption | with_reducible refine Below.drew ?_ | with_reducible refine below_drewN' ?_ _ | with_reducible refine Below.alloc ?_ ?_ _ | with_reducible refine Below.setCell ?_ ?_ _ | with_reducible exact Nat.le_refl _ | omega | focus (simp; done) | focus (simp; omega)))))).trans (koff_holds hk3 hh (hD3.imp_right fun ⟨s0, h⟩ => ⟨s0, _, h⟩)))
  have H3 := Lib.hid (show Below B w w3 from (H2.out.trans (by have h0 := Below.refl B w2; exact (by repeat (first | with_reducible assumption | with_reducible refine Below.drew ?_ | with_reducible refine below_drewN' ?_ _ | with_reducible refine Below.alloc ?_ ?_ _ | with_reducible refine Below.setCell ?_ ?_ _ | with_reducible exact Nat.le_refl _ | omega | focus (simp; done) | focus (simp; omega))))).trans hb3)
  have hw : ∀ j u, w0.cell? ⟨G, j, none⟩ = some u → w3.cell? ⟨G, j, none⟩ = some u := fun j u hu => (H3.out.cell (p := ⟨G, j, none⟩) lGB).trans ((HB0.out.cell (p := ⟨G, j, none⟩) lG).trans hu)
  have lD : D < w3.heap.size := hh.ltD
  have eGD : ¬ G = D := by have := hh.lt; omega
  have eDG : ¬ D = G := by omega
  have hc2 : (2 : Int) ≤ (c : Int) := by omega
  have hc4 : (4 : Int) ≤ (c : Int) := by omega
  have hc20 : (20 : Int) ≤ (c : Int) := by omega
  have ec2 : ¬ c = 2 := by omega
  have ec4 : ¬ c = 4 := by omega
  obtain ⟨rest, hrest⟩ : ∃ r, r = ips.flatten ++ (ab ++ pay) := ⟨_, rfl⟩
  rw [← hrest] at hh
  have HREST := Lib.hid hrest
  obtain ⟨y0, y1, y2, y3, z, rfl, hz⟩ : ∃ a b c d z, xs = a :: b :: c :: d :: z ∧ z.length = 16 := by
    match xs, hxl with
    | a :: b :: c :: d :: z, hx => exact ⟨a, b, c, d, z, rfl, by simp at hx; omega⟩
  have k0 : w3.cell? ⟨G, o, none⟩ = some (.int .u8 t) := hw _ _ HC.out.1
  have k1 : w3.cell? ⟨G, o + 1, none⟩ = some (.int .u8 a) := hw _ _ HC.out.2.1
  have k2 : w3.cell? ⟨G, o + 2, none⟩ = some (.int .u16 (n0 * 256 + n1)) := hw _ _ HC.out.2.2.1
  have k3 : w3.cell? ⟨G, o + 3, none⟩ = some (.slice pm ma.length cm) := hw _ _ HC.out.2.2.2
  rw [hml] at k3
  have lG3 : G < w3.heap.size := World.block_lt_of_cell? _ _ k0
  have d0 := hh.row 0 _ rfl
  have d1 := hh.row 1 _ rfl
  have d2 := hh.row 2 _ rfl
  have d3 : w3.cell? ⟨D, s + 2 + 1, none⟩ = _ := hh.row 3 _ rfl
  rw [Nat.add_zero] at d0
  have fd0 := hh.frD s
  have fd1 := hh.frD (s + 1)
  have fd2 := hh.frD (s + 2)
  have fd3 := hh.frD (s + 2 + 1)
  have HH := Lib.hid (show Holds w3 B D s (y0 :: y1 :: y2 :: y3 :: (z ++ rest)) from hh)
  clear hh hb3 hk3 hD3 hw hcm hfl hxl hrest
  go_wp2_with fail
  refine wp_region_same [7] (.q 0 (.q 1 (.q 2 (.q 3 (.q 4 (.q 5 (.q 6 (.l 7 .done .stop)))))))) (by kernel_rfl) (by kernel_rfl) (fun _ _ d _ _ h => by cases d <;> exact h) (by simp only [Ord.fill, nthOp]; rfl) ?_; intro hSm
  repeat
    first | refine lexO_pass rfl ?_ | (refine lexO_take2 ?_ rfl (by kernel_rfl) (by with_reducible assumption) (fun w' hS K Q' hK => ?_) ?_; rotate_left; focus (have hS2 := hS.2; clear hS; go_wp2_with fail; exact hK))
  refine lexO_do rfl (fun K hK => ?_) lexO_stop
  go_wp2_with (go_at_call 90; refine (put16_c n0 n1 (y0 := .int .u8 y2) (y1 := .int .u8 y3) (by omega) hn0 hn1 (by go_simp) (by go_simp) (by go_simp) (by go_simp)).mono ?_; rintro e w' ⟨rfl, rfl⟩)
  first | refine step_last (by decide) (lexO_done ?_) | refine lexO_done ?_
  go_wp2_with fail
  obtain ⟨bm, om, rfl⟩ : ∃ b o, pm = some ⟨b, o, none⟩ := by
    obtain ⟨p', c', he, -, -, -, hr⟩ := HM.out
    simp only [Value.slice.injEq] at he
    obtain ⟨rfl, -, -⟩ := he
    rcases hr with hr | ⟨b, o, rfl, -⟩
    · simp at hr; subst hr; simp at hml
    · exact ⟨b, o, rfl⟩
  have qT : ∀ (w : World) (a : Option Addr) (n c n' c' : Nat), (binOp .eql 84 (.slice a n c) (.slice none n' c')).run Tryz.prog w = .ok (.bool a.isNone) w := fun w a n c n' c' => Lib.run_eql_slice_nil w _ _ a n c n' c' Tryz.underlying84
  go_wp2_with fail
  generalize hW : World.drew _ = W
  have HW := Lib.hid (show Holds W B D s (t :: a :: n0 :: n1 :: (z ++ rest)) from by
    rw [← hW]
    clear hW
    show Holds _ B D s (((((y0 :: y1 :: y2 :: y3 :: (z ++ rest)).set 0 t).set 1 a).set 2 n0).set 3 n1)
    repeat (first | with_reducible exact HH.out | with_reducible refine Holds.drew ?_ | with_reducible refine Holds.drewN ?_ _ | with_reducible refine Holds.alloc ?_ _ | refine Holds.set ?_ (by simp) (by omega) _))
  have HBW := Lib.hid (show Below B w W from by
    rw [← hW]
    clear hW
    have h0 := H3.out
    have h1 := HH.out.lt
    exact (by repeat (first | with_reducible assumption | with_reducible refine Below.drew ?_ | with_reducible refine below_drewN' ?_ _ | with_reducible refine Below.alloc ?_ ?_ _ | with_reducible refine Below.setCell ?_ ?_ _ | with_reducible exact Nat.le_refl _ | omega | focus (simp; done) | focus (simp; omega))))
  have HKW := Lib.hid (HK3.out.trans (koff_data (show Keeps (fun b => b ≠ D) w3 W from Keeps.of_lt (by rw [← hW]; clear hW; exact (by repeat (first | with_reducible assumption | with_reducible exact Keeps.refl _ _ | with_reducible refine Keeps.drew ?_ | with_reducible refine Keeps.drewN ?_ _ | with_reducible refine Keeps.alloc ?_ _ | with_reducible refine Keeps.setCell ?_ ?_ _ | omega | focus (simp; done) | focus (simp; omega))))) HH.out HW.out))
  clear hW d0 d1 d2 d3 fd0 fd1 fd2 fd3 H3 HK3 HH lD lG3 k0 k1 k2 k3
  have lGW : G < W.heap.size := by have := HW.out.ltD; have := HW.out.lt; omega
  refine to16_c.mono ?_
  rintro e w' ⟨rfl, rfl⟩
  go_wp2_with fail
  have WS := HM.out.srcs (W := W) ⟨Nat.le_trans HB0.out.size HBW.out.size, fun b hb _ => (HBW.out.block b (by have := HBB.out; omega)).trans (HB0.out.block b hb)⟩ bm om rfl
  rw [run_copy_cells (P := Tryz.prog) W _ _ _ 5 _ _ _ _ _ _ _ (ma.map (.int .u8)) Tryz.underlying22 sz1B (by rw [List.length_map, hml]; rfl) WS ?hdc ?hdf ?hdo]
  case hdc =>
    intro j hj
    rw [List.length_map] at hj
    rw [show s + 4 + j = s + (4 + j) by omega, HW.out.row (4 + j) _ (List.getElem?_eq_getElem (by simp; omega))]
    rfl
  case hdf => exact fun j _ => HW.out.frD _
  case hdo => exact ints_oneCell .u8 ma
  have HW2 := Lib.hid (show Holds (W.setCells D (s + 4) (ma.map (.int .u8))) B D s (t :: a :: n0 :: n1 :: (ma ++ rest)) from by
    have := HW.out.setCells (i := 4) (vs := ma) rfl (by simp; omega)
    have e2 : List.drop (4 + ma.length) (t :: a :: n0 :: n1 :: (z ++ rest)) = rest := by
      rw [Nat.add_comm]
      show List.drop ma.length (z ++ rest) = _
      rw [hml, ← hz, List.drop_left]
    rw [e2] at this
    exact this)
  have HB2 := Lib.hid (show Below B w (W.setCells D (s + 4) (ma.map (.int .u8))) from below_setCells (Nat.le_of_lt HW.out.lt) _ _ HBW.out)
  have HKF := Lib.hid (HKW.out.trans (koff_setCells HW.out (s + 4) (ma.map (.int .u8))))
  clear WS HW HBW HKW lGW
  generalize W.setCells D (s + 4) (ma.map (.int .u8)) = W2 at *
  go_wp2_with fail
  refine bodyPost_ret (v := .nilIface) (by simp only [results, Tryz.results114]; go_simp) rfl ⟨rfl, HB2.out, ?_, HKF.out⟩
  have h := HW2.out
  rw [HREST.out] at h
  exact .inr ⟨D, s, h⟩
end Go.Proofs.YtmpifdanfnebpaaGreat
