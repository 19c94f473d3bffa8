/-
  SerializeTo of mldreport2.
-/
import Derived.Test.YtmpifdanfnebpaaGreatRecw
import Derived.Test.YtmpifdanfnebpaaGreatRepw
namespace Go.Proofs.YtmpifdanfnebpaaGreat
open Go Go.RowKit

/-- Records of a report, of the lengths that they are written with. -/
def eR : Elem (List Int × List Int) where
  size := 6
  R w ok cs p := ∃ (t a n : Int) (mv iv av : Value) (ma : List Int) (ips : List (List Int)) (ab : List Int), cs = [.int .u8 t, .int .u8 a, .int .u16 n, mv, iv, av] ∧ p = ([t, a, n, (ips.length : Int)], ma ++ (ips.flatten ++ ab)) ∧
    SB w ok mv ma ∧ SD w ok iv ips ∧ SB w ok av ab ∧ (0 ≤ n ∧ n ≤ 65535) ∧ ma.length = 16 ∧ ips.length ≤ 25 ∧ (∀ d ∈ ips, d.length = 16) ∧ ab.length % 4 = 0 ∧ ab.length ≤ 400
  len := by rintro w ok cs x ⟨t, a, n, mv, iv, av, ma, ips, ab, rfl, _⟩; rfl
  one := by
    rintro w ok cs x ⟨t, a, n, mv, iv, av, ma, ips, ab, rfl, _, ⟨_, _, rfl, _⟩, ⟨_, _, ⟨_, _, rfl, _⟩, _⟩, ⟨_, _, rfl, _⟩, _⟩ v hv
    simp at hv
    rcases hv with rfl | rfl | rfl | rfl | rfl | rfl <;> rfl
  keeps := by rintro w w' ok cs x k ⟨t, a, n, mv, iv, av, ma, ips, ab, rfl, h1, h2, h3, h4, h5⟩; exact ⟨t, a, n, mv, iv, av, ma, ips, ab, rfl, h1, h2.keeps k, h3.keeps k, h4.keeps k, h5⟩
  imp := by rintro w ok ok' cs x hi ⟨t, a, n, mv, iv, av, ma, ips, ab, rfl, h1, h2, h3, h4, h5⟩; exact ⟨t, a, n, mv, iv, av, ma, ips, ab, rfl, h1, h2.imp hi, h3.imp hi, h4.imp hi, h5⟩
def MIsReport (m : Int) (ps : List (List Int × List Int)) (w : World) (X : Nat) : Prop :=
  X < w.heap.size ∧ w.cell? ⟨X, 2, none⟩ = some (.int .u16 m) ∧ ∃ v, w.cell? ⟨X, 3, none⟩ = some v ∧ Rows eR w 0 (fun _ => True) 106 v ps
theorem m_ser_report (k : Nat) (a : Addr) (w : World) : (method (k + 1) 100 (.pointer (some a)) "SerializeTo").run Tryz.prog w = .ok (112, .pointer (some a)) w := by kernel_rfl
theorem c_ser_report (args : Array Value) (W : World) : (callFunc 112 args).run Tryz.prog W = .ok (.enter 112 args) W := by kernel_rfl
theorem drop_stepR {ps : List (List Int × List Int)} {n k : Nat} (hn : n = ps.length) (hk : k < n) {p : List Int × List Int} (hp : ps[n - 1 - k]? = some p) : rB p ++ (ps.drop (n - k)).flatMap rB = (ps.drop (n - (k + 1))).flatMap rB := by
  subst hn
  have hlt : ps.length - 1 - k < ps.length := by omega
  have e : ps.drop (ps.length - (k + 1)) = p :: ps.drop (ps.length - k) := by
    rw [show ps.length - (k + 1) = ps.length - 1 - k by omega, List.drop_eq_getElem_cons hlt, show ps.length - 1 - k + 1 = ps.length - k by omega]
    rw [List.getElem?_eq_getElem hlt] at hp
    rw [Option.some.inj hp]
  rw [e, List.flatMap_cons]
theorem flat_dropR (ps : List (List Int × List Int)) (k : Nat) : ((ps.drop k).flatMap rB).length ≤ (ps.flatMap rB).length := by
  have e : ps.flatMap rB = (ps.take k).flatMap rB ++ (ps.drop k).flatMap rB := by rw [← List.flatMap_append, List.take_append_drop]
  rw [e, List.length_append]
  omega

set_option maxRecDepth 100000 in
set_option maxHeartbeats 4000000 in
theorem ser_report {x2 x3 : Int} {ps : List (List Int × List Int)} (h2 : 0 ≤ x2 ∧ x2 ≤ 255) (h3 : 0 ≤ x3 ∧ x3 ≤ 255) (hl : (ps.flatMap rB).length ≤ 400) (hn50 : ps.length ≤ 50) :
    SerOf 112 [] (0 :: 0 :: x2 :: x3 :: ps.flatMap rB) (MIsReport (x2 * 256 + x3) ps) := by
  intro w0 w X B hI hb hB hbuf
  obtain ⟨lX, c2, v3, c3, hrows⟩ := hI
  have mp := m_prepend
  obtain ⟨pI, cI, rfl⟩ := hrows.form
  obtain ⟨n, hnn⟩ : ∃ n, n = ps.length := ⟨_, rfl⟩
  rw [← hnn] at c3 hn50
  have HNN := Lib.hid hnn
  have HR := Lib.hid hrows
  have lXB : X < B := by omega
  have lXw : X < w.heap.size := Nat.lt_of_lt_of_le lX hb.size
  have c2w : w.cell? ⟨X, 2, none⟩ = _ := (hb.cell (p := ⟨X, 2, none⟩) lX).trans c2
  have c3w : w.cell? ⟨X, 3, none⟩ = _ := (hb.cell (p := ⟨X, 3, none⟩) lX).trans c3
  have HBUF := Lib.hid hbuf
  have HB0 := Lib.hid hb
  have HBB := Lib.hid hB
  have lB : B < w.heap.size := hbuf.lt
  have HLD := Lib.hid (fun k => Nat.le_trans (flat_dropR ps k) hl : ∀ k, ((ps.drop k).flatMap rB).length ≤ 400)
  clear hbuf hb hB hnn hrows c2 c3 hl
  go_enter Tryz.func112, Tryz.ntmps112
  go_wp2_with fail
  refine wp_gen (fun W => (W.cell? ⟨w.heap.size, 0, none⟩ = some (.bool false) ∧ W.cell? ⟨w.heap.size, 1, none⟩ = some (.bool false)) ∧ Below w.heap.size w W ∧ w.heap.size < W.heap.size) ?F (fun W1 hW1 => ?_)
  case F => exact ⟨⟨by go_simp, by go_simp⟩, by have h0 := Below.refl w.heap.size w; exact (by repeat (first | with_reducible assumption | with_reducible refine Below.drew ?_ | with_reducible refine below_drewN' ?_ _ | with_reducible refine Below.alloc ?_ ?_ _ | with_reducible refine Below.setCell ?_ ?_ _ | with_reducible exact Nat.le_refl _ | omega | focus (simp; done) | focus (simp; omega))), by first | omega | (simp; done) | (simp; omega)⟩
  obtain ⟨⟨u0, u1⟩, hW, lO1⟩ := hW1
  have HW1 := Lib.hid hW
  have HBUF1 := Lib.hid (HBUF.out.keeps hW)
  have HOF := Lib.hid (off_new HBUF.out hW (Nat.le_refl _) lO1)
  have lB1 : B < W1.heap.size := by omega
  have HWB := Lib.hid (show Below B w W1 from hW.mono (by omega))
  clear hW
  go_loopw [8, 9, 10, 25] (fun _ _ _ i wr => ∃ k : Nat, k ≤ n ∧ i = .int .i64 (k : Int) ∧ Hid (Buf wr B ((ps.drop (n - k)).flatMap rB)) ∧ Hid (Below B w wr) ∧ Hid (KeepsOff W1 wr B)) (fun _ _ _ i _ => n - (intOf i).toNat)
  case atStart => exact ⟨0, Nat.zero_le _, rfl, Lib.hid (by rw [HNN.out, Nat.sub_zero, List.drop_length]; exact HBUF1.out), HWB, Lib.hid (KeepsOff.refl _ _)⟩
  case round =>
    obtain ⟨k, hk, rfl, hbr, hwr, hko⟩ := hrel
    have q3 := (hwr.out.cell (p := ⟨X, 3, none⟩) lXB).trans c3w
    have q2 := (hwr.out.cell (p := ⟨X, 2, none⟩) lXB).trans c2w
    have v0 := (hko.out.cell HOF.out 0).trans u0
    have v1 := (hko.out.cell HOF.out 1).trans u1
    have lBr : B < wr.heap.size := hbr.out.lt
    have lXr : X < wr.heap.size := by omega
    have lOr : w.heap.size < wr.heap.size := World.block_lt_of_cell? _ _ v0
    by_cases hlt : k < n
    · obtain ⟨gI, cI', cs, p, hiv, hgI, -, hp, hcs, t, a, m, mv, iv, av, ma, ips, ab, rfl, rfl, hm, hi, ha, bm, hml, hil, h16, h4, hal⟩ := HR.out.get (j := n - 1 - k) (by have := HNN.out; omega)
      have hiv1 : pI = some ⟨gI, 0, none⟩ := by simp only [Value.slice.injEq] at hiv; exact hiv.1
      subst hiv1
      have HC := Lib.hid (show ∀ i x, [Value.int .u8 t, .int .u8 a, .int .u16 m, mv, iv, av][i]? = some x → w0.cell? ⟨gI, (n - 1 - k) * 6 + i, none⟩ = some x from hcs)
      have HM := Lib.hid (And.intro hm (And.intro hi ha))
      have H16 := Lib.hid h16
      have HP := Lib.hid hp
      have hkI : ((k : Nat) : Int) < (n : Int) := by omega
      have en : ((n - 1 - k : Nat) : Int) = (n : Int) - 1 - (k : Int) := by omega
      have ln : n - 1 - k < n := by omega
      have ent : ((n : Int) - 1 - (k : Int)).toNat = n - 1 - k := by omega
      have en0 : 0 ≤ (n : Int) - 1 - (k : Int) := by omega
      have en1 : (n : Int) - 1 - (k : Int) < (n : Int) := by omega
      have HK1 := Lib.hid hlt
      clear hiv hcs hm hi ha h16 hp
      go_wp2_with fail
      refine wp_region_on (fun b => b = X ∨ b = w.heap.size) (fun b hb => by first | omega | (rcases hb with hb | hb <;> omega) | (rcases hb with hb | hb <;> simp <;> omega)) [] (.q 0 (.q 1 (.q 2 (.q 3 (.q 4 (.q 5 (.q 6 (.q 7 (.l 8 (.q 9 .done) .stop))))))))) (by kernel_rfl) (by kernel_rfl) (fun _ _ d _ _ h => by cases d <;> exact h) (by simp only [Ord.fill, nthOp]; rfl) ?_; intro hSm
      repeat
        first | refine lexO_pass rfl ?_ | (refine lexO_take2 ?_ rfl (by kernel_rfl) (by with_reducible assumption) (fun w' hS K Q' hK => ?_) ?_; rotate_left; focus (have hS2 := hS.2; clear hS; go_wp2_with fail; exact hK))
      refine lexO_do rfl (fun K hK => ?_) lexO_stop
      go_wp2_with fail
      refine (recser_c (w0 := w0) (o := (n - 1 - k) * 6) (pay := (ps.drop (n - k)).flatMap rB) hgI (HC.out 0 _ rfl) (HC.out 1 _ rfl) (HC.out 2 _ rfl) (HC.out 3 _ rfl) (HC.out 4 _ rfl) (HC.out 5 _ rfl) HM.out.1 HM.out.2.1 HM.out.2.2 hml H16.out hil h4 hal bm (HLD.out _) (by have h0 := HB0.out.trans (hwr.out.mono HBB.out); have := h0.size; exact (by repeat (first | with_reducible assumption | with_reducible refine Below.drew ?_ | with_reducible refine below_drewN' ?_ _ | with_reducible refine Below.alloc ?_ ?_ _ | with_reducible refine Below.setCell ?_ ?_ _ | with_reducible exact Nat.le_refl _ | omega | focus (simp; done) | focus (simp; omega)))) HBB.out (hbr.out.keeps (by have h0 := Below.refl wr.heap.size wr; exact (by repeat (first | with_reducible assumption | with_reducible refine Below.drew ?_ | with_reducible refine below_drewN' ?_ _ | with_reducible refine Below.alloc ?_ ?_ _ | with_reducible refine Below.setCell ?_ ?_ _ | with_reducible exact Nat.le_refl _ | omega | focus (simp; done) | focus (simp; omega)))))).mono ?_
      rintro e w2 ⟨rfl, hb2, hbuf2, hk2⟩
      have H2 := Lib.hid (show Below B w w2 from (hwr.out.trans (by have h0 := Below.refl B wr; exact (by repeat (first | with_reducible assumption | with_reducible refine Below.drew ?_ | with_reducible refine below_drewN' ?_ _ | with_reducible refine Below.alloc ?_ ?_ _ | with_reducible refine Below.setCell ?_ ?_ _ | with_reducible exact Nat.le_refl _ | omega | focus (simp; done) | focus (simp; omega))))).trans hb2)
      have HKO2 := Lib.hid (show KeepsOff W1 w2 B from (hko.out.trans (koff_below lBr (by have h0 := Below.refl wr.heap.size wr; exact (by repeat (first | with_reducible assumption | with_reducible refine Below.drew ?_ | with_reducible refine below_drewN' ?_ _ | with_reducible refine Below.alloc ?_ ?_ _ | with_reducible refine Below.setCell ?_ ?_ _ | with_reducible exact Nat.le_refl _ | omega | focus (simp; done) | focus (simp; omega)))))).trans hk2)
      have HBUF2 := Lib.hid hbuf2
      have z0 := (HKO2.out.cell HOF.out 0).trans u0
      have lO2 : w.heap.size < w2.heap.size := World.block_lt_of_cell? _ _ z0
      have lX2 : X < w2.heap.size := by omega
      have hsx : ∀ j, w2.cell? ⟨X, j, none⟩ = wr.cell? ⟨X, j, none⟩ := fun j => hb2.cell (p := ⟨X, j, none⟩) lXB
      go_wp2_with fail
      refine step_and (by
        refine ⟨fun b hb => by rcases hb with rfl | rfl <;> omega, fun b j hb => ?_⟩
        rcases hb with rfl | rfl
        · exact hsx j
        · exact (HKO2.out.cell HOF.out j).trans (hko.out.cell HOF.out j).symm) (fun _ => ?_)
      clear hb2 hbuf2 hk2 hsx
      repeat
        first | refine lexO_pass rfl ?_ | (refine lexO_take2 ?_ rfl (by kernel_rfl) (by with_reducible assumption) (fun w' hS K Q' hK => ?_) ?_; rotate_left; focus (have hS2 := hS.2; clear hS; go_wp2_with fail; exact hK))
      refine lexO_done ?_
      go_wp2_with fail
      go_roundw
      case rel => exact ⟨k + 1, HK1.out, by go_num, Lib.hid (by
        rw [← drop_stepR HNN.out HK1.out HP.out]
        have h := HBUF2.out
        simp only [rB, List.cons_append, List.append_assoc]
        exact h), H2, HKO2⟩
      case measure => have := HK1.out; simp [intOf]; omega
    · obtain rfl : n = k := by omega
      have hkI : ¬ ((n : Nat) : Int) < (n : Int) := by omega
      have hbr0 : Buf wr B (ps.flatMap rB) := by have h := hbr.out; rwa [Nat.sub_self, List.drop_zero] at h
      have HBR := Lib.hid hbr0
      have hfl : (ps.flatMap rB).length ≤ 400 := by have := HLD.out 0; rwa [List.drop_zero] at this
      clear hbr hbr0
      go_wp2_with fail
      refine (prepend_c (k := 4) (bs := ps.flatMap rB) (HBR.out.keeps (by have h0 := Below.refl wr.heap.size wr; exact (by repeat (first | with_reducible assumption | with_reducible refine Below.drew ?_ | with_reducible refine below_drewN' ?_ _ | with_reducible refine Below.alloc ?_ ?_ _ | with_reducible refine Below.setCell ?_ ?_ _ | with_reducible exact Nat.le_refl _ | omega | focus (simp; done) | focus (simp; omega))))) (by omega) (by omega) (by omega)).mono ?_
      rintro e1 w3 ⟨D, s, c, xs, rfl, hcc, hcm, hxl, hh, hb3, -, -⟩
      have HB3 := Lib.hid (show Below B w w3 from (hwr.out.trans (by have h0 := Below.refl B wr; exact (by repeat (first | with_reducible assumption | with_reducible refine Below.drew ?_ | with_reducible refine below_drewN' ?_ _ | with_reducible refine Below.alloc ?_ ?_ _ | with_reducible refine Below.setCell ?_ ?_ _ | with_reducible exact Nat.le_refl _ | omega | focus (simp; done) | focus (simp; omega))))).trans hb3)
      have r2 := (HB3.out.cell (p := ⟨X, 2, none⟩) lXB).trans c2w
      obtain ⟨y0, y1, y2, y3, rfl⟩ : ∃ a b c d, xs = [a, b, c, d] := by
        match xs, hxl with
        | [a, b, c, d], _ => exact ⟨a, b, c, d, rfl⟩
      have lD : D < w3.heap.size := hh.ltD
      have lX3 : X < w3.heap.size := World.block_lt_of_cell? _ _ r2
      have eXD : ¬ X = D := by have := hh.lt; omega
      have eDX : ¬ D = X := by omega
      have hc2 : (2 : Int) ≤ (c : Int) := by omega
      have hc4 : (4 : Int) ≤ (c : Int) := by omega
      have ec2 : ¬ c = 2 := by omega
      have HH := Lib.hid (show Holds w3 B D s (y0 :: y1 :: y2 :: y3 :: ps.flatMap rB) from hh)
      have lBD : B < D := hh.lt
      clear hh hb3 hcm v0 v1 q2 q3 lXr lOr hxl
      go_wp2_with fail
      generalize hW : World.alloc _ _ = W
      have HW := Lib.hid (show Holds W B D s (y0 :: y1 :: y2 :: y3 :: ps.flatMap rB) from by
        rw [← hW]
        clear hW
        repeat (first | with_reducible exact HH.out | with_reducible refine Holds.drew ?_ | with_reducible refine Holds.drewN ?_ _ | with_reducible refine Holds.alloc ?_ _))
      have HBW := Lib.hid (show Below B w W from by
        rw [← hW]
        clear hW
        have h0 := HB3.out
        have h1 := HH.out.lt
        exact (by repeat (first | with_reducible assumption | with_reducible refine Below.drew ?_ | with_reducible refine below_drewN' ?_ _ | with_reducible refine Below.alloc ?_ ?_ _ | with_reducible refine Below.setCell ?_ ?_ _ | with_reducible exact Nat.le_refl _ | omega | focus (simp; done) | focus (simp; omega))))
      have s2 : W.cell? ⟨X, 2, none⟩ = some (.int .u16 (x2 * 256 + x3)) := by rw [← hW]; clear hW; go_simp
      have WS : ∀ j v, [Value.int .u8 0, .int .u8 0][j]? = some v → W.cell? ((⟨w3.heap.size, 0, none⟩ : Addr).add j) = some v := by
        intro j u hu
        rw [addr_add, ← hW]
        clear hW
        rcases j with _ | _ | j
        · simp at hu; subst hu; go_simp
        · simp at hu; subst hu; go_simp
        · simp at hu
      clear hW HB3 r2 lX3 lD
      rw [run_copy_cells (P := Tryz.prog) W _ _ _ 5 _ _ _ _ _ _ _ [.int .u8 0, .int .u8 0] Tryz.underlying22 sz1B rfl WS ?hcc ?hcf ?hco]
      case hcc =>
        intro j hj
        rw [HW.out.row j _ (List.getElem?_eq_getElem (by simp at hj ⊢; omega))]
        rfl
      case hcf => exact fun j _ => HW.out.frD _
      case hco => simp [Value.oneCell']
      have HW2 := Lib.hid (show Holds (W.setCells D s [.int .u8 0, .int .u8 0]) B D s (0 :: 0 :: y2 :: y3 :: ps.flatMap rB) from HW.out.setCells (i := 0) (k := s) (vs := [0, 0]) rfl (by simp <;> omega))
      have HB2 := Lib.hid (show Below B w (W.setCells D s [.int .u8 0, .int .u8 0]) from below_setCells (Nat.le_of_lt HH.out.lt) _ _ HBW.out)
      have t2 := (cell_setCells eXD [Value.int .u8 0, .int .u8 0] s W (j := 2)).trans s2
      clear HW HBW WS s2 HH
      generalize W.setCells D s [.int .u8 0, .int .u8 0] = W2 at *
      clear W
      have lX2 : X < W2.heap.size := World.block_lt_of_cell? _ _ t2
      have lD2 : D < W2.heap.size := HW2.out.ltD
      have d2 := HW2.out.row 2 _ rfl
      have d3 : W2.cell? ⟨D, s + 2 + 1, none⟩ = _ := HW2.out.row 3 _ rfl
      have fd2 := HW2.out.frD (s + 2)
      have fd3 := HW2.out.frD (s + 2 + 1)
      go_wp2_with fail
      refine wp_region_same [7] (.q 0 (.q 1 (.q 2 (.q 3 (.q 4 (.q 5 (.q 6 (.l 7 .done .stop)))))))) (by kernel_rfl) (by kernel_rfl) (fun _ _ d _ _ h => by cases d <;> exact h) (by simp only [Ord.fill, nthOp]; rfl) ?_; intro hSm
      repeat
        first | refine lexO_pass rfl ?_ | (refine lexO_take2 ?_ rfl (by kernel_rfl) (by with_reducible assumption) (fun w' hS K Q' hK => ?_) ?_; rotate_left; focus (have hS2 := hS.2; clear hS; go_wp2_with fail; exact hK))
      refine lexO_do rfl (fun K hK => ?_) lexO_stop
      go_wp2_with (go_at_call 90; refine (put16_c x2 x3 (y0 := .int .u8 y2) (y1 := .int .u8 y3) (by omega) h2 h3 (by go_simp) (by go_simp) (by go_simp) (by go_simp)).mono ?_; rintro e w' ⟨rfl, rfl⟩)
      first | refine step_last (by decide) (lexO_done ?_) | refine lexO_done ?_
      go_wp2_with fail
      refine bodyPost_ret (v := .nilIface) (by simp only [results, Tryz.results112]; go_simp) rfl ⟨rfl, ?_, D, s, ?_⟩
      · have h0 := HB2.out
        have h1 := HW2.out.lt
        exact (by repeat (first | with_reducible assumption | with_reducible refine Below.drew ?_ | with_reducible refine below_drewN' ?_ _ | with_reducible refine Below.alloc ?_ ?_ _ | with_reducible refine Below.setCell ?_ ?_ _ | with_reducible exact Nat.le_refl _ | omega | focus (simp; done) | focus (simp; omega)))
      · show Holds _ B D s (((0 :: 0 :: y2 :: y3 :: ps.flatMap rB).set 2 x2).set 3 x3)
        repeat (first | with_reducible exact HW2.out | with_reducible refine Holds.drew ?_ | with_reducible refine Holds.drewN ?_ _ | with_reducible refine Holds.alloc ?_ _ | refine Holds.set ?_ (by simp) (by omega) _)
end Go.Proofs.YtmpifdanfnebpaaGreat
