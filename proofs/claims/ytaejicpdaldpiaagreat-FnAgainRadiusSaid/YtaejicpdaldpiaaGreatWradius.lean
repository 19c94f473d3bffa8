/-
  SerializeTo of RADIUS.
-/
import Derived.Test.YtaejicpdaldpiaaGreatLenr
import Derived.Test.YtaejicpdaldpiaaGreatOn
import Derived.Test.YtaejicpdaldpiaaGreatEnc
import Derived.Test.YtaejicpdaldpiaaGreatOpts
namespace Go.Proofs.YtaejicpdaldpiaaGreat
open Go Go.RowKit

theorem m_ser_radius (k : Nat) (a : Addr) (w : World) : (method (k + 1) 116 (.pointer (some a)) "SerializeTo").run Tryz.prog w = .ok (133, .pointer (some a)) w := by kernel_rfl
theorem c_ser_radius (args : Array Value) (W : World) : (callFunc 133 args).run Tryz.prog W = .ok (.enter 133 args) W := by kernel_rfl

set_option maxRecDepth 100000 in
set_option maxHeartbeats 8000000 in
theorem ser_radius {a0 b0 l0 l1 : Int} {auth : List Int} {ps : List (List Int × List Int)} (hl0 : 0 ≤ l0 ∧ l0 ≤ 255) (hl1 : 0 ≤ l1 ∧ l1 ≤ 255) (hal : auth.length = 16) (hok : ∀ p ∈ ps, OkAttr p) (hne : ∀ p ∈ ps, 0 < p.2.length) (hn50 : ps.length ≤ 50) :
    SerOf 133 [] ((a0 :: b0 :: l0 :: l1 :: auth) ++ ps.flatMap aB) (MIsRadius a0 b0 (l0 * 256 + l1) auth ps) := by
  intro w0 w X B hI hb hB hbuf
  obtain ⟨lX, c2, c3, c4, h4, vp, c7, hrows⟩ := hI
  have mp := m_prepend
  obtain ⟨pI, cI, rfl⟩ := hrows.form
  have HC7 := Lib.hid c7
  obtain ⟨n, hnn⟩ : ∃ n, n = ps.length := ⟨_, rfl⟩
  have HNN := Lib.hid hnn
  have HR := Lib.hid hrows
  rw [← hnn] at c7
  have n50 : n ≤ 50 := by omega
  have HOK := Lib.hid hok
  have HNE := Lib.hid hne
  have HAL := Lib.hid hal
  have HAU := Lib.hid h4
  have lXB : X < B := by omega
  have lXw : X < w.heap.size := Nat.lt_of_lt_of_le lX hb.size
  have HBUF := Lib.hid hbuf
  have HB0 := Lib.hid hB
  have HBB := Lib.hid hb
  have lBw : B < w.heap.size := hbuf.lt
  have HC := Lib.hid (And.intro c2 (And.intro c3 (And.intro c4 c7)))
  have hfl : (ps.flatMap aB).length ≤ 255 * 50 := by
    have := flat_leA hok n
    rw [List.take_of_length_le (by omega)] at this
    omega
  obtain ⟨tot, htot⟩ : ∃ k, k = (ps.flatMap aB).length := ⟨_, rfl⟩
  have HTOT := Lib.hid htot
  have htl : tot ≤ 255 * 50 := by omega
  clear hbuf hb hB c2 c3 c4 c7 hrows hok hne hnn hn50 hfl htot hal h4
  go_enter Tryz.func133, Tryz.ntmps133
  go_wp2_with fail
  refine (lenr_c lX HC7.out HR.out HOK.out (by have := HNN.out; omega) (by have h0 := HBB.out; have := h0.size; exact (by repeat (first | with_reducible assumption | with_reducible refine Below.drew ?_ | with_reducible refine below_drewN' ?_ _ | with_reducible refine Below.alloc ?_ ?_ _ | with_reducible refine Below.setCell ?_ ?_ _ | with_reducible exact Nat.le_refl _ | omega | focus (simp; done) | focus (simp; omega))))).mono ?_
  rintro e0 w1 ⟨rfl, hb1⟩
  rw [← HTOT.out]
  have q0 : w1.cell? ⟨w.heap.size, 0, none⟩ = some (.bool false) := (hb1.cell (p := ⟨w.heap.size, 0, none⟩) (by simp)).trans (by go_simp)
  have lOw : w.heap.size < w1.heap.size := World.block_lt_of_cell? _ _ q0
  have H1 := Lib.hid (show Below w.heap.size w w1 from Below.trans (by have h0 := Below.refl w.heap.size w; exact (by repeat (first | with_reducible assumption | with_reducible refine Below.drew ?_ | with_reducible refine below_drewN' ?_ _ | with_reducible refine Below.alloc ?_ ?_ _ | with_reducible refine Below.setCell ?_ ?_ _ | with_reducible exact Nat.le_refl _ | omega | focus (simp; done) | focus (simp; omega)))) (hb1.mono (by simp <;> omega)))
  clear hb1
  obtain ⟨K, hK⟩ : ∃ K, K = 20 + tot := ⟨_, rfl⟩
  rw [← hK]
  have HKK := Lib.hid hK
  have hK1 : 20 ≤ K := by omega
  have hK2 : K ≤ 100000 := by omega
  clear hK
  go_wp2_with fail
  refine (prepend_c (k := K) (bs := []) (HBUF.out.keeps H1.out) (by omega) (by omega) (by simp)).mono ?_
  rintro e1 w2 ⟨D, s, c, xs, rfl, hcc, hcm, hxl, hh, hb2, hk2, hD2⟩
  rw [List.append_nil] at hh
  have lD : D < w2.heap.size := hh.ltD
  have eOD : ¬ w.heap.size = D := by rcases HBUF.out.old H1.out hD2 with h | h <;> omega
  have r0 : w2.cell? ⟨w.heap.size, 0, none⟩ = some (.bool false) := hk2.cell (by omega) q0
  have H2 := Lib.hid (show Below B w w2 from (H1.out.mono (by omega)).trans hb2)
  have hw : ∀ j u, w0.cell? ⟨X, j, none⟩ = some u → w2.cell? ⟨X, j, none⟩ = some u := fun j u hu => (H2.out.cell (p := ⟨X, j, none⟩) lXB).trans ((HBB.out.cell (p := ⟨X, j, none⟩) lX).trans hu)
  have eXD : ¬ X = D := by have := hh.lt; omega
  have eDX : ¬ D = X := by omega
  have lO2 : w.heap.size < w2.heap.size := World.block_lt_of_cell? _ _ r0
  have k2 : w2.cell? ⟨X, 2, none⟩ = some (.int .u8 a0) := hw _ _ HC.out.1
  have k3 : w2.cell? ⟨X, 3, none⟩ = some (.int .u8 b0) := hw _ _ HC.out.2.1
  have k4 : w2.cell? ⟨X, 4, none⟩ = some (.int .u16 (l0 * 256 + l1)) := hw _ _ HC.out.2.2.1
  have k21 : w2.cell? ⟨X, 21, none⟩ = some (.slice pI n cI) := hw _ _ HC.out.2.2.2
  have HAU2 := Lib.hid (fun i x hx => hw _ _ (HAU.out i x hx) : ∀ i x, auth[i]? = some x → w2.cell? ⟨X, 5 + i, none⟩ = some (.int .u8 x))
  have lX2 : X < w2.heap.size := World.block_lt_of_cell? _ _ k2
  obtain ⟨y0, y1, y2, y3, r, rfl⟩ : ∃ a b c d r, xs = a :: b :: c :: d :: r := four (by omega)
  have hrl : r.length + 4 = K := by simpa using hxl
  have d0 := hh.row 0 _ rfl
  have d1 := hh.row 1 _ rfl
  have d2 := hh.row 2 _ rfl
  have d3 := hh.row 3 _ rfl
  rw [Nat.add_zero] at d0
  have fd0 := hh.frD s
  have fd1 := hh.frD (s + 1)
  have fd2 := hh.frD (s + 2)
  have fd3 := hh.frD (s + 2 + 1)
  have hKI : (0 : Int) < (K : Int) := by omega
  have hKJ : (1 : Int) < (K : Int) := by omega
  have hc2 : (2 : Int) ≤ (K : Int) := by omega
  have hc4 : (4 : Int) ≤ (c : Int) := by omega
  have hc20 : (20 : Int) ≤ (c : Int) := by omega
  have ec2 : ¬ c = 2 := by omega
  have ec4 : ¬ c = 4 := by omega
  have HH := Lib.hid hh
  have HXL := Lib.hid hrl
  clear hh hb2 hk2 hD2 hw q0 hxl hrl
  go_wp2_with fail
  refine wp_region_same [7] (.q 0 (.q 1 (.q 2 (.q 3 (.q 4 (.q 5 (.q 6 (.l 7 .done .stop)))))))) (by kernel_rfl) (by kernel_rfl) (fun _ _ d _ _ h => by cases d <;> exact h) (by simp only [Ord.fill, nthOp]; rfl) ?_; intro hSm
  repeat
    first | refine lexO_pass rfl ?_ | (refine lexO_take2 ?_ rfl (by kernel_rfl) (by with_reducible assumption) (fun w' hS K Q' hK => ?_) ?_; rotate_left; focus (have hS2 := hS.2; clear hS; go_wp2_with fail; exact hK))
  refine lexO_do rfl (fun K' hK' => ?_) lexO_stop
  go_wp2_with (go_at_call 101; refine (put16_c l0 l1 (y0 := .int .u8 y2) (y1 := .int .u8 y3) (by omega) hl0 hl1 (by go_simp) (by go_simp) (by go_simp) (by go_simp)).mono ?_; rintro e w' ⟨rfl, rfl⟩)
  first | refine step_last (by decide) (lexO_done ?_) | refine lexO_done ?_
  go_wp2_with fail
  refine wp_gen (fun W => Holds W B D s (a0 :: b0 :: l0 :: l1 :: r) ∧ Below B w W ∧ X < W.heap.size ∧ w.heap.size < W.heap.size ∧ W.cell? ⟨X, 21, none⟩ = some (.slice pI n cI) ∧ (∀ i x, auth[i]? = some x → W.cell? ⟨X, 5 + i, none⟩ = some (.int .u8 x)) ∧ W.cell? ⟨w.heap.size, 0, none⟩ = some (.bool false)) ?F (fun W hW => ?_)
  case F =>
    refine ⟨?_, ?_, by first | omega | (simp; omega), by first | omega | (simp; omega), by go_simp, fun i x hx => ?_, by go_simp⟩
    · show Holds _ B D s (((((y0 :: y1 :: y2 :: y3 :: r).set 0 a0).set 1 b0).set 2 l0).set 3 l1)
      repeat (first | with_reducible exact HH.out | with_reducible refine Holds.drew ?_ | with_reducible refine Holds.drewN ?_ _ | with_reducible refine Holds.alloc ?_ _ | refine Holds.set ?_ (by simp) (by omega) _)
    · have h0 := H2.out
      have h1 := HH.out.lt
      exact (by repeat (first | with_reducible assumption | with_reducible refine Below.drew ?_ | with_reducible refine below_drewN' ?_ _ | with_reducible refine Below.alloc ?_ ?_ _ | with_reducible refine Below.setCell ?_ ?_ _ | with_reducible exact Nat.le_refl _ | omega | focus (simp; done) | focus (simp; omega)))
    · have := HAU2.out i x hx
      go_simp
  obtain ⟨hW1, hW2, lXW, lOW, g21, hau, u0⟩ := hW
  clear k2 k3 k4 k21 d0 d1 d2 d3 fd0 fd1 fd2 fd3 r0 lX2 lO2 lD hSm
  have lDW : D < W.heap.size := hW1.ltD
  have HW1 := Lib.hid hW1
  have HW2 := Lib.hid hW2
  have HSA := Lib.hid (show SB W (fun b => b = X) (.slice (some ⟨X, 5, none⟩) 16 16) auth from ⟨_, _, by rw [HAL.out], by have := HAL.out; omega, by omega, fun h => (by cases h), .inr ⟨X, 5, rfl, rfl, lXW, fun j u hu => by
    rw [List.getElem?_map] at hu
    obtain ⟨x, hx, rfl⟩ := Option.map_eq_some_iff.1 hu
    exact hau j x hx⟩⟩)
  clear hW1 hW2 HH H2 hau
  refine wp_region_same [6] (.q 0 (.q 1 (.q 2 (.q 3 (.q 4 (.q 5 (.l 6 .done .stop))))))) (by kernel_rfl) (by kernel_rfl) (fun _ _ d _ _ h => by cases d <;> exact h) (by simp only [Ord.fill, nthOp]; rfl) ?_; intro hSm
  repeat
    first | refine lexO_pass rfl ?_ | (refine lexO_take2 ?_ rfl (by kernel_rfl) (by with_reducible assumption) (fun w' hS K Q' hK => ?_) ?_; rotate_left; focus (have hS2 := hS.2; clear hS; go_wp2_with fail; exact hK))
  refine lexO_do rfl (fun K' hK' => ?_) lexO_stop
  refine wp_copy_sb (.tmp 58) (.tmp 62) 22 22 rfl Tryz.underlying22 (D := D) (k := s + 4) (ds := auth) rfl rfl (HSA.out.keeps (by repeat (first | with_reducible assumption | with_reducible exact Keeps.refl _ _ | with_reducible refine Keeps.drew ?_ | with_reducible refine Keeps.drewN ?_ _ | with_reducible refine Keeps.alloc ?_ _ | with_reducible refine Keeps.setCell ?_ ?_ _ | omega | focus (simp; done) | focus (simp; omega)))) (by have := HAL.out; omega) (fun _ => rfl) ?hcc ?hff (hK' _ _ (step_last (by decide) (lexO_done ?_)))
  case hcc =>
    intro i hi
    rw [World.cell?_drew, show s + 4 + i = s + (4 + i) by omega, HW1.out.row (4 + i) _ (List.getElem?_eq_getElem (by have := HXL.out; have := HAL.out; simp; omega))]
    rfl
  case hff => exact fun i _ => HW1.out.frD _
  have HW3 := Lib.hid (show Holds (W.drew.setCells D (s + 4) (auth.map (.int .u8))) B D s ((a0 :: b0 :: l0 :: l1 :: auth) ++ r.drop 16) from by
    have h := HW1.out.drew.setCells (i := 4) (k := s + 4) (vs := auth) rfl (by have := HXL.out; have := HAL.out; simp; omega)
    have e : List.drop (4 + auth.length) (a0 :: b0 :: l0 :: l1 :: r) = r.drop 16 := by rw [HAL.out]; rfl
    rw [e] at h
    exact h)
  have HB3 := Lib.hid (show Below B w (W.drew.setCells D (s + 4) (auth.map (.int .u8))) from below_setCells (Nat.le_of_lt HW1.out.lt) _ _ HW2.out.drew)
  have g21' := (cell_setCells eXD (auth.map (.int .u8)) (s + 4) W.drew (j := 21)).trans g21
  have u0' := (cell_setCells eOD (auth.map (.int .u8)) (s + 4) W.drew (j := 0)).trans u0
  clear HW1 HW2 g21 u0 lXW lOW lDW HSA hSm
  generalize W.drew.setCells D (s + 4) (auth.map (.int .u8)) = W3 at *
  obtain ⟨zs, hzs⟩ : ∃ z, z = r.drop 16 := ⟨_, rfl⟩
  have hzl : zs.length = tot := by rw [hzs, List.length_drop]; have := HXL.out; have := HKK.out; omega
  rw [← hzs] at HW3
  obtain ⟨P, hP⟩ : ∃ P, P = (a0 :: b0 :: l0 :: l1 :: auth) := ⟨_, rfl⟩
  rw [← hP] at HW3
  have hPl : P.length = 20 := by rw [hP]; have := HAL.out; simp; omega
  have HP := Lib.hid hP
  have HZL := Lib.hid hzl
  have HPL := Lib.hid hPl
  clear hP hzs hzl hPl
  have lX3 : X < W3.heap.size := World.block_lt_of_cell? _ _ g21'
  have lO3 : w.heap.size < W3.heap.size := World.block_lt_of_cell? _ _ u0'
  go_wp2_with fail
  go_loopw [8, 10, 12, 69] (fun _ off _ i wr => ∃ k : Nat, k ≤ n ∧ i = .int .i64 (k : Int) ∧ off = .int .i64 ((20 : Int) + (((ps.take k).flatMap aB).length : Int)) ∧ Hid (Holds wr B D s (P ++ ((ps.take k).flatMap aB ++ zs.drop ((ps.take k).flatMap aB).length))) ∧ Hid (Below B w wr) ∧ Hid (Keeps (fun b => b ≠ D) W3 wr)) (fun _ _ _ i _ => n - (intOf i).toNat)
  case atStart => exact ⟨0, Nat.zero_le _, rfl, by simp, Lib.hid (by simpa using HW3.out), Lib.hid HB3.out, Lib.hid (Keeps.refl _ _)⟩
  case round =>
    obtain ⟨k, hk, rfl, rfl, hwr, hbr, hkr⟩ := hrel
    obtain ⟨fl, hfl⟩ : ∃ l, l = (ps.take k).flatMap aB := ⟨_, rfl⟩
    rw [← hfl] at hwr ⊢
    obtain ⟨lk, hlk⟩ : ∃ l, l = fl.length := ⟨_, rfl⟩
    rw [← hlk] at hwr ⊢
    have v0 := hkr.out.cell (b := w.heap.size) eOD u0'
    have lOr : w.heap.size < wr.heap.size := World.block_lt_of_cell? _ _ v0
    have lDr : D < wr.heap.size := hwr.out.ltD
    have HFL := Lib.hid hfl
    have HLK := Lib.hid hlk
    by_cases hlt : k < n
    · obtain ⟨gI, cI', cs, p, hiv, hgI, -, hp, hcs, a, nn, u, rfl, hp1, hu, -⟩ := HR.out.get (j := k) (by have := HNN.out; omega)
      have hcI : pI = some ⟨gI, 0, none⟩ ∧ cI = cI' := by
        simp only [Value.slice.injEq] at hiv
        exact ⟨hiv.1, hiv.2.2⟩
      obtain ⟨rfl, rfl⟩ := hcI
      have hsn := flat_snocA hp
      have hpo := HOK.out p (List.mem_of_getElem? hp)
      have hpn := HNE.out p (List.mem_of_getElem? hp)
      have hol := aB_len hpo
      have htk := flat_takeA (ps := ps) (k + 1)
      rw [hsn, List.length_append, hol, ← hfl, ← hlk, ← HTOT.out] at htk
      obtain ⟨a', n', h1, ha, h2, h3⟩ := hpo
      rw [hp1] at h1
      obtain ⟨rfl, rfl⟩ : a = a' ∧ nn = n' := by simpa using h1
      have hcell : ∀ i x, [Value.int .u8 a, .int .u8 nn, u][i]? = some x → wr.cell? ⟨gI, k * 3 + i, none⟩ = some x := fun i x hx => (hbr.out.cell (p := ⟨gI, k * 3 + i, none⟩) (by have := HB0.out; show gI < B; omega)).trans ((HBB.out.cell (p := ⟨gI, k * 3 + i, none⟩) hgI).trans (hcs i x hx))
      have k0 := hcell 0 _ rfl
      have k1 := hcell 1 _ rfl
      have k2 := hcell 2 _ rfl
      rw [Nat.add_zero] at k0
      have lgr : gI < wr.heap.size := World.block_lt_of_cell? _ _ k0
      have HU := Lib.hid (show SB w0 (fun b => b < w0.heap.size) u p.2 from hu.imp (fun b hb _ => hb))
      obtain ⟨pu, cu, rfl⟩ := hu.form
      have haB : aB p = a :: nn :: p.2 := by simp [aB, hp1]
      have hI : ((k : Nat) : Int) < (n : Int) := by omega
      obtain ⟨z0, z1, zz, hz⟩ : ∃ a b r, zs.drop lk = a :: b :: r := by
        have hl : 2 ≤ (zs.drop lk).length := by rw [List.length_drop, HZL.out]; omega
        match zs.drop lk, hl with
        | a :: b :: r, _ => exact ⟨a, b, r, rfl⟩
      have hzzl : zz.length + 2 + lk = tot := by
        have := congrArg List.length hz
        rw [List.length_drop, HZL.out, List.length_cons, List.length_cons] at this
        omega
      have hzd : zs.drop (lk + (2 + p.2.length)) = zz.drop p.2.length := by
        rw [← List.drop_drop, hz, ← List.drop_drop]
        rfl
      rw [hz] at hwr
      obtain ⟨Q, hQ⟩ : ∃ Q, Q = P ++ fl := ⟨_, rfl⟩
      have hQl : Q.length = 20 + lk := by rw [hQ, List.length_append, HPL.out, hlk]
      rw [← List.append_assoc, ← hQ] at hwr
      have hrow : ∀ i x, (z0 :: z1 :: zz)[i]? = some x → wr.cell? ⟨D, s + (20 + lk + i), none⟩ = some (.int .u8 x) := by
        intro i x hx
        refine hwr.out.row _ x ?_
        rw [List.getElem?_append_right (by omega), hQl, Nat.add_sub_cancel_left]
        exact hx
      have d0 := hrow 0 _ rfl
      have d1 := hrow 1 _ rfl
      rw [Nat.add_zero] at d0
      have fd0 := hwr.out.frD (s + (20 + lk))
      have fd1 := hwr.out.frD (s + (20 + lk + 1))
      have HSN := Lib.hid hsn
      have HOL := Lib.hid hol
      have HAB := Lib.hid haB
      have HK1 := Lib.hid hlt
      have HQ := Lib.hid hQ
      have HQL := Lib.hid hQl
      have HZD := Lib.hid hzd
      have HPN := Lib.hid (And.intro hpn h3)
      have HZZ := Lib.hid hzzl
      have HTK := Lib.hid htk
      have hKlk : (20 : Int) + (lk : Int) < (K : Int) := by have := HKK.out; omega
      have hKlk1 : (20 : Int) + (lk : Int) + 1 < (K : Int) := by have := HKK.out; omega
      have hKlk2 : (20 : Int) + (lk : Int) + 2 ≤ (K : Int) := by have := HKK.out; omega
      have ecK : ¬ c = 20 + lk + 2 := by have := HKK.out; omega
      have lkb : lk ≤ 255 * 50 := by omega
      have bpl : p.2.length ≤ 253 := h3
      have eDr : ¬ wr.heap.size = D := by omega
      have eDr2 : ¬ D = wr.heap.size := by omega
      clear hcs hcell hsn hol h1 h2 h3 hp1 hp hgI hu ha haB hfl hlk hz hzd hrow hQ hQl hpn hzzl htk
      go_wp2_with fail
      refine wp_gen (fun W => Holds W B D s (Q ++ (a :: nn :: zz)) ∧ Below B w W ∧ Keeps (fun b => b ≠ D) W3 W ∧ wr.heap.size < W.heap.size ∧ W.cell? ⟨wr.heap.size, 2, none⟩ = some (.slice pu p.2.length cu)) ?G (fun W4 hW4 => ?_)
      case G =>
        refine ⟨?_, ?_, ?_, by first | omega | (simp; done) | (simp; omega), by go_simp⟩
        · have e : ∀ v0 v1, Q ++ (v0 :: v1 :: zz) = (((Q ++ (z0 :: z1 :: zz)).set (20 + lk) v0).set (20 + lk + 1) v1) := by
            intro v0 v1
            have hQL := HQL.out
            rw [List.set_append_right _ _ (by omega), List.set_append_right _ _ (by omega), hQL]
            simp
          rw [e]
          repeat (first | with_reducible exact hwr.out | with_reducible refine Holds.drew ?_ | with_reducible refine Holds.drewN ?_ _ | with_reducible refine Holds.alloc ?_ _ | refine Holds.setw ?_ (by have := HQL.out; simp; omega) (by omega) rfl)
        · have h0 := hbr.out
          have h1 := hwr.out.lt
          have h2 := h0.size
          exact (by repeat (first | with_reducible assumption | with_reducible refine Below.drew ?_ | with_reducible refine below_drewN' ?_ _ | with_reducible refine Below.alloc ?_ ?_ _ | with_reducible refine Below.setCell ?_ ?_ _ | with_reducible exact Nat.le_refl _ | omega | focus (simp; done) | focus (simp; omega)))
        · exact hkr.out.trans (Keeps.of_lt (by repeat (first | with_reducible assumption | with_reducible exact Keeps.refl _ _ | with_reducible refine Keeps.drew ?_ | with_reducible refine Keeps.drewN ?_ _ | with_reducible refine Keeps.alloc ?_ _ | with_reducible refine Keeps.setCell ?_ ?_ _ | omega | focus (simp; done) | focus (simp; omega))))
      obtain ⟨hV1, hV2, hV3, lV, g2⟩ := hW4
      have HV1 := Lib.hid hV1
      have HV2 := Lib.hid hV2
      have HV3 := Lib.hid hV3
      have lD4 : D < W4.heap.size := hV1.ltD
      clear hV1 hV2 hV3 d0 d1 fd0 fd1 k0 k1 k2 hwr hbr hkr
      refine wp_region_on (fun b => b = wr.heap.size) (fun b hb => by first | omega | (rcases hb with hb | hb <;> omega) | (rcases hb with hb | hb <;> simp <;> omega)) [7] (.q 0 (.q 1 (.q 2 (.q 3 (.q 4 (.q 5 (.q 6 (.l 7 .done .stop)))))))) (by kernel_rfl) (by kernel_rfl) (fun _ _ d _ _ h => by cases d <;> exact h) (by simp only [Ord.fill, nthOp]; rfl) ?_; intro hSm
      repeat
        first | refine lexO_pass rfl ?_ | (refine lexO_take2 ?_ rfl (by kernel_rfl) (by with_reducible assumption) (fun w' hS K Q' hK => ?_) ?_; rotate_left; focus (have hS2 := hS.2; clear hS; go_wp2_with fail; exact hK))
      refine lexO_do rfl (fun K' hK' => ?_) lexO_stop
      refine wp_copy_sb (.tmp 99) (.tmp 102) 22 127 rfl Tryz.underlying22 (D := D) (k := s + (20 + lk + 2)) (ds := p.2) rfl rfl (SB.keeps (w := w0) HU.out ⟨by have := HBB.out.size; have := HV2.out.size; simp; omega, fun b hb _ => by have h1 := HB0.out; exact (HV2.out.block b (by omega)).trans (HBB.out.block b hb)⟩) (by have h1 := HTK.out; have h2 := HKK.out; omega) (fun _ => rfl) ?hcc ?hff (hK' _ _ (step_last (by decide) (lexO_done ?_)))
      case hcc =>
        intro i hi
        rw [World.cell?_drew, show s + (20 + lk + 2) + i = s + (20 + lk + 2 + i) by omega, HV1.out.row (20 + lk + 2 + i) _ (List.getElem?_eq_getElem (by have := HQL.out; have := HZZ.out; have := HTK.out; simp; omega))]
        rfl
      case hff => exact fun i _ => HV1.out.frD _
      have HF1 := Lib.hid (show Holds (W4.drew.setCells D (s + (20 + lk + 2)) (p.2.map (.int .u8))) B D s (Q ++ (a :: nn :: (p.2 ++ zz.drop p.2.length))) from by
        have h := HV1.out.drew.setCells (i := 20 + lk + 2) (k := s + (20 + lk + 2)) (vs := p.2) rfl (by have := HQL.out; have := HZZ.out; have := HTK.out; simp; omega)
        have e1 : (Q ++ (a :: nn :: zz)).take (20 + lk + 2) = Q ++ [a, nn] := by
          rw [← HQL.out, List.take_length_add_append]
          rfl
        have e2 : (Q ++ (a :: nn :: zz)).drop (20 + lk + 2 + p.2.length) = zz.drop p.2.length := by
          rw [Nat.add_assoc, ← HQL.out, ← List.drop_drop, List.drop_left, ← List.drop_drop]
          rfl
        rw [e1, e2, List.append_assoc] at h
        exact h)
      have HF2 := Lib.hid (show Below B w (W4.drew.setCells D (s + (20 + lk + 2)) (p.2.map (.int .u8))) from below_setCells (Nat.le_of_lt HV1.out.lt) _ _ HV2.out.drew)
      have HF3 := Lib.hid (show Keeps (fun b => b ≠ D) W3 (W4.drew.setCells D (s + (20 + lk + 2)) (p.2.map (.int .u8))) from keeps_setCells (by simp) _ _ HV3.out.drew)
      have g2' := (cell_setCells eDr (p.2.map (.int .u8)) (s + (20 + lk + 2)) W4.drew (j := 2)).trans g2
      clear HV1 HV2 HV3 g2 lV lD4
      generalize W4.drew.setCells D (s + (20 + lk + 2)) (p.2.map (.int .u8)) = W5 at *
      have lV5 : wr.heap.size < W5.heap.size := World.block_lt_of_cell? _ _ g2'
      go_wp2_with fail
      go_roundw
      case rel =>
        exact ⟨k + 1, HK1.out, by go_num, by have h2 := HOL.out; have h3 := HLK.out; have h4 := HFL.out; rw [HSN.out, List.length_append, ← h4]; congr 1; omega, Lib.hid (by
          have h := HF1.out
          rw [HSN.out, ← HFL.out, List.length_append, ← HLK.out, HOL.out, HZD.out, HAB.out, ← List.append_assoc P, ← List.append_assoc P, ← HQ.out, List.append_assoc]
          exact h), HF2, HF3⟩
      case measure => have := HK1.out; simp [intOf]; omega
    · obtain rfl : k = n := by omega
      have hI : ¬ ((k : Nat) : Int) < (k : Int) := by omega
      go_wp2_with fail
      refine bodyPost_ret (v := .nilIface) (by simp only [results, Tryz.results133]; go_simp) rfl ⟨rfl, hbr.out, D, s, ?_⟩
      have h := hwr.out
      have e1 : fl = ps.flatMap aB := by rw [HFL.out, List.take_of_length_le (by have := HNN.out; omega)]
      have e2 : zs.drop lk = [] := List.drop_eq_nil_of_le (by have h1 := HZL.out; have h2 := HTOT.out; have h3 := HLK.out; rw [e1] at h3; omega)
      rw [e2, List.append_nil, e1, HP.out] at h
      first | exact h | simpa only [List.cons_append, List.append_assoc] using h
end Go.Proofs.YtaejicpdaldpiaaGreat
