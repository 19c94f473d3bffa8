/-
  SerializeTo of dhcpv6.
-/
import Derived.Test.YtaejicpdaldpiaaGreatLen
import Derived.Test.YtaejicpdaldpiaaGreatOn
namespace Go.Proofs.YtaejicpdaldpiaaGreat
open Go Go.RowKit

theorem m_ser_dhcp (k : Nat) (a : Addr) (w : World) : (method (k + 1) 107 (.pointer (some a)) "SerializeTo").run Tryz.prog w = .ok (130, .pointer (some a)) w := by kernel_rfl
theorem c_ser_dhcp (args : Array Value) (W : World) : (callFunc 130 args).run Tryz.prog W = .ok (.enter 130 args) W := by kernel_rfl

theorem splitO {a n : Int} (ha : 0 ≤ a ∧ a < 65536) (hn : 0 ≤ n ∧ n < 65536) : a = a / 256 * 256 + a % 256 ∧ n = n / 256 * 256 + n % 256 ∧ (0 ≤ a / 256 ∧ a / 256 ≤ 255) ∧ (0 ≤ a % 256 ∧ a % 256 ≤ 255) ∧ (0 ≤ n / 256 ∧ n / 256 ≤ 255) ∧ (0 ≤ n % 256 ∧ n % 256 ≤ 255) := by omega
theorem flat_takeO {ps : List (List Int × List Int)} (k : Nat) : ((ps.take k).flatMap oB).length ≤ (ps.flatMap oB).length := by
  have e : ps.flatMap oB = (ps.take k).flatMap oB ++ (ps.drop k).flatMap oB := by rw [← List.flatMap_append, List.take_append_drop]
  rw [e, List.length_append]
  omega

set_option maxRecDepth 100000 in
set_option maxHeartbeats 8000000 in
theorem ser_dhcp_no {t hc : Int} {la pa ti : List Int} {ps : List (List Int × List Int)} (hti : ti.length = 3) (hok : ∀ p ∈ ps, OkOpt p) (hn50 : ps.length ≤ 50) (ht : (t == 12 || t == 13) = false) :
    SerOf 130 [] ((t :: ti) ++ ps.flatMap oB) (MIsDhcp t hc la pa ti ps) := by
  intro w0 w X B hI hb hB hbuf
  obtain ⟨lX, c2, c3, ⟨vla, c4, hvla⟩, ⟨vpa, c5, hvpa⟩, ⟨vti, c6, hvti⟩, vp, c7, hrows⟩ := hI
  have mp := m_prepend
  have HLA := Lib.hid (hvla.imp (fun b hb _ => hb : ∀ b, b < w0.heap.size → True → b < w0.heap.size))
  have HPA := Lib.hid (hvpa.imp (fun b hb _ => hb : ∀ b, b < w0.heap.size → True → b < w0.heap.size))
  have HTI := Lib.hid (hvti.imp (fun b hb _ => hb : ∀ b, b < w0.heap.size → True → b < w0.heap.size))
  obtain ⟨pI, cI, rfl⟩ := hrows.form
  have HC7 := Lib.hid c7
  obtain ⟨n, hnn⟩ : ∃ n, n = ps.length := ⟨_, rfl⟩
  have HNN := Lib.hid hnn
  have HR := Lib.hid hrows
  rw [← hnn] at c7
  have n50 : n ≤ 50 := by omega
  have HOK := Lib.hid hok
  have lXB : X < B := by omega
  have lXw : X < w.heap.size := Nat.lt_of_lt_of_le lX hb.size
  have HBUF := Lib.hid hbuf
  have HB0 := Lib.hid hB
  have HBB := Lib.hid hb
  have lBw : B < w.heap.size := hbuf.lt
  have HC := Lib.hid (And.intro c2 (And.intro c3 (And.intro c4 (And.intro c5 (And.intro c6 c7)))))
  have HT := Lib.hid ht
  have hfl : (ps.flatMap oB).length ≤ 1004 * 50 := by
    have := flat_leO hok n
    rw [List.take_of_length_le (by omega)] at this
    omega
  have HC2 := Lib.hid c2
  obtain ⟨tot, htot⟩ : ∃ k, k = (ps.flatMap oB).length := ⟨_, rfl⟩
  have HTOT := Lib.hid htot
  have htl : tot ≤ 1004 * 50 := by omega
  clear hbuf hb hB c2 c3 c4 c5 c6 c7 hrows hok ht hvla hvpa hvti hnn hn50 hfl htot
  go_enter Tryz.func130, Tryz.ntmps130
  go_wp2_with fail
  refine (len_c (rel := false) lX HC2.out HC7.out HR.out HOK.out (by have := HNN.out; omega) (by have h0 := HBB.out; have := h0.size; exact (by repeat (first | with_reducible assumption | with_reducible refine Below.drew ?_ | with_reducible refine below_drewN' ?_ _ | with_reducible refine Below.alloc ?_ ?_ _ | with_reducible refine Below.setCell ?_ ?_ _ | with_reducible exact Nat.le_refl _ | omega | focus (simp; done) | focus (simp; omega)))) HT.out).mono ?_
  rintro e0 w1 ⟨rfl, hb1⟩
  rw [← HTOT.out]
  have q0 : w1.cell? ⟨w.heap.size, 0, none⟩ = some (.bool false) := (hb1.cell (p := ⟨w.heap.size, 0, none⟩) (by simp)).trans (by go_simp)
  have q1 : w1.cell? ⟨w.heap.size, 1, none⟩ = some (.bool false) := (hb1.cell (p := ⟨w.heap.size, 1, none⟩) (by simp)).trans (by go_simp)
  have lOw : w.heap.size < w1.heap.size := World.block_lt_of_cell? _ _ q0
  have H1 := Lib.hid (show Below w.heap.size w w1 from Below.trans (by have h0 := Below.refl w.heap.size w; exact (by repeat (first | with_reducible assumption | with_reducible refine Below.drew ?_ | with_reducible refine below_drewN' ?_ _ | with_reducible refine Below.alloc ?_ ?_ _ | with_reducible refine Below.setCell ?_ ?_ _ | with_reducible exact Nat.le_refl _ | omega | focus (simp; done) | focus (simp; omega)))) (hb1.mono (by simp <;> omega)))
  have hN : ((((if false = true then 34 else 4) + tot : Nat) : Nat) : Int) = ((4 + tot : Nat) : Int) := by simp
  rw [hN]
  clear hb1 hN
  obtain ⟨K, hK⟩ : ∃ K, K = 4 + tot := ⟨_, rfl⟩
  rw [← hK]
  have HKK := Lib.hid hK
  have hK1 : 4 ≤ K := by omega
  have hK2 : K ≤ 100000 := by omega
  clear hK
  go_wp2_with fail
  refine (prepend_c (k := K) (bs := []) (HBUF.out.keeps H1.out) (by omega) (by omega) (by simp)).mono ?_
  rintro e1 w2 ⟨D, s, c, xs, rfl, hcc, hcm, hxl, hh, hb2, hk2, hD2⟩
  rw [List.append_nil] at hh
  have lD : D < w2.heap.size := hh.ltD
  have eOD : ¬ w.heap.size = D := by rcases HBUF.out.old H1.out hD2 with h | h <;> omega
  have r0 : w2.cell? ⟨w.heap.size, 0, none⟩ = some (.bool false) := hk2.cell (by omega) q0
  have r1 : w2.cell? ⟨w.heap.size, 1, none⟩ = some (.bool false) := hk2.cell (by omega) q1
  have H2 := Lib.hid (show Below B w w2 from (H1.out.mono (by omega)).trans hb2)
  have hw : ∀ j u, w0.cell? ⟨X, j, none⟩ = some u → w2.cell? ⟨X, j, none⟩ = some u := fun j u hu => (H2.out.cell (p := ⟨X, j, none⟩) lXB).trans ((HBB.out.cell (p := ⟨X, j, none⟩) lX).trans hu)
  have eXD : ¬ X = D := by have := hh.lt; omega
  have eDX : ¬ D = X := by omega
  have lO2 : w.heap.size < w2.heap.size := World.block_lt_of_cell? _ _ r0
  have k2 : w2.cell? ⟨X, 2, none⟩ = some (.int .u8 t) := hw _ _ HC.out.1
  have k3 : w2.cell? ⟨X, 3, none⟩ = some (.int .u8 hc) := hw _ _ HC.out.2.1
  have k4 : w2.cell? ⟨X, 4, none⟩ = some (vla) := hw _ _ HC.out.2.2.1
  have k5 : w2.cell? ⟨X, 5, none⟩ = some (vpa) := hw _ _ HC.out.2.2.2.1
  have k6 : w2.cell? ⟨X, 6, none⟩ = some (vti) := hw _ _ HC.out.2.2.2.2.1
  have k7 : w2.cell? ⟨X, 7, none⟩ = some (.slice pI n cI) := hw _ _ HC.out.2.2.2.2.2
  have lX2 : X < w2.heap.size := World.block_lt_of_cell? _ _ k2
  obtain ⟨y0, r, rfl⟩ : ∃ a r, xs = a :: r := by
    match xs, hxl with
    | a :: r, _ => exact ⟨a, r, rfl⟩
    | [], h => simp at h; omega
  have hrl : r.length + 1 = K := by simpa using hxl
  have d0 := hh.row 0 _ rfl
  rw [Nat.add_zero] at d0
  have fd0 := hh.frD s
  have h12 : (t == 12) = false := by have := HT.out; cases h : (t == 12) <;> simp [h] at this ⊢
  have h13 : (t == 13) = false := by have := HT.out; cases h : (t == 13) <;> simp [h, h12] at this ⊢
  have hKI : (0 : Int) < (K : Int) := by omega
  have hc1 : (4 : Int) ≤ (c : Int) := by omega
  have ec1 : ¬ c = 1 := by omega
  have HH := Lib.hid hh
  have HXL := Lib.hid hrl
  clear hh hb2 hk2 hD2 hw q0 q1 hxl hrl
  go_wp2_with fail
  refine wp_gen (fun W => Holds W B D s (t :: r) ∧ Below B w W ∧ X < W.heap.size ∧ w.heap.size < W.heap.size ∧ (W.cell? ⟨X, 6, none⟩ = some vti ∧ W.cell? ⟨X, 7, none⟩ = some (.slice pI n cI)) ∧ (W.cell? ⟨w.heap.size, 0, none⟩ = some (.bool false) ∧ W.cell? ⟨w.heap.size, 1, none⟩ = some (.bool false))) ?F (fun W hW => ?_)
  case F =>
    refine ⟨?_, ?_, by first | omega | (simp; omega), by first | omega | (simp; omega), ⟨by go_simp, by go_simp⟩, ⟨by go_simp, by go_simp⟩⟩
    · show Holds _ B D s ((y0 :: r).set 0 t)
      repeat (first | with_reducible exact HH.out | with_reducible refine Holds.drew ?_ | with_reducible refine Holds.drewN ?_ _ | with_reducible refine Holds.alloc ?_ _ | refine Holds.set ?_ (by simp) (by omega) _)
    · have h0 := H2.out
      have h1 := HH.out.lt
      exact (by repeat (first | with_reducible assumption | with_reducible refine Below.drew ?_ | with_reducible refine below_drewN' ?_ _ | with_reducible refine Below.alloc ?_ ?_ _ | with_reducible refine Below.setCell ?_ ?_ _ | with_reducible exact Nat.le_refl _ | omega | focus (simp; done) | focus (simp; omega)))
  obtain ⟨hW1, hW2, lXW, lOW, ⟨g6, g7⟩, ⟨u0, u1⟩⟩ := hW
  clear k2 k3 k4 k5 k6 k7 d0 fd0 r0 r1 lX2 lO2 lD
  have lDW : D < W.heap.size := hW1.ltD
  have HW1 := Lib.hid hW1
  have HW2 := Lib.hid hW2
  obtain ⟨pti, cti, rfl⟩ := HTI.out.form
  have HTI3 := Lib.hid (show SB w0 (fun b => b < w0.heap.size) (.slice pti 3 cti) ti from by have h := HTI.out; rw [hti] at h; exact h)
  clear hW1 hW2 HH H2
  refine wp_region_same [6] (.q 0 (.q 1 (.q 2 (.q 3 (.q 4 (.q 5 (.l 6 .done .stop))))))) (by kernel_rfl) (by kernel_rfl) (fun _ _ d _ _ h => by cases d <;> exact h) (by simp only [Ord.fill, nthOp]; rfl) ?_; intro hSm
  repeat
    first | refine lexO_pass rfl ?_ | (refine lexO_take2 ?_ rfl (by kernel_rfl) (by with_reducible assumption) (fun w' hS K Q' hK => ?_) ?_; rotate_left; focus (have hS2 := hS.2; clear hS; go_wp2_with fail; exact hK))
  refine lexO_do rfl (fun K' hK' => ?_) lexO_stop
  refine wp_copy_sb (.tmp 66) (.tmp 70) 22 22 rfl Tryz.underlying22 (D := D) (k := s + 1) (ds := ti) rfl rfl (SB.keeps (w := w0) HTI3.out ⟨Nat.le_trans HBB.out.size HW2.out.size, fun b hb _ => (HW2.out.block b (by have := HB0.out; omega)).trans (HBB.out.block b hb)⟩) (by omega) (fun _ => rfl) ?hcc ?hff (hK' _ _ (step_last (by decide) (lexO_done ?_)))
  case hcc =>
    intro i hi
    rw [World.cell?_drew, show s + 1 + i = s + (1 + i) by omega, HW1.out.row (1 + i) _ (List.getElem?_eq_getElem (by have := HXL.out; simp; omega))]
    rfl
  case hff => exact fun i _ => HW1.out.frD _
  have HW3 := Lib.hid (show Holds (W.drew.setCells D (s + 1) (ti.map (.int .u8))) B D s ((t :: ti) ++ r.drop 3) from by
    have h := HW1.out.drew.setCells (i := 1) (k := s + 1) (vs := ti) rfl (by have := HXL.out; simp; omega)
    have e : List.drop (1 + ti.length) (t :: r) = r.drop 3 := by rw [hti]; rfl
    rw [e] at h
    exact h)
  have HB3 := Lib.hid (show Below B w (W.drew.setCells D (s + 1) (ti.map (.int .u8))) from below_setCells (Nat.le_of_lt HW1.out.lt) _ _ HW2.out.drew)
  have g7' := (cell_setCells eXD (ti.map (.int .u8)) (s + 1) W.drew (j := 7)).trans g7
  have u0' := (cell_setCells eOD (ti.map (.int .u8)) (s + 1) W.drew (j := 0)).trans u0
  have u1' := (cell_setCells eOD (ti.map (.int .u8)) (s + 1) W.drew (j := 1)).trans u1
  clear HW1 HW2 g6 g7 u0 u1 lXW lOW lDW
  generalize W.drew.setCells D (s + 1) (ti.map (.int .u8)) = W3 at *
  obtain ⟨zs, hzs⟩ : ∃ z, z = r.drop 3 := ⟨_, rfl⟩
  have hzl : zs.length = tot := by rw [hzs, List.length_drop]; have := HXL.out; have := HKK.out; omega
  rw [← hzs] at HW3
  obtain ⟨P, hP⟩ : ∃ P, P = (t :: ti) := ⟨_, rfl⟩
  rw [← hP] at HW3
  have hPl : P.length = 4 := by rw [hP]; simp; omega
  have HP := Lib.hid hP
  have HZL := Lib.hid hzl
  have HPL := Lib.hid hPl
  clear hP hzs hzl hPl
  have lX3 : X < W3.heap.size := World.block_lt_of_cell? _ _ g7'
  have lO3 : w.heap.size < W3.heap.size := World.block_lt_of_cell? _ _ u0'
  by_cases hn0 : n = 0
  · have hz : (0 : Int) < (n : Int) ↔ False := by simp; omega
    have hps : ps = [] := List.eq_nil_of_length_eq_zero (by have := HNN.out; omega)
    subst hn0
    go_wp2_with fail
    refine bodyPost_ret (v := .nilIface) (by simp only [results, Tryz.results130]; go_simp) rfl ⟨rfl, ?_, D, s, ?_⟩
    · have h0 := HB3.out
      exact (by repeat (first | with_reducible assumption | with_reducible refine Below.drew ?_ | with_reducible refine below_drewN' ?_ _ | with_reducible refine Below.alloc ?_ ?_ _ | with_reducible refine Below.setCell ?_ ?_ _ | with_reducible exact Nat.le_refl _ | omega | focus (simp; done) | focus (simp; omega)))
    · have h := HW3.out
      have h0 : tot = 0 := by rw [HTOT.out, hps]; rfl
      have hzz : zs = [] := List.eq_nil_of_length_eq_zero (by have := HZL.out; omega)
      rw [hzz, List.append_nil, HP.out] at h
      rw [hps]
      simpa using h
  · have hz : (0 : Int) < (n : Int) := by omega
    go_wp2_with fail
    generalize decide (0 < n) = dz
    go_loopw [10, 12, 13, 83] (fun off _ _ i wr => ∃ k : Nat, k ≤ n ∧ i = .int .i64 (k : Int) ∧ off = .int .i64 ((4 : Int) + (((ps.take k).flatMap oB).length : Int)) ∧ Hid (Holds wr B D s (P ++ ((ps.take k).flatMap oB ++ zs.drop ((ps.take k).flatMap oB).length))) ∧ Hid (Below B w wr) ∧ Hid (Keeps (fun b => b ≠ D) W3 wr)) (fun _ _ _ i _ => n - (intOf i).toNat)
    case atStart => exact ⟨0, Nat.zero_le _, rfl, by simp, Lib.hid (by simpa using HW3.out), Lib.hid HB3.out, Lib.hid (Keeps.refl _ _)⟩
    case round =>
      obtain ⟨k, hk, rfl, rfl, hwr, hbr, hkr⟩ := hrel
      obtain ⟨fl, hfl⟩ : ∃ l, l = (ps.take k).flatMap oB := ⟨_, rfl⟩
      rw [← hfl] at hwr ⊢
      obtain ⟨lk, hlk⟩ : ∃ l, l = fl.length := ⟨_, rfl⟩
      rw [← hlk] at hwr ⊢
      have v0 := hkr.out.cell (b := w.heap.size) eOD u0'
      have v1 := hkr.out.cell (b := w.heap.size) eOD u1'
      have lOr : w.heap.size < wr.heap.size := World.block_lt_of_cell? _ _ v0
      have lDr : D < wr.heap.size := hwr.out.ltD
      have HFL := Lib.hid hfl
      have HLK := Lib.hid hlk
      by_cases hlt : k < n
      · obtain ⟨gI, cI', cs, p, hiv, hgI, -, hp, hcs, a, nn, u, rfl, hp1, hu, -⟩ := HR.out.get (j := k) (by have := HNN.out; omega)
        have hcI : pI = some ⟨gI, 0, none⟩ ∧ cI = cI' := by
          simp only [Value.slice.injEq] at hiv
          exact ⟨hiv.1, hiv.2.2⟩
        obtain ⟨rfl, rfl⟩ := hcI
        have hsn := flat_snocO hp
        have hpo := HOK.out p (List.mem_of_getElem? hp)
        have hol := oB_len hpo
        have htk := flat_takeO (ps := ps) (k + 1)
        rw [hsn, List.length_append, hol, ← hfl, ← hlk, ← HTOT.out] at htk
        obtain ⟨a', n', h1, ha, h2, h3⟩ := hpo
        rw [hp1] at h1
        obtain ⟨rfl, rfl⟩ : a = a' ∧ nn = n' := by simpa using h1
        have hcell : ∀ i x, [Value.int .u16 a, .int .u16 nn, u][i]? = some x → wr.cell? ⟨gI, k * 3 + i, none⟩ = some x := fun i x hx => (hbr.out.cell (p := ⟨gI, k * 3 + i, none⟩) (by have := HB0.out; show gI < B; omega)).trans ((HBB.out.cell (p := ⟨gI, k * 3 + i, none⟩) hgI).trans (hcs i x hx))
        have k0 := hcell 0 _ rfl
        have k1 := hcell 1 _ rfl
        have k2 := hcell 2 _ rfl
        rw [Nat.add_zero] at k0
        have lgr : gI < wr.heap.size := World.block_lt_of_cell? _ _ k0
        have HU := Lib.hid (show SB w0 (fun b => b < w0.heap.size) u p.2 from hu.imp (fun b hb _ => hb))
        obtain ⟨pu, cu, rfl⟩ := hu.form
        obtain ⟨e1, e2, b1, b2, b3, b4⟩ := splitO ha (show 0 ≤ nn ∧ nn < 65536 by omega)
        have hoB : oB p = a / 256 :: a % 256 :: nn / 256 :: nn % 256 :: p.2 := by simp [oB, hp1]
        have hI : ((k : Nat) : Int) < (n : Int) := by omega
        have HSN := Lib.hid hsn
        have HOL := Lib.hid hol
        have HOB := Lib.hid hoB
        have HE := Lib.hid (And.intro e1 e2)
        have HK1 := Lib.hid hlt
        have HN2 := Lib.hid h2
        have bn : 0 ≤ nn ∧ nn ≤ 1000 := by omega
        have lKc : (4 : Int) + (lk : Int) ≤ (K : Int) := by have := HKK.out; omega
        have ecK : ¬ c = 4 + lk := by have := HKK.out; omega
        have lkb : lk ≤ 1004 * 50 := by omega
        have eDr : ¬ wr.heap.size = D := by omega
        clear hcs hcell hsn hol h1 h2 hp1 hp hgI hu ha e1 e2 hoB hfl hlk
        go_wp2_with fail
        refine wp_region_on (fun b => b = w.heap.size) (fun b hb => by first | omega | (rcases hb with hb | hb <;> omega) | (rcases hb with hb | hb <;> simp <;> omega)) [] (.q 0 (.q 1 (.q 2 (.q 3 (.l 4 (.q 5 .done) .stop))))) (by kernel_rfl) (by kernel_rfl) (fun _ _ d _ _ h => by cases d <;> exact h) (by simp only [Ord.fill, nthOp]; rfl) ?_; intro hSm
        repeat
          first | refine lexO_pass rfl ?_ | (refine lexO_take2 ?_ rfl (by kernel_rfl) (by with_reducible assumption) (fun w' hS K Q' hK => ?_) ?_; rotate_left; focus (have hS2 := hS.2; clear hS; go_wp2_with fail; exact hK))
        refine lexO_do rfl (fun K' hK' => ?_) lexO_stop
        go_wp2_with fail
        have hkk := HKK.out
        have hbl : (P ++ (fl ++ zs.drop lk)).length = K := by have h1 := HPL.out; have h2 := HZL.out; have h3 := HLK.out; simp only [List.length_append, List.length_drop]; omega
        have HBL := Lib.hid hbl
        refine (encode_c (B := B) (D := D) (s := s) (O := wr.heap.size) (j := 4 + lk) (n := K - (4 + lk)) (c := c - (4 + lk)) (bs := P ++ (fl ++ zs.drop lk)) (ds := p.2) (u := .slice pu p.2.length cu) b1 b2 b3 b4 (hwr.out.keeps (by have h0 := Below.refl wr.heap.size wr; exact (by repeat (first | with_reducible assumption | with_reducible refine Below.drew ?_ | with_reducible refine below_drewN' ?_ _ | with_reducible refine Below.alloc ?_ ?_ _ | with_reducible refine Below.setCell ?_ ?_ _ | with_reducible exact Nat.le_refl _ | omega | focus (simp; done) | focus (simp; omega))))) eDr (by rw [← HE.out.1]; go_simp) (by rw [← HE.out.2]; go_simp) (by go_simp)
          ((SB.keeps (w := w0) HU.out ⟨by have := HBB.out.size; have := hbr.out.size; simp; omega, fun b hb _ => by have h1 := HB0.out; exact (show _ = wr.heap[b]? from Below.heap_alloc _ _ _ (by have := hbr.out.size; omega)).trans ((hbr.out.block b (by omega)).trans (HBB.out.block b hb))⟩).imp (fun b _ hb => by have := HB0.out; have := hwr.out.lt; omega)) (by rw [hbl]; omega) (by omega) (by omega) (by omega)).mono ?_
        rintro e5 w5 ⟨rfl, hh5, hb5, hk5⟩
        have z1 : w5.cell? ⟨wr.heap.size, 1, none⟩ = some (.int .u16 nn) := hk5.cell eDr (by go_simp)
        have lr5 : wr.heap.size < w5.heap.size := World.block_lt_of_cell? _ _ z1
        have HH5 := Lib.hid hh5
        have HB5 := Lib.hid (show Below B w w5 from Below.trans (by have h0 := hbr.out; have := hbr.out.size; exact (by repeat (first | with_reducible assumption | with_reducible refine Below.drew ?_ | with_reducible refine below_drewN' ?_ _ | with_reducible refine Below.alloc ?_ ?_ _ | with_reducible refine Below.setCell ?_ ?_ _ | with_reducible exact Nat.le_refl _ | omega | focus (simp; done) | focus (simp; omega)))) (hb5.mono (Nat.le_of_lt hwr.out.lt)))
        have HK5 := Lib.hid (show Keeps (fun b => b ≠ D) W3 w5 from hkr.out.trans (Keeps.trans (Keeps.of_lt (by exact (by repeat (first | with_reducible assumption | with_reducible exact Keeps.refl _ _ | with_reducible refine Keeps.drew ?_ | with_reducible refine Keeps.drewN ?_ _ | with_reducible refine Keeps.alloc ?_ _ | with_reducible refine Keeps.setCell ?_ ?_ _ | omega | focus (simp; done) | focus (simp; omega))))) hk5))
        clear hh5 hb5 hkk hbl
        go_wp2_with fail
        refine step_and (SameOn.keeps (by repeat (first | with_reducible assumption | (with_reducible refine SameOn.refl (fun b hb => ?_); first | omega | (rcases hb with hb | hb <;> omega) | (rcases hb with hb | hb <;> simp <;> omega)) | with_reducible refine SameOn.drew ?_ | with_reducible refine SameOn.alloc ?_ _ | (refine SameOn.below ?_ (by with_reducible assumption)))) hk5 (fun b hb => by omega)) (fun _ => ?_)
        clear hk5
        repeat
          first | refine lexO_pass rfl ?_ | (refine lexO_take2 ?_ rfl (by kernel_rfl) (by with_reducible assumption) (fun w' hS K Q' hK => ?_) ?_; rotate_left; focus (have hS2 := hS.2; clear hS; go_wp2_with fail; exact hK))
        refine lexO_done ?_
        go_wp2_with fail
        go_roundw
        case rel =>
          exact ⟨k + 1, HK1.out, by go_num, by have h1 := HN2.out; have h2 := HOL.out; have h3 := HLK.out; have h4 := HFL.out; rw [HSN.out, List.length_append, ← h4]; congr 1; omega, Lib.hid (by
          have h := HH5.out
          have hl1 : (P ++ fl).length = 4 + lk := by rw [List.length_append, HPL.out, HLK.out]
          rw [← List.append_assoc P, List.take_left' hl1, Nat.add_assoc, ← List.drop_drop, List.drop_left' hl1, List.drop_drop, ← HOB.out, List.append_assoc] at h
          rw [HSN.out, ← HFL.out, List.length_append, ← HLK.out, HOL.out, List.append_assoc]
          exact h), HB5, HK5⟩
        case measure => have := HK1.out; simp [intOf]; omega
      · obtain rfl : k = n := by omega
        have hI : ¬ ((k : Nat) : Int) < (k : Int) := by omega
        go_wp2_with fail
        refine bodyPost_ret (v := .nilIface) (by simp only [results, Tryz.results130]; go_simp) rfl ⟨rfl, hbr.out, D, s, ?_⟩
        have h := hwr.out
        have e1 : fl = ps.flatMap oB := by rw [HFL.out, List.take_of_length_le (by have := HNN.out; omega)]
        have e2 : zs.drop lk = [] := List.drop_eq_nil_of_le (by have h1 := HZL.out; have h2 := HTOT.out; have h3 := HLK.out; rw [e1] at h3; omega)
        rw [e2, List.append_nil, e1, HP.out] at h
        first | exact h | simpa only [List.cons_append, List.append_assoc] using h

set_option maxRecDepth 100000 in
set_option maxHeartbeats 8000000 in
theorem ser_dhcp_rel {t hc : Int} {la pa ti : List Int} {ps : List (List Int × List Int)} (hla : la.length = 16) (hpa : pa.length = 16) (hok : ∀ p ∈ ps, OkOpt p) (hn50 : ps.length ≤ 50) (ht : (t == 12 || t == 13) = true) :
    SerOf 130 [] ((t :: hc :: (la ++ pa)) ++ ps.flatMap oB) (MIsDhcp t hc la pa ti ps) := by
  intro w0 w X B hI hb hB hbuf
  obtain ⟨lX, c2, c3, ⟨vla, c4, hvla⟩, ⟨vpa, c5, hvpa⟩, ⟨vti, c6, hvti⟩, vp, c7, hrows⟩ := hI
  have mp := m_prepend
  have HLA := Lib.hid (hvla.imp (fun b hb _ => hb : ∀ b, b < w0.heap.size → True → b < w0.heap.size))
  have HPA := Lib.hid (hvpa.imp (fun b hb _ => hb : ∀ b, b < w0.heap.size → True → b < w0.heap.size))
  have HTI := Lib.hid (hvti.imp (fun b hb _ => hb : ∀ b, b < w0.heap.size → True → b < w0.heap.size))
  obtain ⟨pI, cI, rfl⟩ := hrows.form
  have HC7 := Lib.hid c7
  obtain ⟨n, hnn⟩ : ∃ n, n = ps.length := ⟨_, rfl⟩
  have HNN := Lib.hid hnn
  have HR := Lib.hid hrows
  rw [← hnn] at c7
  have n50 : n ≤ 50 := by omega
  have HOK := Lib.hid hok
  have lXB : X < B := by omega
  have lXw : X < w.heap.size := Nat.lt_of_lt_of_le lX hb.size
  have HBUF := Lib.hid hbuf
  have HB0 := Lib.hid hB
  have HBB := Lib.hid hb
  have lBw : B < w.heap.size := hbuf.lt
  have HC := Lib.hid (And.intro c2 (And.intro c3 (And.intro c4 (And.intro c5 (And.intro c6 c7)))))
  have HT := Lib.hid ht
  have hfl : (ps.flatMap oB).length ≤ 1004 * 50 := by
    have := flat_leO hok n
    rw [List.take_of_length_le (by omega)] at this
    omega
  have HC2 := Lib.hid c2
  obtain ⟨tot, htot⟩ : ∃ k, k = (ps.flatMap oB).length := ⟨_, rfl⟩
  have HTOT := Lib.hid htot
  have htl : tot ≤ 1004 * 50 := by omega
  clear hbuf hb hB c2 c3 c4 c5 c6 c7 hrows hok ht hvla hvpa hvti hnn hn50 hfl htot
  go_enter Tryz.func130, Tryz.ntmps130
  go_wp2_with fail
  refine (len_c (rel := true) lX HC2.out HC7.out HR.out HOK.out (by have := HNN.out; omega) (by have h0 := HBB.out; have := h0.size; exact (by repeat (first | with_reducible assumption | with_reducible refine Below.drew ?_ | with_reducible refine below_drewN' ?_ _ | with_reducible refine Below.alloc ?_ ?_ _ | with_reducible refine Below.setCell ?_ ?_ _ | with_reducible exact Nat.le_refl _ | omega | focus (simp; done) | focus (simp; omega)))) HT.out).mono ?_
  rintro e0 w1 ⟨rfl, hb1⟩
  rw [← HTOT.out]
  have q0 : w1.cell? ⟨w.heap.size, 0, none⟩ = some (.bool false) := (hb1.cell (p := ⟨w.heap.size, 0, none⟩) (by simp)).trans (by go_simp)
  have q1 : w1.cell? ⟨w.heap.size, 1, none⟩ = some (.bool false) := (hb1.cell (p := ⟨w.heap.size, 1, none⟩) (by simp)).trans (by go_simp)
  have lOw : w.heap.size < w1.heap.size := World.block_lt_of_cell? _ _ q0
  have H1 := Lib.hid (show Below w.heap.size w w1 from Below.trans (by have h0 := Below.refl w.heap.size w; exact (by repeat (first | with_reducible assumption | with_reducible refine Below.drew ?_ | with_reducible refine below_drewN' ?_ _ | with_reducible refine Below.alloc ?_ ?_ _ | with_reducible refine Below.setCell ?_ ?_ _ | with_reducible exact Nat.le_refl _ | omega | focus (simp; done) | focus (simp; omega)))) (hb1.mono (by simp <;> omega)))
  have hN : ((((if true = true then 34 else 4) + tot : Nat) : Nat) : Int) = ((34 + tot : Nat) : Int) := by simp
  rw [hN]
  clear hb1 hN
  obtain ⟨K, hK⟩ : ∃ K, K = 34 + tot := ⟨_, rfl⟩
  rw [← hK]
  have HKK := Lib.hid hK
  have hK1 : 34 ≤ K := by omega
  have hK2 : K ≤ 100000 := by omega
  clear hK
  go_wp2_with fail
  refine (prepend_c (k := K) (bs := []) (HBUF.out.keeps H1.out) (by omega) (by omega) (by simp)).mono ?_
  rintro e1 w2 ⟨D, s, c, xs, rfl, hcc, hcm, hxl, hh, hb2, hk2, hD2⟩
  rw [List.append_nil] at hh
  have lD : D < w2.heap.size := hh.ltD
  have eOD : ¬ w.heap.size = D := by rcases HBUF.out.old H1.out hD2 with h | h <;> omega
  have r0 : w2.cell? ⟨w.heap.size, 0, none⟩ = some (.bool false) := hk2.cell (by omega) q0
  have r1 : w2.cell? ⟨w.heap.size, 1, none⟩ = some (.bool false) := hk2.cell (by omega) q1
  have H2 := Lib.hid (show Below B w w2 from (H1.out.mono (by omega)).trans hb2)
  have hw : ∀ j u, w0.cell? ⟨X, j, none⟩ = some u → w2.cell? ⟨X, j, none⟩ = some u := fun j u hu => (H2.out.cell (p := ⟨X, j, none⟩) lXB).trans ((HBB.out.cell (p := ⟨X, j, none⟩) lX).trans hu)
  have eXD : ¬ X = D := by have := hh.lt; omega
  have eDX : ¬ D = X := by omega
  have lO2 : w.heap.size < w2.heap.size := World.block_lt_of_cell? _ _ r0
  have k2 : w2.cell? ⟨X, 2, none⟩ = some (.int .u8 t) := hw _ _ HC.out.1
  have k3 : w2.cell? ⟨X, 3, none⟩ = some (.int .u8 hc) := hw _ _ HC.out.2.1
  have k4 : w2.cell? ⟨X, 4, none⟩ = some (vla) := hw _ _ HC.out.2.2.1
  have k5 : w2.cell? ⟨X, 5, none⟩ = some (vpa) := hw _ _ HC.out.2.2.2.1
  have k6 : w2.cell? ⟨X, 6, none⟩ = some (vti) := hw _ _ HC.out.2.2.2.2.1
  have k7 : w2.cell? ⟨X, 7, none⟩ = some (.slice pI n cI) := hw _ _ HC.out.2.2.2.2.2
  have lX2 : X < w2.heap.size := World.block_lt_of_cell? _ _ k2
  obtain ⟨y0, y1, r, rfl⟩ : ∃ a b r, xs = a :: b :: r := by
    match xs, hxl with
    | a :: b :: r, _ => exact ⟨a, b, r, rfl⟩
    | [a], h => simp at h; omega
    | [], h => simp at h; omega
  have hrl : r.length + 2 = K := by simpa using hxl
  have d0 := hh.row 0 _ rfl
  have d1 := hh.row 1 _ rfl
  rw [Nat.add_zero] at d0
  have fd0 := hh.frD s
  have fd1 := hh.frD (s + 1)
  have hcase : (t == 12) = true ∨ ((t == 12) = false ∧ (t == 13) = true) := by
    have := HT.out
    cases h : (t == 12) <;> simp [h] at this ⊢
    exact this
  have hKI : (0 : Int) < (K : Int) := by omega
  have hKJ : (1 : Int) < (K : Int) := by omega
  have hc1 : (34 : Int) ≤ (c : Int) := by omega
  have hc2 : (18 : Int) ≤ (c : Int) := by omega
  have ec1 : ¬ c = 1 := by omega
  have ec2 : ¬ c = 2 := by omega
  have ec18 : ¬ c = 18 := by omega
  have HH := Lib.hid hh
  have HXL := Lib.hid hrl
  clear hh hb2 hk2 hD2 hw q0 q1 hxl hrl
  obtain ⟨pla, cla, rfl⟩ := HLA.out.form
  obtain ⟨ppa, cpa, rfl⟩ := HPA.out.form
  have HLA3 := Lib.hid (show SB w0 (fun b => b < w0.heap.size) (.slice pla 16 cla) la from by have h := HLA.out; rw [hla] at h; exact h)
  have HPA3 := Lib.hid (show SB w0 (fun b => b < w0.heap.size) (.slice ppa 16 cpa) pa from by have h := HPA.out; rw [hpa] at h; exact h)
  rw [hla] at k4
  rw [hpa] at k5
  rcases hcase with h12 | ⟨h12, h13⟩
  all_goals
    go_wp2_with fail
    refine wp_gen (fun W => Holds W B D s (t :: hc :: r) ∧ Below B w W ∧ X < W.heap.size ∧ w.heap.size < W.heap.size ∧ (W.cell? ⟨X, 4, none⟩ = some (.slice pla 16 cla) ∧ W.cell? ⟨X, 5, none⟩ = some (.slice ppa 16 cpa) ∧ W.cell? ⟨X, 7, none⟩ = some (.slice pI n cI)) ∧ (W.cell? ⟨w.heap.size, 0, none⟩ = some (.bool false) ∧ W.cell? ⟨w.heap.size, 1, none⟩ = some (.bool false))) ?F (fun W hW => ?_)
    case F =>
      refine ⟨?_, ?_, by first | omega | (simp; omega), by first | omega | (simp; omega), ⟨by go_simp, by go_simp, by go_simp⟩, ⟨by go_simp, by go_simp⟩⟩
      · show Holds _ B D s (((y0 :: y1 :: r).set 0 t).set 1 hc)
        repeat (first | with_reducible exact HH.out | with_reducible refine Holds.drew ?_ | with_reducible refine Holds.drewN ?_ _ | with_reducible refine Holds.alloc ?_ _ | refine Holds.set ?_ (by simp) (by omega) _)
      · have h0 := H2.out
        have h1 := HH.out.lt
        exact (by repeat (first | with_reducible assumption | with_reducible refine Below.drew ?_ | with_reducible refine below_drewN' ?_ _ | with_reducible refine Below.alloc ?_ ?_ _ | with_reducible refine Below.setCell ?_ ?_ _ | with_reducible exact Nat.le_refl _ | omega | focus (simp; done) | focus (simp; omega)))
    obtain ⟨hW1, hW2, lXW, lOW, ⟨g4, g5, g7⟩, ⟨u0, u1⟩⟩ := hW
    clear k2 k3 k4 k5 k6 k7 d0 d1 fd0 fd1 r0 r1 lX2 lO2 lD
    have lDW : D < W.heap.size := hW1.ltD
    have HW1 := Lib.hid hW1
    have HW2 := Lib.hid hW2
    clear hW1 hW2 HH H2
    refine wp_region_same [7] (.q 0 (.q 1 (.q 2 (.q 3 (.q 4 (.q 5 (.l 6 (.l 7 .done .stop) .stop))))))) (by kernel_rfl) (by kernel_rfl) (fun _ _ d _ _ h => by cases d <;> exact h) (by simp only [Ord.fill, nthOp]; rfl) ?_; intro hSm
    repeat
      first | refine lexO_pass rfl ?_ | (refine lexO_take2 ?_ rfl (by kernel_rfl) (by with_reducible assumption) (fun w' hS K Q' hK => ?_) ?_; rotate_left; focus (have hS2 := hS.2; clear hS; go_wp2_with fail; exact hK))
    refine lexO_do rfl (fun K' hK' => ?_) lexO_stop
    go_wp2_with (go_at_call 110; refine to16_c.mono ?_; rintro e w' ⟨rfl, rfl⟩)
    refine step_and (by repeat (first | with_reducible assumption | with_reducible exact SameAt.refl _ | with_reducible refine SameAt.drew ?_ | with_reducible refine SameAt.drewN ?_ _ | with_reducible refine SameAt.alloc ?_ _ | (refine SameAt.below ?_ (by with_reducible assumption)))) (fun _ => ?_)
    repeat
      first | refine lexO_pass rfl ?_ | (refine lexO_take2 ?_ rfl (by kernel_rfl) (by with_reducible assumption) (fun w' hS K Q' hK => ?_) ?_; rotate_left; focus (have hS2 := hS.2; clear hS; go_wp2_with fail; exact hK))
    refine lexO_do rfl (fun K' hK' => ?_) lexO_stop
    refine wp_copy_sb (.tmp 50) (.tmp 55) 22 84 rfl Tryz.underlying22 (D := D) (k := s + 2) (ds := la) rfl rfl (SB.keeps (w := w0) HLA3.out ⟨Nat.le_trans HBB.out.size HW2.out.size, fun b hb _ => (HW2.out.block b (by have := HB0.out; omega)).trans (HBB.out.block b hb)⟩) (by omega) (fun _ => rfl) ?hcc ?hff (hK' _ _ (step_last (by decide) (lexO_done ?_)))
    case hcc =>
      intro i hi
      rw [World.cell?_drew, show s + 2 + i = s + (2 + i) by omega, HW1.out.row (2 + i) _ (List.getElem?_eq_getElem (by have := HXL.out; simp; omega))]
      rfl
    case hff => exact fun i _ => HW1.out.frD _
    have HW3 := Lib.hid (show Holds (W.drew.setCells D (s + 2) (la.map (.int .u8))) B D s ((t :: hc :: la) ++ r.drop 16) from by
      have h := HW1.out.drew.setCells (i := 2) (k := s + 2) (vs := la) rfl (by have := HXL.out; simp; omega)
      have e : List.drop (2 + la.length) (t :: hc :: r) = r.drop 16 := by rw [hla]; rfl
      rw [e] at h
      exact h)
    have HB3 := Lib.hid (show Below B w (W.drew.setCells D (s + 2) (la.map (.int .u8))) from below_setCells (Nat.le_of_lt HW1.out.lt) _ _ HW2.out.drew)
    have g5' := (cell_setCells eXD (la.map (.int .u8)) (s + 2) W.drew (j := 5)).trans g5
    have g7' := (cell_setCells eXD (la.map (.int .u8)) (s + 2) W.drew (j := 7)).trans g7
    have u0' := (cell_setCells eOD (la.map (.int .u8)) (s + 2) W.drew (j := 0)).trans u0
    have u1' := (cell_setCells eOD (la.map (.int .u8)) (s + 2) W.drew (j := 1)).trans u1
    clear HW1 HW2 g4 g5 g7 u0 u1 lXW lOW lDW
    generalize W.drew.setCells D (s + 2) (la.map (.int .u8)) = V at *
    clear hSm
    have lXW : X < V.heap.size := World.block_lt_of_cell? _ _ g5'
    have lDW : D < V.heap.size := HW3.out.ltD
    go_wp2_with fail
    refine wp_region_same [7] (.q 0 (.q 1 (.q 2 (.q 3 (.q 4 (.q 5 (.l 6 (.l 7 .done .stop) .stop))))))) (by kernel_rfl) (by kernel_rfl) (fun _ _ d _ _ h => by cases d <;> exact h) (by simp only [Ord.fill, nthOp]; rfl) ?_; intro hSm
    repeat
      first | refine lexO_pass rfl ?_ | (refine lexO_take2 ?_ rfl (by kernel_rfl) (by with_reducible assumption) (fun w' hS K Q' hK => ?_) ?_; rotate_left; focus (have hS2 := hS.2; clear hS; go_wp2_with fail; exact hK))
    refine lexO_do rfl (fun K' hK' => ?_) lexO_stop
    go_wp2_with (go_at_call 110; refine to16_c.mono ?_; rintro e w' ⟨rfl, rfl⟩)
    refine step_and (by repeat (first | with_reducible assumption | with_reducible exact SameAt.refl _ | with_reducible refine SameAt.drew ?_ | with_reducible refine SameAt.drewN ?_ _ | with_reducible refine SameAt.alloc ?_ _ | (refine SameAt.below ?_ (by with_reducible assumption)))) (fun _ => ?_)
    repeat
      first | refine lexO_pass rfl ?_ | (refine lexO_take2 ?_ rfl (by kernel_rfl) (by with_reducible assumption) (fun w' hS K Q' hK => ?_) ?_; rotate_left; focus (have hS2 := hS.2; clear hS; go_wp2_with fail; exact hK))
    refine lexO_do rfl (fun K' hK' => ?_) lexO_stop
    refine wp_copy_sb (.tmp 58) (.tmp 63) 22 84 rfl Tryz.underlying22 (D := D) (k := s + 18) (ds := pa) rfl rfl (SB.keeps (w := w0) HPA3.out ⟨Nat.le_trans HBB.out.size HB3.out.size, fun b hb _ => (HB3.out.block b (by have := HB0.out; omega)).trans (HBB.out.block b hb)⟩) (by omega) (fun _ => rfl) ?hcd ?hfd (hK' _ _ (step_last (by decide) (lexO_done ?_)))
    case hcd =>
      intro i hi
      rw [World.cell?_drew, show s + 18 + i = s + (18 + i) by omega, HW3.out.row (18 + i) _ (List.getElem?_eq_getElem (by have := HXL.out; simp; omega))]
      rfl
    case hfd => exact fun i _ => HW3.out.frD _
    have HW4 := Lib.hid (show Holds (V.drew.setCells D (s + 18) (pa.map (.int .u8))) B D s ((t :: hc :: (la ++ pa)) ++ r.drop 32) from by
      have h := HW3.out.drew.setCells (i := 18) (k := s + 18) (vs := pa) rfl (by have := HXL.out; simp; omega)
      have hl : (t :: hc :: la).length = 18 := by simp [hla]
      have e0 : List.take 18 (t :: hc :: la ++ List.drop 16 r) = t :: hc :: la := List.take_left' hl
      have e1 : List.drop (18 + pa.length) (t :: hc :: la ++ List.drop 16 r) = r.drop 32 := by rw [← List.drop_drop, List.drop_left' hl, List.drop_drop, hpa]
      rw [e0, e1] at h
      simpa using h)
    have HB4 := Lib.hid (show Below B w (V.drew.setCells D (s + 18) (pa.map (.int .u8))) from below_setCells (Nat.le_of_lt HW3.out.lt) _ _ HB3.out.drew)
    have g7'' := (cell_setCells eXD (pa.map (.int .u8)) (s + 18) V.drew (j := 7)).trans g7'
    have u0'' := (cell_setCells eOD (pa.map (.int .u8)) (s + 18) V.drew (j := 0)).trans u0'
    have u1'' := (cell_setCells eOD (pa.map (.int .u8)) (s + 18) V.drew (j := 1)).trans u1'
    clear HW3 HB3 g5' g7' u0' u1' lXW lDW
    have HW3 := HW4
    have HB3 := HB4
    have g7' := g7''
    have u0' := u0''
    have u1' := u1''
    clear HW4 HB4 g7'' u0'' u1''
    generalize V.drew.setCells D (s + 18) (pa.map (.int .u8)) = W3 at *
    clear hSm
    obtain ⟨zs, hzs⟩ : ∃ z, z = r.drop 32 := ⟨_, rfl⟩
    have hzl : zs.length = tot := by rw [hzs, List.length_drop]; have := HXL.out; have := HKK.out; omega
    rw [← hzs] at HW3
    obtain ⟨P, hP⟩ : ∃ P, P = (t :: hc :: (la ++ pa)) := ⟨_, rfl⟩
    rw [← hP] at HW3
    have hPl : P.length = 34 := by rw [hP]; simp; omega
    have HP := Lib.hid hP
    have HZL := Lib.hid hzl
    have HPL := Lib.hid hPl
    clear hP hzs hzl hPl
    have lX3 : X < W3.heap.size := World.block_lt_of_cell? _ _ g7'
    have lO3 : w.heap.size < W3.heap.size := World.block_lt_of_cell? _ _ u0'
    by_cases hn0 : n = 0
    · have hz : (0 : Int) < (n : Int) ↔ False := by simp; omega
      have hps : ps = [] := List.eq_nil_of_length_eq_zero (by have := HNN.out; omega)
      subst hn0
      go_wp2_with fail
      refine bodyPost_ret (v := .nilIface) (by simp only [results, Tryz.results130]; go_simp) rfl ⟨rfl, ?_, D, s, ?_⟩
      · have h0 := HB3.out
        exact (by repeat (first | with_reducible assumption | with_reducible refine Below.drew ?_ | with_reducible refine below_drewN' ?_ _ | with_reducible refine Below.alloc ?_ ?_ _ | with_reducible refine Below.setCell ?_ ?_ _ | with_reducible exact Nat.le_refl _ | omega | focus (simp; done) | focus (simp; omega)))
      · have h := HW3.out
        have h0 : tot = 0 := by rw [HTOT.out, hps]; rfl
        have hzz : zs = [] := List.eq_nil_of_length_eq_zero (by have := HZL.out; omega)
        rw [hzz, List.append_nil, HP.out] at h
        rw [hps]
        simpa using h
    · have hz : (0 : Int) < (n : Int) := by omega
      go_wp2_with fail
      generalize decide (0 < n) = dz
      go_loopw [10, 12, 13, 83] (fun off _ _ i wr => ∃ k : Nat, k ≤ n ∧ i = .int .i64 (k : Int) ∧ off = .int .i64 ((34 : Int) + (((ps.take k).flatMap oB).length : Int)) ∧ Hid (Holds wr B D s (P ++ ((ps.take k).flatMap oB ++ zs.drop ((ps.take k).flatMap oB).length))) ∧ Hid (Below B w wr) ∧ Hid (Keeps (fun b => b ≠ D) W3 wr)) (fun _ _ _ i _ => n - (intOf i).toNat)
      case atStart => exact ⟨0, Nat.zero_le _, rfl, by simp, Lib.hid (by simpa using HW3.out), Lib.hid HB3.out, Lib.hid (Keeps.refl _ _)⟩
      case round =>
        obtain ⟨k, hk, rfl, rfl, hwr, hbr, hkr⟩ := hrel
        obtain ⟨fl, hfl⟩ : ∃ l, l = (ps.take k).flatMap oB := ⟨_, rfl⟩
        rw [← hfl] at hwr ⊢
        obtain ⟨lk, hlk⟩ : ∃ l, l = fl.length := ⟨_, rfl⟩
        rw [← hlk] at hwr ⊢
        have v0 := hkr.out.cell (b := w.heap.size) eOD u0'
        have v1 := hkr.out.cell (b := w.heap.size) eOD u1'
        have lOr : w.heap.size < wr.heap.size := World.block_lt_of_cell? _ _ v0
        have lDr : D < wr.heap.size := hwr.out.ltD
        have HFL := Lib.hid hfl
        have HLK := Lib.hid hlk
        by_cases hlt : k < n
        · obtain ⟨gI, cI', cs, p, hiv, hgI, -, hp, hcs, a, nn, u, rfl, hp1, hu, -⟩ := HR.out.get (j := k) (by have := HNN.out; omega)
          have hcI : pI = some ⟨gI, 0, none⟩ ∧ cI = cI' := by
            simp only [Value.slice.injEq] at hiv
            exact ⟨hiv.1, hiv.2.2⟩
          obtain ⟨rfl, rfl⟩ := hcI
          have hsn := flat_snocO hp
          have hpo := HOK.out p (List.mem_of_getElem? hp)
          have hol := oB_len hpo
          have htk := flat_takeO (ps := ps) (k + 1)
          rw [hsn, List.length_append, hol, ← hfl, ← hlk, ← HTOT.out] at htk
          obtain ⟨a', n', h1, ha, h2, h3⟩ := hpo
          rw [hp1] at h1
          obtain ⟨rfl, rfl⟩ : a = a' ∧ nn = n' := by simpa using h1
          have hcell : ∀ i x, [Value.int .u16 a, .int .u16 nn, u][i]? = some x → wr.cell? ⟨gI, k * 3 + i, none⟩ = some x := fun i x hx => (hbr.out.cell (p := ⟨gI, k * 3 + i, none⟩) (by have := HB0.out; show gI < B; omega)).trans ((HBB.out.cell (p := ⟨gI, k * 3 + i, none⟩) hgI).trans (hcs i x hx))
          have k0 := hcell 0 _ rfl
          have k1 := hcell 1 _ rfl
          have k2 := hcell 2 _ rfl
          rw [Nat.add_zero] at k0
          have lgr : gI < wr.heap.size := World.block_lt_of_cell? _ _ k0
          have HU := Lib.hid (show SB w0 (fun b => b < w0.heap.size) u p.2 from hu.imp (fun b hb _ => hb))
          obtain ⟨pu, cu, rfl⟩ := hu.form
          obtain ⟨e1, e2, b1, b2, b3, b4⟩ := splitO ha (show 0 ≤ nn ∧ nn < 65536 by omega)
          have hoB : oB p = a / 256 :: a % 256 :: nn / 256 :: nn % 256 :: p.2 := by simp [oB, hp1]
          have hI : ((k : Nat) : Int) < (n : Int) := by omega
          have HSN := Lib.hid hsn
          have HOL := Lib.hid hol
          have HOB := Lib.hid hoB
          have HE := Lib.hid (And.intro e1 e2)
          have HK1 := Lib.hid hlt
          have HN2 := Lib.hid h2
          have bn : 0 ≤ nn ∧ nn ≤ 1000 := by omega
          have lKc : (34 : Int) + (lk : Int) ≤ (K : Int) := by have := HKK.out; omega
          have ecK : ¬ c = 34 + lk := by have := HKK.out; omega
          have lkb : lk ≤ 1004 * 50 := by omega
          have eDr : ¬ wr.heap.size = D := by omega
          clear hcs hcell hsn hol h1 h2 hp1 hp hgI hu ha e1 e2 hoB hfl hlk
          go_wp2_with fail
          refine wp_region_on (fun b => b = w.heap.size) (fun b hb => by first | omega | (rcases hb with hb | hb <;> omega) | (rcases hb with hb | hb <;> simp <;> omega)) [] (.q 0 (.q 1 (.q 2 (.q 3 (.l 4 (.q 5 .done) .stop))))) (by kernel_rfl) (by kernel_rfl) (fun _ _ d _ _ h => by cases d <;> exact h) (by simp only [Ord.fill, nthOp]; rfl) ?_; intro hSm
          repeat
            first | refine lexO_pass rfl ?_ | (refine lexO_take2 ?_ rfl (by kernel_rfl) (by with_reducible assumption) (fun w' hS K Q' hK => ?_) ?_; rotate_left; focus (have hS2 := hS.2; clear hS; go_wp2_with fail; exact hK))
          refine lexO_do rfl (fun K' hK' => ?_) lexO_stop
          go_wp2_with fail
          have hkk := HKK.out
          have hbl : (P ++ (fl ++ zs.drop lk)).length = K := by have h1 := HPL.out; have h2 := HZL.out; have h3 := HLK.out; simp only [List.length_append, List.length_drop]; omega
          have HBL := Lib.hid hbl
          refine (encode_c (B := B) (D := D) (s := s) (O := wr.heap.size) (j := 34 + lk) (n := K - (34 + lk)) (c := c - (34 + lk)) (bs := P ++ (fl ++ zs.drop lk)) (ds := p.2) (u := .slice pu p.2.length cu) b1 b2 b3 b4 (hwr.out.keeps (by have h0 := Below.refl wr.heap.size wr; exact (by repeat (first | with_reducible assumption | with_reducible refine Below.drew ?_ | with_reducible refine below_drewN' ?_ _ | with_reducible refine Below.alloc ?_ ?_ _ | with_reducible refine Below.setCell ?_ ?_ _ | with_reducible exact Nat.le_refl _ | omega | focus (simp; done) | focus (simp; omega))))) eDr (by rw [← HE.out.1]; go_simp) (by rw [← HE.out.2]; go_simp) (by go_simp)
            ((SB.keeps (w := w0) HU.out ⟨by have := HBB.out.size; have := hbr.out.size; simp; omega, fun b hb _ => by have h1 := HB0.out; exact (show _ = wr.heap[b]? from Below.heap_alloc _ _ _ (by have := hbr.out.size; omega)).trans ((hbr.out.block b (by omega)).trans (HBB.out.block b hb))⟩).imp (fun b _ hb => by have := HB0.out; have := hwr.out.lt; omega)) (by rw [hbl]; omega) (by omega) (by omega) (by omega)).mono ?_
          rintro e5 w5 ⟨rfl, hh5, hb5, hk5⟩
          have z1 : w5.cell? ⟨wr.heap.size, 1, none⟩ = some (.int .u16 nn) := hk5.cell eDr (by go_simp)
          have lr5 : wr.heap.size < w5.heap.size := World.block_lt_of_cell? _ _ z1
          have HH5 := Lib.hid hh5
          have HB5 := Lib.hid (show Below B w w5 from Below.trans (by have h0 := hbr.out; have := hbr.out.size; exact (by repeat (first | with_reducible assumption | with_reducible refine Below.drew ?_ | with_reducible refine below_drewN' ?_ _ | with_reducible refine Below.alloc ?_ ?_ _ | with_reducible refine Below.setCell ?_ ?_ _ | with_reducible exact Nat.le_refl _ | omega | focus (simp; done) | focus (simp; omega)))) (hb5.mono (Nat.le_of_lt hwr.out.lt)))
          have HK5 := Lib.hid (show Keeps (fun b => b ≠ D) W3 w5 from hkr.out.trans (Keeps.trans (Keeps.of_lt (by exact (by repeat (first | with_reducible assumption | with_reducible exact Keeps.refl _ _ | with_reducible refine Keeps.drew ?_ | with_reducible refine Keeps.drewN ?_ _ | with_reducible refine Keeps.alloc ?_ _ | with_reducible refine Keeps.setCell ?_ ?_ _ | omega | focus (simp; done) | focus (simp; omega))))) hk5))
          clear hh5 hb5 hkk hbl
          go_wp2_with fail
          refine step_and (SameOn.keeps (by repeat (first | with_reducible assumption | (with_reducible refine SameOn.refl (fun b hb => ?_); first | omega | (rcases hb with hb | hb <;> omega) | (rcases hb with hb | hb <;> simp <;> omega)) | with_reducible refine SameOn.drew ?_ | with_reducible refine SameOn.alloc ?_ _ | (refine SameOn.below ?_ (by with_reducible assumption)))) hk5 (fun b hb => by omega)) (fun _ => ?_)
          clear hk5
          repeat
            first | refine lexO_pass rfl ?_ | (refine lexO_take2 ?_ rfl (by kernel_rfl) (by with_reducible assumption) (fun w' hS K Q' hK => ?_) ?_; rotate_left; focus (have hS2 := hS.2; clear hS; go_wp2_with fail; exact hK))
          refine lexO_done ?_
          go_wp2_with fail
          go_roundw
          case rel =>
            exact ⟨k + 1, HK1.out, by go_num, by have h1 := HN2.out; have h2 := HOL.out; have h3 := HLK.out; have h4 := HFL.out; rw [HSN.out, List.length_append, ← h4]; congr 1; omega, Lib.hid (by
            have h := HH5.out
            have hl1 : (P ++ fl).length = 34 + lk := by rw [List.length_append, HPL.out, HLK.out]
            rw [← List.append_assoc P, List.take_left' hl1, Nat.add_assoc, ← List.drop_drop, List.drop_left' hl1, List.drop_drop, ← HOB.out, List.append_assoc] at h
            rw [HSN.out, ← HFL.out, List.length_append, ← HLK.out, HOL.out, List.append_assoc]
            exact h), HB5, HK5⟩
          case measure => have := HK1.out; simp [intOf]; omega
        · obtain rfl : k = n := by omega
          have hI : ¬ ((k : Nat) : Int) < (k : Int) := by omega
          go_wp2_with fail
          refine bodyPost_ret (v := .nilIface) (by simp only [results, Tryz.results130]; go_simp) rfl ⟨rfl, hbr.out, D, s, ?_⟩
          have h := hwr.out
          have e1 : fl = ps.flatMap oB := by rw [HFL.out, List.take_of_length_le (by have := HNN.out; omega)]
          have e2 : zs.drop lk = [] := List.drop_eq_nil_of_le (by have h1 := HZL.out; have h2 := HTOT.out; have h3 := HLK.out; rw [e1] at h3; omega)
          rw [e2, List.append_nil, e1, HP.out] at h
          first | exact h | simpa only [List.cons_append, List.append_assoc] using h
end Go.Proofs.YtaejicpdaldpiaaGreat
