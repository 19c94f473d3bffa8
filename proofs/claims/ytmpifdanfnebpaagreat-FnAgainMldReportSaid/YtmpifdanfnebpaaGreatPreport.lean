/-
  spec.Plain of mldreport2.
-/
import Derived.Test.YtmpifdanfnebpaaGreatKind
import Derived.Test.YtmpifdanfnebpaaGreatZero
import Derived.Test.YtmpifdanfnebpaaGreatLaw
import Derived.Test.YtmpifdanfnebpaaGreatMquery
import Derived.Test.YtmpifdanfnebpaaGreatRepw
namespace Go.Proofs.YtmpifdanfnebpaaGreat
open Go Go.RowKit

set_option maxRecDepth 100000 in
set_option maxHeartbeats 4000000 in
theorem plain_report {x0 x1 x2 x3 : Int} {rest : List Int} {l : Lay} (hs : SpecOf (.string ⟨#[109, 108, 100, 114, 101, 112, 111, 114, 116, 50]⟩) (x0 :: x1 :: x2 :: x3 :: rest) (some (some l))) (hl : rest.length ≤ 400) (hn : l.parts.length ≤ 400) (hsum : sumR l.parts ≤ 1000) :
    PlainOf (.string ⟨#[109, 108, 100, 114, 101, 112, 111, 114, 116, 50]⟩) (x0 :: x1 :: x2 :: x3 :: rest) ((x0 == 0 && x1 == 0) && decide (4 + sumR l.parts = rest.length + 4)) := by
  intro v w h
  have HH := Lib.hid h
  have HS := Lib.hid hs
  obtain ⟨p, c, rfl, hnc, hc, hp, hr⟩ := h
  rcases hr with h | ⟨g, o, rfl, -, hg, hcell⟩
  · simp at h
  have c0 := hcell 0 _ (by simp; rfl)
  have c1 := hcell 1 _ (by simp; rfl)
  rw [Nat.add_zero] at c0
  obtain ⟨n, hnn⟩ : ∃ n, n = rest.length := ⟨_, rfl⟩
  have hnl : (x0 :: x1 :: x2 :: x3 :: rest).length = n + 1 + 1 + 1 + 1 := by rw [hnn]; rfl
  have HNL := Lib.hid hnl
  rw [hnl] at HH hnc ⊢
  rw [← hnn] at hl ⊢
  have n2 : (2 : Int) ≤ (c : Int) := by omega
  obtain ⟨ps, hps⟩ : ∃ ps, ps = l.parts := ⟨_, rfl⟩
  rw [← hps] at hn hsum ⊢
  obtain ⟨np, hnp⟩ : ∃ m, m = ps.length := ⟨_, rfl⟩
  have HPS := Lib.hid hps
  have HNP := Lib.hid hnp
  obtain ⟨S, hS⟩ : ∃ S, S = sumR ps := ⟨_, rfl⟩
  have HSS := Lib.hid hS
  rw [← hS] at hsum ⊢
  rw [← hnp] at hn
  obtain ⟨z, hz⟩ : ∃ z, z = (x0 == 0 && x1 == 0) := ⟨_, rfl⟩
  have HZ := Lib.hid hz
  rw [← hz]
  have HSM := Lib.hid (sumR_take ps)
  clear hs hcell hp hnn hnl hps hnp hS hz hc
  go_enter Tryz.func7, Tryz.ntmps7
  go_wp2_with fail
  refine (HS.out _ _ HH.out).mono ?_
  rintro e1 w1 ⟨hb1, u, l', hu, hD⟩
  rcases hD with ⟨hD, -⟩ | ⟨hD, -⟩ | ⟨hD, rfl⟩
  · cases hD
  · cases hD
  obtain rfl := Option.some.inj (Option.some.inj hD)
  clear hD
  have hu2 := hu
  obtain ⟨p1, n1, d1, p2, n2, d2, p3, n3, c3, p4, n4, d4, rfl, hn3⟩ := hu2.agg
  have hsp : SP w1 (fun _ => True) (.slice p3 np c3) ps := by
    obtain ⟨a, b, c, d, he, -, -, g3, -⟩ := hu
    simp only [Value.agg.injEq, Array.mk.injEq, List.cons.injEq, and_true] at he
    obtain ⟨rfl, rfl, rfl, rfl⟩ := he
    rw [hn3, ← HPS.out, ← HNP.out] at g3
    exact g3
  obtain rfl : np = n3 := by rw [hn3, ← HPS.out, ← HNP.out]
  have HSP := Lib.hid hsp
  clear hu hu2 hn3
  have HB1 := Lib.hid hb1
  have k0 : w1.cell? ⟨g, o, none⟩ = _ := (hb1.cell (p := ⟨g, o, none⟩) hg).trans c0
  have k1 : w1.cell? ⟨g, o + 1, none⟩ = _ := (hb1.cell (p := ⟨g, o + 1, none⟩) hg).trans c1
  have lg1 : g < w1.heap.size := Nat.lt_of_lt_of_le hg hb1.size
  clear hb1 hsp c0 c1
  go_wp2_with fail
  go_loopw [9, 11, 95] (fun t _ i wr => ∃ k : Nat, k ≤ np ∧ i = .int .i64 (k : Int) ∧ t = .int .i64 ((4 : Int) + ((sumR (ps.take k) : Nat) : Int)) ∧ Hid (Below w1.heap.size w1 wr)) (fun _ _ i _ => np - (intOf i).toNat)
  case atStart => exact ⟨0, Nat.zero_le _, rfl, rfl, Lib.hid (by have h0 := Below.refl w1.heap.size w1; exact (by repeat (first | with_reducible assumption | with_reducible refine Below.drew ?_ | with_reducible refine below_drewN' ?_ _ | with_reducible refine Below.alloc ?_ ?_ _ | with_reducible refine Below.setCell ?_ ?_ _ | with_reducible exact Nat.le_refl _ | omega | focus (simp; done) | focus (simp; omega))))⟩
  case round =>
    obtain ⟨k, hk, rfl, rfl, hbr⟩ := hrel
    have hle := HSM.out k
    rw [← HSS.out] at hle
    obtain ⟨sk, hsk⟩ : ∃ s, s = sumR (ps.take k) := ⟨_, rfl⟩
    rw [← hsk] at hle ⊢
    have HSK := Lib.hid hsk
    clear hsk
    by_cases hlt : k < np
    · obtain ⟨gI, oI, u1', u2', q, hpi, lgI, hq, hc1, hc2, hs1, hs2⟩ := HSP.out.get (k := k) (by have := HNP.out; omega)
      subst hpi
      obtain ⟨pq, cq, rfl⟩ := hs2.form
      obtain ⟨pu, cu, rfl, -⟩ := hs1
      have r1 := (hbr.out.cell (p := ⟨gI, oI + k * 2, none⟩) lgI).trans hc1
      have r2 := (hbr.out.cell (p := ⟨gI, oI + k * 2 + 1, none⟩) lgI).trans hc2
      have lgr : gI < wr.heap.size := Nat.lt_of_lt_of_le lgI hbr.out.size
      have hkI : ((k : Nat) : Int) < (np : Int) := by omega
      have hsn := sumR_snoc hq
      rw [← HSK.out] at hsn
      have hle2 := HSM.out (k + 1)
      rw [hsn, ← HSS.out] at hle2
      have HSN := Lib.hid hsn
      have HK1 := Lib.hid hlt
      clear hs2 hc1 hc2 hq hsn
      go_wp2_with fail
      go_roundw
      case rel => exact ⟨k + 1, HK1.out, by go_num, by rw [HSN.out]; congr 1; omega, Lib.hid (by have h0 := hbr.out; have := h0.size; exact (by repeat (first | with_reducible assumption | with_reducible refine Below.drew ?_ | with_reducible refine below_drewN' ?_ _ | with_reducible refine Below.alloc ?_ ?_ _ | with_reducible refine Below.setCell ?_ ?_ _ | with_reducible exact Nat.le_refl _ | omega | focus (simp; done) | focus (simp; omega))))⟩
      case measure => have := HK1.out; simp [intOf]; omega
    · obtain rfl : np = k := by omega
      have hkI : ¬ ((np : Nat) : Int) < (np : Int) := by omega
      have hsS : sk = S := by rw [HSK.out, HSS.out, List.take_of_length_le (by have := HNP.out; omega)]
      obtain rfl : S = sk := hsS.symm
      have j0 : wr.cell? ⟨g, o, none⟩ = _ := (hbr.out.cell (p := ⟨g, o, none⟩) lg1).trans k0
      have j1 : wr.cell? ⟨g, o + 1, none⟩ = _ := (hbr.out.cell (p := ⟨g, o + 1, none⟩) lg1).trans k1
      have lgw : g < wr.heap.size := by have := hbr.out.size; omega
      have HBF := Lib.hid (show Below w.heap.size w wr from HB1.out.trans (hbr.out.mono HB1.out.size))
      clear HSK HSM HSP hle hlt hsS k0 k1 lg1
      cases hzz : z with
      | false =>
        go_wp2_with fail
        refine (zero2_c x0 x1 (by go_simp) (by go_simp)).mono ?_
        rintro e w' ⟨rfl, rfl⟩
        rw [← HZ.out, hzz]
        go_wp2_with fail
        go_ret
        exact ⟨by rw [hzz]; rfl, HBF.out⟩
      | true =>
        by_cases hq : (4 : Int) + (S : Int) = (n : Int) + 1 + 1 + 1 + 1
        · have hq1 : ((4 : Int) + (S : Int) == (n : Int) + 1 + 1 + 1 + 1) = true := by rw [beq_iff_eq]; exact hq
          have HQ := Lib.hid hq
          clear hq
          go_wp2_with fail
          refine (zero2_c x0 x1 (by go_simp) (by go_simp)).mono ?_
          rintro e w' ⟨rfl, rfl⟩
          rw [← HZ.out, hzz]
          go_wp2_with fail
          go_ret
          exact ⟨by rw [hzz]; have := HQ.out; simp; omega, HBF.out⟩
        · have hq1 : ((4 : Int) + (S : Int) == (n : Int) + 1 + 1 + 1 + 1) = false := by rw [beq_eq_false_iff_ne]; exact hq
          have HQ := Lib.hid hq
          clear hq
          go_wp2_with fail
          refine (zero2_c x0 x1 (by go_simp) (by go_simp)).mono ?_
          rintro e w' ⟨rfl, rfl⟩
          rw [← HZ.out, hzz]
          go_wp2_with fail
          go_ret
          exact ⟨by rw [hzz]; have := HQ.out; simp; omega, HBF.out⟩
end Go.Proofs.YtmpifdanfnebpaaGreat
