/-
  spec.Plain of tls.
-/
import Derived.Test.YtmpifdanfnebpaaGreatKind
import Derived.Test.YtmpifdanfnebpaaGreatSpec
import Derived.Test.YtmpifdanfnebpaaGreatTlsw
namespace Go.Proofs.YtmpifdanfnebpaaGreat
open Go Go.RowKit

set_option maxRecDepth 100000 in
set_option maxHeartbeats 4000000 in
theorem plain_tls {bs : List Int} {rs : List (Nat × (List Int × List Int))} (hall : ∀ z ∈ bs, 0 ≤ z ∧ z ≤ 255) (h5 : 5 ≤ bs.length) (hl4 : bs.length ≤ 400) (hd : dTls bs = some (some rs)) : PlainOf (.string ⟨#[116, 108, 115]⟩) bs (pRecs 0 rs) := by
  intro v w h
  obtain ⟨p, c, rfl, hnc, hc, hp, hr⟩ := h
  rcases hr with h | ⟨g, o, rfl, -, hg, hcell⟩
  · have := congrArg List.length h
    rw [List.length_map, List.length_nil] at this
    omega
  obtain ⟨n, hn⟩ : ∃ n, n = bs.length := ⟨_, rfl⟩
  rw [← hn] at hnc h5 hl4 ⊢
  have HN := Lib.hid hn
  have HBB := Lib.hid hall
  have HD := Lib.hid hd
  have HC := Lib.hid hcell
  obtain ⟨pr, hpr⟩ : ∃ x, x = pRecs 0 rs := ⟨_, rfl⟩
  rw [← hpr]
  have HP0 := Lib.hid hpr
  clear hn hall hd hcell hpr hp
  go_enter Tryz.func7, Tryz.ntmps7
  go_wp2_with fail
  go_loopw [1, 12, 13] (fun bv last _ wr => ∃ (j : Nat) (A : Option Addr) (l e la : Nat) (rs' : List (Nat × (List Int × List Int))), bv = .slice A l e ∧ last = .int .i64 (la : Int) ∧ j + l = n ∧ e = c - j ∧ (0 < l → A = some ⟨g, o + j, none⟩) ∧ la ≤ 3 ∧ Hid (dTls (bs.drop j) = some (some rs')) ∧ Hid (pr = pRecs la rs') ∧ Hid (Below w.heap.size w wr)) (fun bv _ _ _ => match bv with | .slice _ l _ => l | _ => 0)
  case atStart => exact ⟨0, some ⟨g, o, none⟩, n, c, 0, rs, rfl, rfl, by omega, by omega, fun _ => rfl, by omega, HD, HP0, Lib.hid (by have h0 := Below.refl w.heap.size w; exact (by repeat (first | with_reducible assumption | with_reducible refine Below.drew ?_ | with_reducible refine below_drewN' ?_ _ | with_reducible refine Below.alloc ?_ ?_ _ | with_reducible refine Below.setCell ?_ ?_ _ | with_reducible exact Nat.le_refl _ | omega | focus (simp; done) | focus (simp; omega))))⟩
  case round =>
    obtain ⟨j, A, l, e, la, rs', rfl, rfl, hj, he, hA, hla, HDD, HPR, HBR⟩ := hrel
    have lgr : g < wr.heap.size := Nat.lt_of_lt_of_le hg HBR.out.size
    have HJ := Lib.hid hj
    have HE := Lib.hid he
    have HA := Lib.hid hA
    clear hj he hA
    by_cases hl5 : l < 5
    · have hl2 : ¬ (5 : Int) ≤ (l : Int) := by omega
      go_wp2_with fail
      refine bodyPost_ret (v := .bool true) (by simp only [results, Tryz.results7]; go_simp) rfl ?_
      obtain ⟨-, h2⟩ := dTls_end HDD.out (by rw [List.length_drop]; have := HN.out; have := HJ.out; omega)
      refine ⟨?_, by have h0 := HBR.out; have := h0.size; exact (by repeat (first | with_reducible assumption | with_reducible refine Below.drew ?_ | with_reducible refine below_drewN' ?_ _ | with_reducible refine Below.alloc ?_ ?_ _ | with_reducible refine Below.setCell ?_ ?_ _ | with_reducible exact Nat.le_refl _ | omega | focus (simp; done) | focus (simp; omega)))⟩
      rw [HPR.out, h2]
      rfl
    · have hl2 : (5 : Int) ≤ (l : Int) := by omega
      obtain ⟨O, hO⟩ : ∃ O, O = o + j := ⟨_, rfl⟩
      have hA' := HA.out (by omega)
      rw [← hO] at hA'
      obtain rfl := hA'
      have HOO := Lib.hid hO
      have hdl : (bs.drop j).length = l := by have := HN.out; have := HJ.out; rw [List.length_drop]; omega
      have he5 : (5 : Int) ≤ (e : Int) := by have := HE.out; have := HJ.out; omega
      have hen3 : ¬ e = 3 := by omega
      have hl0 : (0 : Int) < (l : Int) := by omega
      obtain ⟨y0, y1, y2, y3, y4, rest2, hrest⟩ := five (l := bs.drop j) (by omega)
      have hcell2 : ∀ i x, (y0 :: y1 :: y2 :: y3 :: y4 :: rest2)[i]? = some x → w.cell? ⟨g, O + i, none⟩ = some (.int .u8 x) := by
        intro i x hx
        rw [← hrest, List.getElem?_drop] at hx
        rw [hO, Nat.add_assoc]
        exact HC.out (j + i) _ (by rw [List.getElem?_map, hx]; rfl)
      have hbb : ∀ z ∈ [y0, y1, y2, y3, y4], 0 ≤ z ∧ z ≤ 255 := fun z hz => HBB.out z (List.mem_of_mem_drop (i := j) (by rw [hrest]; exact List.mem_append_left rest2 hz))
      have e0 := (HBR.out.cell (p := ⟨g, O + 0, none⟩) hg).trans (hcell2 0 _ rfl)
      have e3 := (HBR.out.cell (p := ⟨g, O + 3, none⟩) hg).trans (hcell2 3 _ rfl)
      have e4 := (HBR.out.cell (p := ⟨g, O + 4, none⟩) hg).trans (hcell2 4 _ rfl)
      have e4' : wr.cell? ⟨g, O + 3 + 1, none⟩ = _ := e4
      rw [Nat.add_zero] at e0
      have b3 := hbb y3 (by simp)
      have b4 := hbb y4 (by simp)
      obtain ⟨N, hNN⟩ : ∃ N : Nat, y3 * 256 + y4 = (N : Int) := ⟨(y3 * 256 + y4).toNat, by omega⟩
      have hlr : l = rest2.length + 5 := by rw [hrest] at hdl; simp at hdl; omega
      have hinv := HDD.out
      rw [hrest] at hinv
      obtain ⟨hfit, r, rs'', hrs, hnx, hkind⟩ := dTls_inv hinv hNN
      have HREST := Lib.hid (show (bs.drop j).drop 5 = rest2 by rw [hrest]; rfl)
      have HLR := Lib.hid (show l = rest2.length + 5 ∧ N ≤ rest2.length from ⟨hlr, hfit⟩)
      have HRS := Lib.hid hrs
      have HNX := Lib.hid hnx
      have hft2 : 5 + (N : Int) ≤ (e : Int) := by have := HE.out; have := HJ.out; omega
      have hft3 : 5 + (N : Int) ≤ (l : Int) := by omega
      obtain ⟨AE, hAE⟩ : ∃ A, (if e = 5 + N then some (⟨g, O, none⟩ : Addr) else some ⟨g, O + (5 + N), none⟩) = A := ⟨_, rfl⟩
      clear hO hdl hrest hcell2 hbb hlr hinv hfit hrs hnx e4 HDD
      rcases hkind with hkind | hkind | hkind | hkind
      · obtain ⟨rfl, hi⟩ := hkind
        have HI := Lib.hid hi
        clear hi
        by_cases hlt : ((0 : Int) < (la : Int))
        · go_wp2_with fail
          refine bodyPost_ret (v := .bool false) (by simp only [results, Tryz.results7]; go_simp) rfl ?_
          have h1 := HPR.out
          rw [HRS.out] at h1
          simp only [pRecs, HI.out] at h1
          refine ⟨?_, by have h0 := HBR.out; have := h0.size; exact (by repeat (first | with_reducible assumption | with_reducible refine Below.drew ?_ | with_reducible refine below_drewN' ?_ _ | with_reducible refine Below.alloc ?_ ?_ _ | with_reducible refine Below.setCell ?_ ?_ _ | with_reducible exact Nat.le_refl _ | omega | focus (simp; done) | focus (simp; omega)))⟩
          rw [h1]
          have : decide (la ≤ 0) = false := by simp; omega
          rw [this]
          simp
        · go_wp2_with (go_at_call 14; refine (number2_c y3 y4 b3 b4 (by go_simp) (by go_simp)).mono ?_; rintro e w' ⟨rfl, rfl⟩)
          go_roundw
          case rel => exact ⟨j + (5 + N), AE, l - (5 + N), e - (5 + N), 0, rs'', by first | rfl | rw [hAE], rfl, by have := HJ.out; have := HLR.out; omega, by have := HE.out; omega, fun h => by rw [← hAE, if_neg (by have := HE.out; have := HJ.out; have := HLR.out; omega), HOO.out]; (congr 2 <;> omega), by omega, Lib.hid (by
            have h := HNX.out
            rw [show j + (5 + N) = j + 5 + N by omega, ← List.drop_drop, ← List.drop_drop, HREST.out]
            exact h), Lib.hid (by
            have h1 := HPR.out
            rw [HRS.out] at h1
            simp only [pRecs, HI.out] at h1
            rw [h1]
            have : decide (la ≤ 0) = true := by simp; omega
            rw [this]
            simp), Lib.hid (by have h0 := HBR.out; have := h0.size; exact (by repeat (first | with_reducible assumption | with_reducible refine Below.drew ?_ | with_reducible refine below_drewN' ?_ _ | with_reducible refine Below.alloc ?_ ?_ _ | with_reducible refine Below.setCell ?_ ?_ _ | with_reducible exact Nat.le_refl _ | omega | focus (simp; done) | focus (simp; omega))))⟩
          case measure => simp; have := HLR.out; omega
      · obtain ⟨rfl, hi⟩ := hkind
        have HI := Lib.hid hi
        clear hi
        by_cases hlt : ((3 : Int) < (la : Int))
        · omega
        · go_wp2_with (go_at_call 14; refine (number2_c y3 y4 b3 b4 (by go_simp) (by go_simp)).mono ?_; rintro e w' ⟨rfl, rfl⟩)
          go_roundw
          case rel => exact ⟨j + (5 + N), AE, l - (5 + N), e - (5 + N), 3, rs'', by first | rfl | rw [hAE], rfl, by have := HJ.out; have := HLR.out; omega, by have := HE.out; omega, fun h => by rw [← hAE, if_neg (by have := HE.out; have := HJ.out; have := HLR.out; omega), HOO.out]; (congr 2 <;> omega), by omega, Lib.hid (by
            have h := HNX.out
            rw [show j + (5 + N) = j + 5 + N by omega, ← List.drop_drop, ← List.drop_drop, HREST.out]
            exact h), Lib.hid (by
            have h1 := HPR.out
            rw [HRS.out] at h1
            simp only [pRecs, HI.out] at h1
            rw [h1]
            have : decide (la ≤ 3) = true := by simp; omega
            rw [this]
            simp), Lib.hid (by have h0 := HBR.out; have := h0.size; exact (by repeat (first | with_reducible assumption | with_reducible refine Below.drew ?_ | with_reducible refine below_drewN' ?_ _ | with_reducible refine Below.alloc ?_ ?_ _ | with_reducible refine Below.setCell ?_ ?_ _ | with_reducible exact Nat.le_refl _ | omega | focus (simp; done) | focus (simp; omega))))⟩
          case measure => simp; have := HLR.out; omega
      · obtain ⟨rfl, hi⟩ := hkind
        have HI := Lib.hid hi
        clear hi
        have hlt : ¬ ((9 : Int) < (la : Int)) := by omega
        go_wp2_with fail
        refine bodyPost_ret (v := .bool false) (by simp only [results, Tryz.results7]; go_simp) rfl ?_
        have h1 := HPR.out
        rw [HRS.out] at h1
        simp only [pRecs, HI.out] at h1
        refine ⟨?_, by have h0 := HBR.out; have := h0.size; exact (by repeat (first | with_reducible assumption | with_reducible refine Below.drew ?_ | with_reducible refine below_drewN' ?_ _ | with_reducible refine Below.alloc ?_ ?_ _ | with_reducible refine Below.setCell ?_ ?_ _ | with_reducible exact Nat.le_refl _ | omega | focus (simp; done) | focus (simp; omega)))⟩
        rw [h1]
        simp
      · obtain ⟨rfl, hi⟩ := hkind
        have HI := Lib.hid hi
        clear hi
        by_cases hlt : ((2 : Int) < (la : Int))
        · go_wp2_with fail
          refine bodyPost_ret (v := .bool false) (by simp only [results, Tryz.results7]; go_simp) rfl ?_
          have h1 := HPR.out
          rw [HRS.out] at h1
          simp only [pRecs, HI.out] at h1
          refine ⟨?_, by have h0 := HBR.out; have := h0.size; exact (by repeat (first | with_reducible assumption | with_reducible refine Below.drew ?_ | with_reducible refine below_drewN' ?_ _ | with_reducible refine Below.alloc ?_ ?_ _ | with_reducible refine Below.setCell ?_ ?_ _ | with_reducible exact Nat.le_refl _ | omega | focus (simp; done) | focus (simp; omega)))⟩
          rw [h1]
          have : decide (la ≤ 2) = false := by simp; omega
          rw [this]
          simp
        · go_wp2_with (go_at_call 14; refine (number2_c y3 y4 b3 b4 (by go_simp) (by go_simp)).mono ?_; rintro e w' ⟨rfl, rfl⟩)
          go_roundw
          case rel => exact ⟨j + (5 + N), AE, l - (5 + N), e - (5 + N), 2, rs'', by first | rfl | rw [hAE], rfl, by have := HJ.out; have := HLR.out; omega, by have := HE.out; omega, fun h => by rw [← hAE, if_neg (by have := HE.out; have := HJ.out; have := HLR.out; omega), HOO.out]; (congr 2 <;> omega), by omega, Lib.hid (by
            have h := HNX.out
            rw [show j + (5 + N) = j + 5 + N by omega, ← List.drop_drop, ← List.drop_drop, HREST.out]
            exact h), Lib.hid (by
            have h1 := HPR.out
            rw [HRS.out] at h1
            simp only [pRecs, HI.out] at h1
            rw [h1]
            have : decide (la ≤ 2) = true := by simp; omega
            rw [this]
            simp), Lib.hid (by have h0 := HBR.out; have := h0.size; exact (by repeat (first | with_reducible assumption | with_reducible refine Below.drew ?_ | with_reducible refine below_drewN' ?_ _ | with_reducible refine Below.alloc ?_ ?_ _ | with_reducible refine Below.setCell ?_ ?_ _ | with_reducible exact Nat.le_refl _ | omega | focus (simp; done) | focus (simp; omega))))⟩
          case measure => simp; have := HLR.out; omega
end Go.Proofs.YtmpifdanfnebpaaGreat
