/-
  The decoder of dhcpv6.
-/
import Derived.Test.YtaofambmajlhmaaDopt
import Derived.Test.YtaofambmajlhmaaOn
namespace Go.Proofs.Ytaofambmajlhmaa
open Go Go.RowKit

def DhcpPost (X B : Nat) (w' : World) (e : Ending) (r : Option (List (List Int × List Int))) (m h : Int) (la pa ti : List Int) : Prop :=
  (r = none ∧ ∃ b, e = .returned (.iface 178 (.pointer (some ⟨b, 0, none⟩)))) ∨
    ∃ ps, r = some ps ∧ e = .returned .nilIface ∧ w'.cell? ⟨X, 1, none⟩ = some (.slice none 0 0) ∧ w'.cell? ⟨X, 2, none⟩ = some (.int .u8 m) ∧ w'.cell? ⟨X, 3, none⟩ = some (.int .u8 h) ∧
      (∃ v, w'.cell? ⟨X, 4, none⟩ = some v ∧ SB w' (· < B) v la) ∧ (∃ v, w'.cell? ⟨X, 5, none⟩ = some v ∧ SB w' (· < B) v pa) ∧ (∃ v, w'.cell? ⟨X, 6, none⟩ = some v ∧ SB w' (· < B) v ti) ∧
      ∃ iv, w'.cell? ⟨X, 7, none⟩ = some iv ∧ Rows eO w' (X + 1) (· < B) 119 iv ps

set_option maxRecDepth 100000 in
set_option maxHeartbeats 1000000 in
theorem dfb_dhcp_plain {B X g o n c k : Nat} (x0 x1 x2 x3 : Int) {rest : List Int} {w : World} (hn : n = rest.length + 4) (hc : n ≤ c) (hm : c ≤ 9223372036854775807) (hLIM : n ≤ 2147483648) (hx : ¬ (x0 = 12 ∨ x0 = 13)) {all : List Int} (hAll : all = (x0 :: x1 :: x2 :: x3 :: rest).drop 4) {r : Option (List (List Int × List Int))} (hres : dOpts all = some r)
    (hall : ∀ z ∈ x0 :: x1 :: x2 :: x3 :: rest, 0 ≤ z ∧ z ≤ 255) (hBX : B ≤ X) (hr : RowAt w (· < B) (some ⟨g, o, none⟩) ((x0 :: x1 :: x2 :: x3 :: rest).map (.int .u8)))
    (hX : w.heap[X]? = some (.cells #[.slice none 0 0, .slice none 0 0, .int .u8 0, .int .u8 0, .slice none 0 0, .slice none 0 0, .slice none 0 0, .slice none 0 0] 116 (0, 0))) :
    Calls Try.prog 67 #[.pointer (some ⟨X, 0, none⟩), .slice (some ⟨g, o, none⟩) n c, .iface 173 (.pointer (some ⟨k, 0, none⟩))] w fun e w' => 
      Below X w w' ∧ DhcpPost X B w' e r x0 0 [] [] [x1, x2, x3] := by
  have hnm : 4 ≤ n := by omega
  have HA := Lib.hid hAll
  have HRES := Lib.hid hres
  have HBB := Lib.hid hall
  have HN := Lib.hid hn
  have hb : ∀ z ∈ [x0, x1], 0 ≤ z ∧ z ≤ 255 := fun z hz => hall z (by simp at hz ⊢; omega)
  clear hAll hres hall hn
  have m3 := m_trunc
  have HR := Lib.hid hr
  have b1 : (1 : Int) ≤ (c : Int) := by omega
  have b4 : (4 : Int) ≤ (c : Int) := by omega
  have e1 : ¬ (c = 1) := by omega
  have HD1 := Lib.hid (show SB w (· < B) (.slice (some ⟨g, o + 1, none⟩) 3 (c - 1)) [x1, x2, x3] from SB.from (lo := 1) (hi := 4) hr (by omega) (by simp) (by have := HN.out; simp; omega) hm (by rw [if_neg (by omega)]))
  obtain ⟨hg, hcell⟩ := rowCells hr (by simp)
  have hgX : g ≠ X := by
    rcases hr with h | ⟨b, o', hp, hb, _, _⟩
    · simp at h
    · simp only [Option.some.injEq, Addr.mk.injEq, and_true] at hp
      have : g < B := hp.1 ▸ hb
      omega
  have c0 := hcell 0 _ (by simp; rfl)
  have c1 := hcell 1 _ (by simp; rfl)
  rw [Nat.add_zero] at c0
  have h0 := hb x0 (by simp)
  have h1 := hb x1 (by simp)
  have d0 : w.cell? ⟨X, 0, none⟩ = some (.slice none 0 0) := by simp [World.cell?, hX]
  have d1 : w.cell? ⟨X, 1, none⟩ = some (.slice none 0 0) := by simp [World.cell?, hX]
  have d2 : w.cell? ⟨X, 2, none⟩ = some (.int .u8 0) := by simp [World.cell?, hX]
  have d3 : w.cell? ⟨X, 3, none⟩ = some (.int .u8 0) := by simp [World.cell?, hX]
  have d4 : w.cell? ⟨X, 4, none⟩ = some (.slice none 0 0) := by simp [World.cell?, hX]
  have d5 : w.cell? ⟨X, 5, none⟩ = some (.slice none 0 0) := by simp [World.cell?, hX]
  have d6 : w.cell? ⟨X, 6, none⟩ = some (.slice none 0 0) := by simp [World.cell?, hX]
  have d7 : w.cell? ⟨X, 7, none⟩ = some (.slice none 0 0) := by simp [World.cell?, hX]
  have f0 : w.frozen? ⟨X, 0, none⟩ = false := by simp [World.frozen?, hX]
  have f1 : w.frozen? ⟨X, 1, none⟩ = false := by simp [World.frozen?, hX]
  have f2 : w.frozen? ⟨X, 2, none⟩ = false := by simp [World.frozen?, hX]
  have f3 : w.frozen? ⟨X, 3, none⟩ = false := by simp [World.frozen?, hX]
  have f4 : w.frozen? ⟨X, 4, none⟩ = false := by simp [World.frozen?, hX]
  have f5 : w.frozen? ⟨X, 5, none⟩ = false := by simp [World.frozen?, hX]
  have f6 : w.frozen? ⟨X, 6, none⟩ = false := by simp [World.frozen?, hX]
  have f7 : w.frozen? ⟨X, 7, none⟩ = false := by simp [World.frozen?, hX]
  have hfz : ∀ j, w.frozen? ⟨X, j, none⟩ = false := fun j => by simp [World.frozen?, hX]
  have HFZ := Lib.hid hfz
  have lX : X < w.heap.size := (Array.getElem?_eq_some_iff.1 hX).1
  have lX1 : X < w.heap.size + 1 := by omega
  have lX2 : X < w.heap.size + 1 + 1 := by omega
  have lX3 : X < w.heap.size + 1 + 1 + 1 := by omega
  have lg1 : g < w.heap.size + 1 := by omega
  have lg2 : g < w.heap.size + 1 + 1 := by omega
  have hxb : (x0 == 12) = false := by simp; omega
  have hyb : (x0 == 13) = false := by simp; omega
  have hgB : g < B := by
    rcases hr with h | ⟨b, o', hp, hb, _, _⟩
    · simp at h
    · simp only [Option.some.injEq, Addr.mk.injEq, and_true] at hp
      exact hp.1 ▸ hb
  have HX := Lib.hid hx
  clear hr hcell hb hX hfz hx
  go_enter Try.func67, Try.ntmps67
  go_wp2_with fail
  refine wp_gen (fun W => (W.cell? ⟨X, 0, none⟩ = some (.slice (some ⟨g, o, none⟩) n c) ∧ W.cell? ⟨X, 1, none⟩ = some (.slice none 0 0) ∧ W.cell? ⟨X, 2, none⟩ = some (.int .u8 x0) ∧ W.cell? ⟨X, 3, none⟩ = some (.int .u8 0) ∧ W.cell? ⟨X, 4, none⟩ = some (.slice none 0 0) ∧ W.cell? ⟨X, 5, none⟩ = some (.slice none 0 0) ∧ W.cell? ⟨X, 6, none⟩ = some (.slice (some ⟨g, o + 1, none⟩) 3 (c - 1)) ∧ W.cell? ⟨X, 7, none⟩ = some (.slice none 0 0)) ∧ (∀ j, W.frozen? ⟨X, j, none⟩ = false) ∧ X < W.heap.size ∧ Keeps (· < B) w W ∧ Below X w W) ?F (fun W hW => ?_)
  case F =>
    have h0 := Below.refl X w
    have q1 := Keeps.refl (· < B) w
    refine ⟨⟨by go_simp, by go_simp, by go_simp, by go_simp, by go_simp, by go_simp, by go_simp, by go_simp⟩, fun j => ?_, by first | omega | focus (simp; done) | (simp; omega), (by repeat (first | with_reducible assumption | with_reducible exact Keeps.refl _ _ | with_reducible refine Keeps.drew ?_ | with_reducible refine Keeps.alloc ?_ _ | with_reducible refine Keeps.setCell ?_ ?_ _ | omega | focus (simp; done) | focus (simp; omega))), (by repeat (first | with_reducible assumption | with_reducible refine Below.drew ?_ | with_reducible refine Below.alloc ?_ ?_ _ | with_reducible refine Below.setCell ?_ ?_ _ | with_reducible exact Nat.le_refl _ | omega | focus (simp; done) | focus (simp; omega)))⟩
    have := HFZ.out j
    go_simp
  obtain ⟨⟨lc0, lc1, lc2, lc3, lc4, lc5, lc6, lc7⟩, lf, lL, kW, bW⟩ := hW
  have hF0 : GFills eO 119 7 W W X W.heap.size (· < B) (.slice none 0 0) [] := GFills.start lL (Nat.le_refl _) lc7 lf
  have HK := Lib.hid (And.intro kW bW)
  have HF0 := Lib.hid hF0
  clear kW bW lf hF0
  go_loopw [7, 9, 10] (fun i _ _ wr => ∃ (j : Nat) (v : Value) (done : List (List Int × List Int)), j ≤ n ∧ done.length ≤ j ∧ i = .int .i64 (j : Int) ∧ GFills eO 119 7 W wr X W.heap.size (· < B) v done ∧ Reads all done ((x0 :: x1 :: x2 :: x3 :: rest).drop j)) (fun i _ _ _ => n - (intOf i).toNat)
  case atStart => exact ⟨4, _, [], by omega, by simp, rfl, HF0.out, by rw [← HA.out]; exact Reads.start _⟩
  case round =>
    obtain ⟨j, v, done, hj, hdl0, rfl, hF, hrd⟩ := hrel
    have HF := Lib.hid hF
    have lXr : X < wr.heap.size := Nat.lt_of_lt_of_le hF.lt hF.le
    have lXr1 : X < wr.heap.size + 1 := by omega
    have lgr : g < wr.heap.size := by omega
    have lgr1 : g < wr.heap.size + 1 := by omega
    have leW := hF.le
    have ef := hF.froz 7
    have hown := hF.rows.own
    obtain ⟨p, c', hv⟩ := hF.rows.form
    subst hv
    have e7 := hF.parts
    have HO := Lib.hid hown
    have HDL := Lib.hid hdl0
    have HRD := Lib.hid hrd
    have HKG := Lib.hid (HK.out.1.trans (hF.keep.imp (fun b hb => ⟨by omega, by omega⟩ : ∀ b, b < B → b < W.heap.size ∧ b ≠ X)))
    clear hF hown hdl0 hrd
    by_cases hjn : j < n
    · have hj1 : (j : Int) < (n : Int) := by omega
      have hjc : (j : Int) ≤ (c : Int) := by omega
      have hjc2 : ¬ c = j := by omega
      have hdl : ((x0 :: x1 :: x2 :: x3 :: rest).drop j).length = n - j := by have := HN.out; simp at *; omega
      go_wp2_with fail
      by_cases hl4 : n - j < 4
      · refine (opt_few (Y := wr.heap.size) hl4 (by simp)).mono ?_
        rintro e w2 ⟨⟨b, rfl⟩, hb2⟩
        have HB2 := Lib.hid (((Below.refl wr.heap.size wr).alloc (Nat.le_refl _) _).trans hb2)
        clear hb2
        go_wp2_with fail
        refine bodyPost_ret (v := .iface 178 (.pointer (some ⟨b, 0, none⟩))) (by simp only [results, Try.results67]; go_simp) rfl ?_
        have hbW : Below X w wr := HF.out.below _ _ (Nat.le_refl _) HK.out.2
        have h2 : Below X w w2 := hbW.trans (HB2.out.mono (by omega))
        have hD := HRD.out
        unfold Reads at hD
        rw [dOpts_few (l := (x0 :: x1 :: x2 :: x3 :: rest).drop j) (fun h => by rw [h] at hdl; simp at hdl; omega) (by omega), HRES.out] at hD
        exact ⟨(by repeat (first | with_reducible assumption | with_reducible refine Below.drew ?_ | with_reducible refine Below.alloc ?_ ?_ _ | with_reducible refine Below.setCell ?_ ?_ _ | with_reducible exact Nat.le_refl _ | omega | focus (simp; done) | focus (simp; omega))), .inl ⟨by simpa using hD, _, rfl⟩⟩
      · obtain ⟨y0, y1, y2, y3, rest2, hrest⟩ := four (l := (x0 :: x1 :: x2 :: x3 :: rest).drop j) (by omega)
        have hrow := HR.out.drop j
        rw [← List.map_drop, hrest] at hrow
        have hbb : ∀ z ∈ [y0, y1, y2, y3], 0 ≤ z ∧ z ≤ 255 := fun z hz => HBB.out z (List.mem_of_mem_drop (i := j) (by rw [hrest]; exact List.mem_append_left rest2 hz))
        obtain ⟨-, hcell2⟩ := rowCells hrow (by simp)
        have e0' := HKG.out.cell (b := g) hgB (hcell2 0 (.int .u8 y0) (by simp))
        have e1' := HKG.out.cell (b := g) hgB (hcell2 1 (.int .u8 y1) (by simp))
        have e2' := HKG.out.cell (b := g) hgB (hcell2 2 (.int .u8 y2) (by simp))
        have e3' := HKG.out.cell (b := g) hgB (hcell2 3 (.int .u8 y3) (by simp))
        rw [Nat.add_zero] at e0'
        have b0 := hbb y0 (by simp)
        have b1 := hbb y1 (by simp)
        have b2 := hbb y2 (by simp)
        have b3 := hbb y3 (by simp)
        obtain ⟨N, hNN⟩ : ∃ N : Nat, y2 * 256 + y3 = (N : Int) := ⟨(y2 * 256 + y3).toNat, by omega⟩
        have hlr : n - j = rest2.length + 4 := by rw [hrest] at hdl; simp at hdl; omega
        have HROW := Lib.hid hrow
        have HREST := Lib.hid hrest
        have HLR := Lib.hid hlr
        have hD := HRD.out
        unfold Reads at hD
        rw [hrest, HRES.out] at hD
        have HDD := Lib.hid hD
        clear hrow hcell2 hbb hdl hrest hlr hD
        by_cases hop : 1000 < N
        · have hD := HDD.out
          rw [dOpts_open (by omega)] at hD
          cases hD
        · by_cases hfit : N ≤ rest2.length
          · obtain ⟨A4, hA4⟩ : ∃ A, (if c - j = 4 then some (⟨g, o + j, none⟩ : Addr) else some ⟨g, o + j + 4, none⟩) = A := ⟨_, rfl⟩
            have hS : SB w (· < B) (.slice A4 N (c - j - 4)) (rest2.take N) := by
              have := SB.from (lo := 4) (hi := 4 + N) (A := A4) HROW.out (by omega) (by simp; omega) (by have := HLR.out; simp; omega) (by omega) hA4
              rw [show 4 + N - 4 = N by omega] at this
              simpa using this
            have HS := Lib.hid hS
            clear hS
            refine (opt_yes (Y := wr.heap.size) (y0 := y0) (y1 := y1) (y2 := y2) (y3 := y3) (N := N) (by have := HLR.out; omega) (by omega) (by omega) hNN (by omega) (by go_simp) (by go_simp) (by go_simp) (by go_simp) (by go_simp) (by go_simp) (by go_simp) (by go_simp) (by go_simp) (by go_simp) b0 b1 b2 b3 hA4).mono ?_
            rintro e w2 ⟨rfl, z0, z1, z2, hb2⟩
            have l2 := hb2.size
            have ll2 : wr.heap.size < w2.heap.size := by simp at l2; omega
            have lX2 : X < w2.heap.size := by omega
            have x7 : w2.cell? ⟨X, 7, none⟩ = some (.slice p done.length c') := (hb2.cell (p := ⟨X, 7, none⟩) lXr).trans (by go_simp)
            have xf7 : w2.frozen? ⟨X, 7, none⟩ = false := (hb2.frozen (p := ⟨X, 7, none⟩) lXr).trans (by go_simp)
            have HB2 := Lib.hid (((Below.refl wr.heap.size wr).alloc (Nat.le_refl _) _).trans hb2)
            clear hb2 l2
            have hN65 : (N : Int) ≤ 1000 := by omega
            go_wp2_with fail
            refine wp_region_on (fun b => b < W.heap.size ∨ b = wr.heap.size) (fun b hb => by first | omega | (rcases hb with hb | hb <;> omega) | (rcases hb with hb | hb <;> simp <;> omega)) [10] (.q 0 (.q 1 (.q 2 (.q 3 (.q 4 (.q 5 (.l 6 (.l 7 (.q 8 (.q 9 (.l 10 .done .stop))) .stop) .stop))))))) (by kernel_rfl) (by kernel_rfl) (fun _ _ d _ _ h => by cases d <;> exact h) (by simp only [Ord.fill, nthOp]; rfl) ?_; intro hSm
            repeat
              first | refine lexO_pass rfl ?_ | (refine lexO_take2 ?_ rfl (by kernel_rfl) (by with_reducible assumption) (fun w' hS K Q' hK => ?_) ?_; rotate_left; focus (have hS2 := hS.2; clear hS; go_wp2_with fail; exact hK))
            refine lexO_do rfl (fun K hK => ?_) lexO_stop
            go_wp2_with fail
            refine step_and (by repeat (first | with_reducible assumption | with_reducible refine SameOn.drew ?_ | with_reducible refine SameOn.alloc ?_ _ | (refine SameOn.below ?_ (by with_reducible assumption)) | (with_reducible refine SameOn.refl (fun b hb => ?_); first | omega | (rcases hb with hb | hb <;> omega)))) (fun _ => ?_)
            repeat
              first | refine lexO_pass rfl ?_ | (refine lexO_take2 ?_ rfl (by kernel_rfl) (by with_reducible assumption) (fun w' hS K Q' hK => ?_) ?_; rotate_left; focus (have hS2 := hS.2; clear hS; go_wp2_with fail; exact hK))
            refine lexO_do rfl (fun K hK => ?_) lexO_stop
            refine wp_append_N2 (E := eO) (.tmp 92) (.tmp 94) 114 119 _ 32 rfl Try.underlying114 infoOpt rfl (by decide) (by decide) (HF.out.rows.keeps (Keeps.trans (Keeps.of_below HB2.out) (by repeat (first | with_reducible assumption | with_reducible exact Keeps.refl _ _ | with_reducible refine Keeps.drew ?_ | with_reducible refine Keeps.alloc ?_ _ | with_reducible refine Keeps.setCell ?_ ?_ _ | omega | focus (simp; done) | focus (simp; omega))))) wr.heap.size (fun k hk => (HO.out k hk).2) rfl rfl (cs := [.int .u16 (y0 * 256 + y1), .int .u16 (N : Int), .slice A4 N (c - j - 4)]) (y := ([y0 * 256 + y1, (N : Int)], rest2.take N)) ?hcells ?hrep (by have := HDL.out; omega) (by first | omega | (simp; omega)) (fun q' c2 w5 hr5 hs5 hk5 hb5 => hK _ _ ?_)
            case hcells =>
              intro j u hu
              rcases j with _ | _ | _ | j
              · simp at hu; subst hu; go_simp
              · simp at hu; subst hu; go_simp
              · simp at hu; subst hu; go_simp
              · simp at hu
            case hrep => exact ⟨_, _, _, rfl, rfl, (HS.out.keeps (HKG.out.trans (Keeps.trans (Keeps.of_below HB2.out) (by repeat (first | with_reducible assumption | with_reducible exact Keeps.refl _ _ | with_reducible refine Keeps.drew ?_ | with_reducible refine Keeps.alloc ?_ _ | with_reducible refine Keeps.setCell ?_ ?_ _ | omega | focus (simp; done) | focus (simp; omega)))))).imp (fun b _ hb => ⟨hb, .inl (by omega)⟩), by omega, by omega, by simp; omega⟩
            refine step_and (SameOn.keeps (by repeat (first | with_reducible assumption | with_reducible refine SameOn.drew ?_ | with_reducible refine SameOn.alloc ?_ _ | (refine SameOn.below ?_ (by with_reducible assumption)) | (with_reducible refine SameOn.refl (fun b hb => ?_); first | omega | (rcases hb with hb | hb <;> omega)))) hk5 (fun b hb => by omega)) (fun _ => ?_)
            have hL5 : w5.cell? ⟨X, 7, none⟩ = some (.slice p done.length c') := hk5.cell (.inl lL) (by go_simp)
            have hf5 : w5.frozen? ⟨X, 7, none⟩ = false := hk5.frozen (.inl lL) (by first | omega | (simp; omega)) (by go_simp)
            have l5 : X < w5.heap.size := World.block_lt_of_cell? _ _ hL5
            have y5 : w5.cell? ⟨wr.heap.size, 1, none⟩ = some (.int .u16 (N : Int)) := hk5.cell (.inr (Nat.le_refl _)) (by go_simp)
            have ly5 : wr.heap.size < w5.heap.size := World.block_lt_of_cell? _ _ y5
            have nXY : ¬ X = wr.heap.size := by omega
            have nYX : ¬ wr.heap.size = X := by omega
            have H5 := Lib.hid (HF.out.step (w5 := w5) (fun b hb => by omega) (show Below wr.heap.size wr _ from (by have h0 := HB2.out; exact (by repeat (first | with_reducible assumption | with_reducible refine Below.drew ?_ | with_reducible refine Below.alloc ?_ ?_ _ | with_reducible refine Below.setCell ?_ ?_ _ | with_reducible exact Nat.le_refl _ | omega | focus (simp; done) | focus (simp; omega))))) hr5 hs5 (hk5.imp (fun b hb => .inl hb)) hb5)
            clear hr5 hs5 hk5 hb5
            repeat
              first | refine lexO_pass rfl ?_ | (refine lexO_take2 ?_ rfl (by kernel_rfl) (by with_reducible assumption) (fun w' hS K Q' hK => ?_) ?_; rotate_left; focus (have hS2 := hS.2; clear hS; go_wp2_with fail; exact hK))
            refine lexO_do rfl (fun K hK => ?_) lexO_stop
            go_wp2_with fail
            first | refine step_last (by decide) (lexO_done ?_) | refine lexO_done ?_
            go_wp2_with fail
            go_roundw
            case rel => exact ⟨j + (4 + N), _, done ++ [([y0 * 256 + y1, (N : Int)], rest2.take N)], by have := HLR.out; omega, by have := HDL.out; simp; omega, by first | go_num | (congr 1; omega), by have := H5.out; simpa using this, Reads.more HRD.out (by rw [HREST.out, dOpts_more hNN (by omega) hfit, show j + (4 + N) = j + 4 + N by omega, ← List.drop_drop, ← List.drop_drop, HREST.out]; simp)⟩
            case measure => simp [intOf]; have := HLR.out; omega
          · refine (opt_long (Y := wr.heap.size) (y0 := y0) (y1 := y1) (y2 := y2) (y3 := y3) (N := N) (by omega) (by have := HLR.out; omega) (by omega) hNN (by go_simp) (by go_simp) (by go_simp) (by go_simp) (by go_simp) (by go_simp) (by go_simp) (by go_simp) b0 b1 b2 b3).mono ?_
            rintro e w2 ⟨⟨b, rfl⟩, hb2⟩
            have HB2 := Lib.hid (((Below.refl wr.heap.size wr).alloc (Nat.le_refl _) _).trans hb2)
            clear hb2
            go_wp2_with fail
            refine bodyPost_ret (v := .iface 178 (.pointer (some ⟨b, 0, none⟩))) (by simp only [results, Try.results67]; go_simp) rfl ?_
            have hbW : Below X w wr := HF.out.below _ _ (Nat.le_refl _) HK.out.2
            have h2 : Below X w w2 := hbW.trans (HB2.out.mono (by omega))
            have hD := HDD.out
            rw [dOpts_long (by omega) (by omega)] at hD
            exact ⟨(by repeat (first | with_reducible assumption | with_reducible refine Below.drew ?_ | with_reducible refine Below.alloc ?_ ?_ _ | with_reducible refine Below.setCell ?_ ?_ _ | with_reducible exact Nat.le_refl _ | omega | focus (simp; done) | focus (simp; omega))), .inl ⟨by simpa using hD, _, rfl⟩⟩
    · have hj1 : ¬ (j : Int) < (n : Int) := by omega
      go_wp2_with fail
      refine bodyPost_ret (v := .nilIface) (by simp only [results, Try.results67]; go_simp) rfl ?_
      have hF := HF.out
      have hbW : Below X w wr := hF.below _ _ (Nat.le_refl _) HK.out.2
      have hc : ∀ j u, j ≠ 7 → W.cell? ⟨X, j, none⟩ = some u → wr.cell? ⟨X, j, none⟩ = some u := fun j u hj hu => hF.other j u hj hu
      have hnil : (x0 :: x1 :: x2 :: x3 :: rest).drop j = [] := List.drop_eq_nil_of_le (by have := HN.out; simp at *; omega)
      have hD := HRD.out
      unfold Reads at hD
      rw [hnil, dOpts_nil, HRES.out] at hD
      exact ⟨hbW, .inr ⟨done, by simpa using hD, rfl, hc 1 _ (by decide) lc1, hc 2 _ (by decide) lc2, hc 3 _ (by decide) lc3, ⟨_, hc 4 _ (by decide) lc4, SB.nil _ _⟩, ⟨_, hc 5 _ (by decide) lc5, SB.nil _ _⟩, ⟨_, hc 6 _ (by decide) lc6, HD1.out.keeps HKG.out⟩, _, e7, hF.rows.imp (by omega) (fun _ _ h => h)⟩⟩

end Go.Proofs.Ytaofambmajlhmaa
