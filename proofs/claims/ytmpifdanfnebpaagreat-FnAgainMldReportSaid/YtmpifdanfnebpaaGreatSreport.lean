/-
  spec.report.
-/
import Derived.Test.YtmpifdanfnebpaaGreatHelp
import Derived.Test.YtmpifdanfnebpaaGreatRecs
namespace Go.Proofs.YtmpifdanfnebpaaGreat
open Go Go.RowKit

set_option maxRecDepth 100000 in
set_option maxHeartbeats 1000000 in
theorem report_walk {g o n c R M : Nat} (x0 x1 x2 x3 : Int) {rest : List Int} {w : World} (hn : n = rest.length + 4) (hc : n ≤ c) (hm : c ≤ 9223372036854775807) (hLIM : n ≤ 2147483648) (hM : x2 * 256 + x3 = (M : Int)) (hgR : g ≠ R) {all : List Int} (hAll : all = (x0 :: x1 :: x2 :: x3 :: rest).drop 4) (hall : ∀ z ∈ x0 :: x1 :: x2 :: x3 :: rest, 0 ≤ z ∧ z ≤ 255)
    (hb : ∀ z ∈ [x0, x1, x2, x3], 0 ≤ z ∧ z ≤ 255) (hR : R < w.heap.size) (hr : RowAt w (fun b => b ≠ R) (some ⟨g, o, none⟩) ((x0 :: x1 :: x2 :: x3 :: rest).map (.int .u8))) :
    Calls Tryz.prog 17 #[.slice (some ⟨g, o, none⟩) n c] w fun e w' => RecsPost M all R e w' ∧ Below w.heap.size w w' := by
  have hnm : 4 ≤ n := by omega
  have HA := Lib.hid hAll
  clear hAll
  have HBB := Lib.hid hall
  have HR := Lib.hid hr
  have HN := Lib.hid hn
  clear hall hn
  have b2 : (2 : Int) ≤ (c : Int) := by omega
  have b4 : (4 : Int) ≤ (c : Int) := by omega
  have e2 : ¬ (c = 2) := by omega
  obtain ⟨AS, hAS⟩ : ∃ A, (if c = 4 then some (⟨g, o, none⟩ : Addr) else some ⟨g, o + 4, none⟩) = A := ⟨_, rfl⟩
  obtain ⟨hg, hcell⟩ := rowCells hr (by simp)
  have c2 := hcell 2 _ (by simp; rfl)
  have c3 := hcell 3 _ (by simp; rfl)
  have h2 := hb x2 (by simp)
  have h3 := hb x3 (by simp)
  have HAS := Lib.hid hAS
  clear hr hcell hb
  have lg1 : g < w.heap.size + 1 := by omega
  have lg2 : g < w.heap.size + 1 + 1 := by omega
  have lg3 : g < w.heap.size + 1 + 1 + 1 := by omega
  have lg4 : g < w.heap.size + 1 + 1 + 1 + 1 := by omega
  go_enter Tryz.func17, Tryz.ntmps17
  go_wp2_with (first | (go_at_call 14; refine (number2_c x2 x3 h2 h3 (by go_simp) (by go_simp)).mono ?_; rintro e w' ⟨rfl, rfl⟩) | (go_at_call 13; refine whole_c.mono ?_; rintro e w' ⟨rfl, rfl⟩))
  refine wp_gen (fun W => (W.cell? ⟨w.heap.size + 1 + 1 + 1, 0, none⟩ = some (.slice (some ⟨w.heap.size + 1, 0, none⟩) 1 1) ∧ W.cell? ⟨w.heap.size + 1 + 1 + 1, 1, none⟩ = some (.slice none 0 0) ∧ W.cell? ⟨w.heap.size + 1 + 1 + 1, 2, none⟩ = some (.slice none 0 0) ∧ W.cell? ⟨w.heap.size + 1 + 1 + 1, 3, none⟩ = some (.slice none 0 0)) ∧ (∀ j, W.frozen? ⟨w.heap.size + 1 + 1 + 1, j, none⟩ = false) ∧ w.heap.size + 1 + 1 + 1 < W.heap.size ∧
    (SN W (fun b => b ≠ w.heap.size + 1 + 1 + 1 ∧ b ≠ w.heap.size ∧ b ≠ R) (.slice (some ⟨w.heap.size + 1, 0, none⟩) 1 1) [(M : Int)] ∧ SD W (fun b => b ≠ w.heap.size + 1 + 1 + 1 ∧ b ≠ w.heap.size ∧ b ≠ R) (.slice none 0 0) [] ∧ SB W (fun b => b ≠ w.heap.size + 1 + 1 + 1 ∧ b ≠ w.heap.size ∧ b ≠ R) (.slice none 0 0) []) ∧
    (W.cell? ⟨w.heap.size, 0, none⟩ = some (.slice none 0 0) ∧ W.cell? ⟨w.heap.size, 1, none⟩ = some (.slice none 0 0) ∧ W.cell? ⟨w.heap.size, 2, none⟩ = some (.slice none 0 0) ∧ W.cell? ⟨w.heap.size, 3, none⟩ = some (.slice none 0 0)) ∧
    (W.frozen? ⟨w.heap.size, 0, none⟩ = false ∧ W.frozen? ⟨w.heap.size, 1, none⟩ = false ∧ W.frozen? ⟨w.heap.size, 2, none⟩ = false ∧ W.frozen? ⟨w.heap.size, 3, none⟩ = false) ∧
    Keeps (fun b => b < w.heap.size) w W ∧ Below w.heap.size w W) ?F (fun W hW => ?_)
  case F =>
    have q0 := Below.refl w.heap.size w
    have q1 := Keeps.refl (fun b => b < w.heap.size) w
    refine ⟨⟨by go_simp, by go_simp, by go_simp, by go_simp⟩, fun j => by go_simp, by first | omega | focus (simp; done) | (simp; omega), ⟨IsSl.block (cs := #[.int .u64 (M : Int)]) (e := 39) (f := (0, 0)) (by (try simp only [heap_drew]); repeat (first | (with_reducible refine heap_last ?_; focus (simp; done)) | with_reducible refine heap_past ?_ | (with_reducible refine heap_set ?_ ?_; focus (first | omega | (simp; done) | (simp; omega))) | with_reducible assumption)) ⟨by omega, by omega, by omega⟩ (by omega), SD.nil _ _, SB.nil _ _⟩, ⟨by go_simp, by go_simp, by go_simp, by go_simp⟩, ⟨by go_simp, by go_simp, by go_simp, by go_simp⟩, (by repeat (first | with_reducible assumption | with_reducible exact Keeps.refl _ _ | with_reducible refine Keeps.drew ?_ | with_reducible refine Keeps.drewN ?_ _ | with_reducible refine Keeps.alloc ?_ _ | with_reducible refine Keeps.setCell ?_ ?_ _ | omega | focus (simp; done) | focus (simp; omega))), (by repeat (first | with_reducible assumption | with_reducible refine Below.drew ?_ | with_reducible refine below_drewN' ?_ _ | with_reducible refine Below.alloc ?_ ?_ _ | with_reducible refine Below.setCell ?_ ?_ _ | with_reducible exact Nat.le_refl _ | omega | focus (simp; done) | focus (simp; omega)))⟩
  obtain ⟨⟨lc0, lc1, lc2, lc3⟩, lf, lL, ⟨hN, hD2, hP2⟩, ⟨wr0, wr1, wr2, wr3⟩, ⟨wf0, wf1, wf2, wf3⟩, kW, bW⟩ := hW
  have hF0 : Fills W W (w.heap.size + 1 + 1 + 1) W.heap.size (fun b => b ≠ w.heap.size + 1 + 1 + 1 ∧ b ≠ w.heap.size ∧ b ≠ R) (.slice none 0 0) ([]) := Fills.start lL (Nat.le_refl _) lc2 lf
  have HN3 := Lib.hid (And.intro hN (And.intro hD2 hP2))
  have HK := Lib.hid (And.intro kW bW)
  have wL : w.heap.size < W.heap.size := World.block_lt_of_cell? _ _ wr0
  clear hN hD2 hP2 kW bW lf
  have HF0 := Lib.hid hF0
  clear hF0 
  go_loopw [7, 8, 9, 21] (fun s _ _ i wr => ∃ (k j : Nat) (D : Option Addr) (l e : Nat) (v : Value) (done : List (List Int × List Int)), k ≤ M ∧ i = .int .i64 (k : Int) ∧ s = .slice D l e ∧ j + l = n ∧ e = c - j ∧ (0 < l → D = some ⟨g, o + j, none⟩) ∧ done.length ≤ j ∧ Fills W wr (w.heap.size + 1 + 1 + 1) W.heap.size (fun b => b ≠ w.heap.size + 1 + 1 + 1 ∧ b ≠ w.heap.size ∧ b ≠ R) v done ∧ ReadsR M all done (M - k) ((x0 :: x1 :: x2 :: x3 :: rest).drop j)) (fun _ _ _ i _ => M - (intOf i).toNat)
  case atStart => exact ⟨0, 4, AS, n - 4, c - 4, _, [], Nat.zero_le _, rfl, rfl, by omega, rfl, fun h => by rw [← HAS.out, if_neg (by omega)], by simp, HF0.out, by rw [← HA.out]; exact ReadsR.start _ _⟩
  case round =>
    obtain ⟨k, j, D, l, e, v, done, hk, rfl, rfl, hj, he, hD, hdl0, hF, hrd⟩ := hrel
    have HF := Lib.hid hF
    have lLr : w.heap.size + 1 + 1 + 1 < wr.heap.size := Nat.lt_of_lt_of_le hF.lt hF.le
    have lwr : w.heap.size < wr.heap.size := Nat.lt_of_lt_of_le wL hF.le
    have leW := hF.le
    have hown := hF.rows.own
    have ef := hF.froz 2
    obtain ⟨p, c', hv⟩ := hF.rows.form
    subst hv
    have e2 := hF.parts
    have e0 := hF.other 0 _ (by decide) lc0
    have e1 := hF.other 1 _ (by decide) lc1
    have e3 := hF.other 3 _ (by decide) lc3
    have v0 := hF.keep.cell (b := w.heap.size) (by constructor <;> omega) wr0
    have v1 := hF.keep.cell (b := w.heap.size) (by constructor <;> omega) wr1
    have v2 := hF.keep.cell (b := w.heap.size) (by constructor <;> omega) wr2
    have v3 := hF.keep.cell (b := w.heap.size) (by constructor <;> omega) wr3
    have y0 := hF.keep.frozen (b := w.heap.size) (by constructor <;> omega) wL wf0
    have y1 := hF.keep.frozen (b := w.heap.size) (by constructor <;> omega) wL wf1
    have y2 := hF.keep.frozen (b := w.heap.size) (by constructor <;> omega) wL wf2
    have y3 := hF.keep.frozen (b := w.heap.size) (by constructor <;> omega) wL wf3
    have HO := Lib.hid hown
    have HKG := Lib.hid ((HK.out.1.trans (hF.keep.imp (fun b hb => ⟨by omega, by omega⟩ : ∀ b, b < w.heap.size → b < W.heap.size ∧ b ≠ w.heap.size + 1 + 1 + 1))).imp (fun b hb => hb.1 : ∀ b, b < w.heap.size ∧ b ≠ R → b < w.heap.size))
    have lLr1 : w.heap.size + 1 + 1 + 1 < wr.heap.size + 1 := by omega
    have lwr1 : w.heap.size < wr.heap.size + 1 := by omega
    have HJ := Lib.hid hj
    have HE := Lib.hid he
    have HD := Lib.hid hD
    have HDL := Lib.hid (Nat.le_trans hdl0 (by omega : j ≤ n))
    have HDJ := Lib.hid hdl0
    have HRD := Lib.hid hrd
    clear hF hown hj he hD hdl0 hrd
    by_cases hlt : k < M
    · have hat : (k : Int) < (M : Int) := by omega
      obtain ⟨mm, hmm⟩ : ∃ mm, M - k = mm + 1 := ⟨M - k - 1, by omega⟩
      have hdl : ((x0 :: x1 :: x2 :: x3 :: rest).drop j).length = l := by have := HN.out; have := HJ.out; simp at *; omega
      by_cases hl4 : l < 20
      · have hl2 : (l : Int) < 20 := by omega
        have HDd := Lib.hid hdl
        have HMM := Lib.hid hmm
        clear hdl hmm
        go_wp2_with (go_at_call 12; refine none_c.mono ?_; rintro e w' ⟨rfl, rfl⟩)
        refine bodyPost_ret (v := .tuple #[zlay, .bool false, .bool true]) (by simp only [results, Tryz.results17]; go_simp) rfl ?_
        have h0 : Below w.heap.size w wr := HF.out.below _ _ (by omega) HK.out.2
        have hD := HRD.out
        unfold ReadsR at hD
        rw [HMM.out, dRecs_few (by have := HDd.out; omega)] at hD
        exact ⟨.inl ⟨by rw [hD]; rfl, rfl⟩, (by repeat (first | with_reducible assumption | with_reducible refine Below.drew ?_ | with_reducible refine below_drewN' ?_ _ | with_reducible refine Below.alloc ?_ ?_ _ | with_reducible refine Below.setCell ?_ ?_ _ | with_reducible exact Nat.le_refl _ | omega | focus (simp; done) | focus (simp; omega)))⟩
      · have hl2 : ¬ (l : Int) < 20 := by omega
        obtain ⟨O, hO⟩ : ∃ O, O = o + j := ⟨_, rfl⟩
        have hD' := HD.out (by omega)
        rw [← hO] at hD'
        obtain rfl := hD'
        have HOO := Lib.hid hO
        have lgW : g < W.heap.size := by omega
        have he4 : (4 : Int) ≤ (e : Int) := by have := HE.out; have := HJ.out; omega
        have he2 : (2 : Int) ≤ (e : Int) := by omega
        have hen : ¬ e = 2 := by omega
        have hen4 : ¬ e = 4 := by have := HE.out; have := HJ.out; omega
        obtain ⟨y0, y1, y2, y3, rest2, hrest⟩ := four (l := (x0 :: x1 :: x2 :: x3 :: rest).drop j) (by omega)
        have hrow := HR.out.drop j
        rw [← List.map_drop, hrest, ← HOO.out] at hrow
        have hbb : ∀ z ∈ [y0, y1, y2, y3], 0 ≤ z ∧ z ≤ 255 := fun z hz => HBB.out z (List.mem_of_mem_drop (i := j) (by rw [hrest]; exact List.mem_append_left rest2 hz))
        obtain ⟨-, hcell2⟩ := rowCells hrow (by simp)
        have e0' := HKG.out.cell (b := g) ⟨hg, hgR⟩ (hcell2 0 (.int .u8 y0) (by simp))
        have e1' := HKG.out.cell (b := g) ⟨hg, hgR⟩ (hcell2 1 (.int .u8 y1) (by simp))
        have e2' := HKG.out.cell (b := g) ⟨hg, hgR⟩ (hcell2 2 (.int .u8 y2) (by simp))
        have e3' := HKG.out.cell (b := g) ⟨hg, hgR⟩ (hcell2 3 (.int .u8 y3) (by simp))
        rw [Nat.add_zero] at e0'
        have b0 := hbb y0 (by simp)
        have b1 := hbb y1 (by simp)
        have b2 := hbb y2 (by simp)
        have b3 := hbb y3 (by simp)
        obtain ⟨N, hNN⟩ : ∃ N : Nat, y2 * 256 + y3 = (N : Int) := ⟨(y2 * 256 + y3).toNat, by omega⟩
        obtain ⟨S, hSS⟩ : ∃ S : Nat, S = 16 + (16 * N + 4 * y1.toNat) := ⟨_, rfl⟩
        obtain ⟨Z, hZ⟩ : ∃ Z : Nat, Z = S + 4 := ⟨_, rfl⟩
        have hsz : 20 + 16 * (N : Int) + 4 * y1 = (Z : Int) := by omega
        have hlr : l = rest2.length + 4 := by rw [hrest] at hdl; simp at hdl; omega
        have HROW := Lib.hid hrow
        have HREST := Lib.hid hrest
        have HLR := Lib.hid hlr
        have HSS := Lib.hid hSS
        have HMM := Lib.hid hmm
        have HZ := Lib.hid hZ
        clear hrow hcell2 hbb hdl hrest hlr hSS hmm hO hZ
        by_cases hfit : S ≤ rest2.length
        · have hft : ¬ (l : Int) < (Z : Int) := by have := HLR.out; have := HZ.out; omega
          have hft2 : (Z : Int) ≤ (e : Int) := by have := HE.out; have := HJ.out; have := HLR.out; have := HZ.out; omega
          have hz4 : (4 : Int) ≤ (Z : Int) := by have := HZ.out; omega
          have hzs : Z - 4 = S := by have := HZ.out; omega
          obtain ⟨A4, hA4⟩ : ∃ A : Option Addr, A = some ⟨g, O + 4, none⟩ := ⟨_, rfl⟩
          obtain ⟨A5, hA5⟩ : ∃ A, (if e = Z then some (⟨g, O, none⟩ : Addr) else some ⟨g, O + Z, none⟩) = A := ⟨_, rfl⟩
          have hS : SB w (fun b => b ≠ R) (.slice A4 S (e - 4)) (rest2.take S) := by
            have := SB.from (c := e) (lo := 4) (hi := 4 + S) (A := A4) HROW.out (by omega) (by simp; omega) (by have := HE.out; have := HJ.out; have := HLR.out; simp; omega) (by have := HE.out; omega) (by rw [if_neg (by omega), hA4])
            rw [show 4 + S - 4 = S by omega] at this
            simpa using this
          have HS := Lib.hid hS
          clear hS
          subst hA4
          go_wp2_with (go_at_call 14; refine (number2_c y2 y3 b2 b3 (by go_simp) (by go_simp)).mono ?_; rintro e w' ⟨rfl, rfl⟩)
          refine wp_region_to (W.heap.size) (by first | omega | exact Nat.le_refl _ | (simp; omega)) [22] (.q 0 (.q 1 (.q 2 (.q 3 (.q 4 (.q 5 (.q 6 (.q 7 (.q 8 (.q 9 (.q 10 (.q 11 (.q 12 (.q 13 (.q 15 (.q 16 (.q 17 (.l 14 (.q 18 (.l 19 (.l 20 (.q 21 (.l 22 .done .stop)) .stop) .stop)) .stop)))))))))))))))))) (by kernel_rfl) (by kernel_rfl) (fun _ _ d _ _ h => by cases d <;> exact h) (by simp only [Ord.fill, nthOp]; rfl) ?_; intro hSm
          repeat
            first | refine lexO_pass rfl ?_ | (refine lexO_take2 ?_ rfl (by kernel_rfl) (by with_reducible assumption) (fun w' hS K Q' hK => ?_) ?_; rotate_left; focus (have hS2 := hS.2; clear hS; go_wp2_with fail; exact hK))
          refine lexO_do rfl (fun K hK => ?_) lexO_stop
          go_wp2_with fail
          refine step_and (by repeat (first | with_reducible assumption | (with_reducible refine SameTo.refl ?_) | with_reducible refine SameTo.drew ?_ | with_reducible refine SameTo.alloc ?_ _ | (with_reducible refine SameTo.setCell ?_ ?_ _) | (refine SameTo.below ?_ (by with_reducible assumption)) | omega | exact Nat.le_refl _ | focus (simp; done) | focus (simp; omega))) (fun _ => ?_)
          repeat
            first | refine lexO_pass rfl ?_ | (refine lexO_take2 ?_ rfl (by kernel_rfl) (by with_reducible assumption) (fun w' hS K Q' hK => ?_) ?_; rotate_left; focus (have hS2 := hS.2; clear hS; go_wp2_with fail; exact hK))
          refine lexO_do rfl (fun K hK => ?_) lexO_stop
          go_wp2_with fail
          refine step_and (by repeat (first | with_reducible assumption | (with_reducible refine SameTo.refl ?_) | with_reducible refine SameTo.drew ?_ | with_reducible refine SameTo.alloc ?_ _ | (with_reducible refine SameTo.setCell ?_ ?_ _) | (refine SameTo.below ?_ (by with_reducible assumption)) | omega | exact Nat.le_refl _ | focus (simp; done) | focus (simp; omega))) (fun _ => ?_)
          repeat
            first | refine lexO_pass rfl ?_ | (refine lexO_take2 ?_ rfl (by kernel_rfl) (by with_reducible assumption) (fun w' hS K Q' hK => ?_) ?_; rotate_left; focus (have hS2 := hS.2; clear hS; go_wp2_with fail; exact hK))
          refine lexO_do rfl (fun K hK => ?_) lexO_stop
          refine wp_append_N (E := eP) (.tmp 52) (.tmp 70) 27 44 _ 48 rfl Tryz.underlying27 infoPart rfl (by decide) (by decide) (HF.out.rows.keeps (by repeat (first | with_reducible assumption | with_reducible exact Keeps.refl _ _ | with_reducible refine Keeps.drew ?_ | with_reducible refine Keeps.drewN ?_ _ | with_reducible refine Keeps.alloc ?_ _ | with_reducible refine Keeps.setCell ?_ ?_ _ | omega | focus (simp; done) | focus (simp; omega)))) wr.heap.size (fun k hk => (HO.out k hk).2) rfl rfl (cs := [.slice (some ⟨wr.heap.size, 0, none⟩) 4 4, .slice (some ⟨g, O + 4, none⟩) S (e - 4)]) (y := ([y0, y1, (N : Int), (N : Int)], rest2.take S)) ?hcells ?hrep (by have := HDL.out; have := hLIM; omega) (by first | omega | (simp; omega)) (fun q' c2 w5 hr5 hs5 hk5 hb5 => hK _ _ ?_)
          case hcells =>
            intro j u hu
            rcases j with _ | _ | j
            · simp at hu; subst hu; go_simp
            · simp at hu; subst hu; go_simp
            · simp at hu
          case hrep => exact ⟨_, _, rfl, IsSl.block (cs := #[.int .u64 y0, .int .u64 y1, .int .u64 (N : Int), .int .u64 (N : Int)]) (e := 39) (f := (0, 0)) (by (try simp only [heap_drew]); repeat (first | (with_reducible refine heap_last ?_; focus (simp; done)) | with_reducible refine heap_past ?_ | (with_reducible refine heap_set ?_ ?_; focus (first | omega | (simp; done) | (simp; omega))) | with_reducible assumption)) ⟨⟨by omega, by omega, by omega⟩, .inr (by omega)⟩ (by omega), ((HS.out.imp (fun b hb hn => ⟨hb, hn⟩ : ∀ b, b < w.heap.size → b ≠ R → b < w.heap.size ∧ b ≠ R)).keeps (HKG.out.trans (by repeat (first | with_reducible assumption | with_reducible exact Keeps.refl _ _ | with_reducible refine Keeps.drew ?_ | with_reducible refine Keeps.drewN ?_ _ | with_reducible refine Keeps.alloc ?_ _ | with_reducible refine Keeps.setCell ?_ ?_ _ | omega | focus (simp; done) | focus (simp; omega))))).imp (fun b _ hb => ⟨⟨by omega, by omega, hb.2⟩, .inl (by omega)⟩)⟩
          refine step_and (SameTo.keeps (by repeat (first | with_reducible assumption | (with_reducible refine SameTo.refl ?_) | with_reducible refine SameTo.drew ?_ | with_reducible refine SameTo.alloc ?_ _ | (with_reducible refine SameTo.setCell ?_ ?_ _) | (refine SameTo.below ?_ (by with_reducible assumption)) | omega | exact Nat.le_refl _ | focus (simp; done) | focus (simp; omega))) hk5) (fun _ => ?_)
          have hL5 : w5.cell? ⟨w.heap.size + 1 + 1 + 1, 2, none⟩ = some (.slice p done.length c') := hk5.cell lL (by go_simp)
          have hf5 : w5.frozen? ⟨w.heap.size + 1 + 1 + 1, 2, none⟩ = false := hk5.frozen lL (by first | omega | (simp; omega)) (by go_simp)
          have l5 : w.heap.size + 1 + 1 + 1 < w5.heap.size := World.block_lt_of_cell? _ _ hL5
          have H5 := Lib.hid (HF.out.step (w5 := w5) (fun b hb => hb.1) (show Below wr.heap.size wr _ from (by have h0 := Below.refl wr.heap.size wr; exact (by repeat (first | with_reducible assumption | with_reducible refine Below.drew ?_ | with_reducible refine below_drewN' ?_ _ | with_reducible refine Below.alloc ?_ ?_ _ | with_reducible refine Below.setCell ?_ ?_ _ | with_reducible exact Nat.le_refl _ | omega | focus (simp; done) | focus (simp; omega))))) hr5 hs5 hk5 hb5)
          clear hr5 hs5 hk5 hb5
          repeat
            first | refine lexO_pass rfl ?_ | (refine lexO_take2 ?_ rfl (by kernel_rfl) (by with_reducible assumption) (fun w' hS K Q' hK => ?_) ?_; rotate_left; focus (have hS2 := hS.2; clear hS; go_wp2_with fail; exact hK))
          refine lexO_do rfl (fun K hK => ?_) lexO_stop
          go_wp2_with fail
          first | refine step_last (by decide) (lexO_done ?_) | refine lexO_done ?_
          go_wp2_with fail
          go_roundw
          case rel => exact ⟨k + 1, j + Z, A5, l - Z, e - Z, _, done ++ [([y0, y1, (N : Int), (N : Int)], rest2.take S)], hlt, by go_num, by first | rfl | rw [hA5], by have := HJ.out; have := HLR.out; have := HZ.out; omega, by have := HE.out; omega, fun h => by rw [← hA5, if_neg (by have := HE.out; have := HJ.out; have := HLR.out; omega), HOO.out]; (congr 2 <;> omega), by have := HDJ.out; have := HZ.out; simp; omega, by have := H5.out; simpa using this, by
            have hm1 : M - (k + 1) = mm := by have := HMM.out; omega
            rw [hm1]
            refine ReadsR.more (by have := HRD.out; rwa [HMM.out] at this) ?_
            rw [HREST.out, dRecs_more hNN HSS.out hfit, show j + Z = j + 4 + S by have := HZ.out; omega, ← List.drop_drop, ← List.drop_drop, HREST.out]
            simp⟩
          case measure => simp [intOf]; omega
        · have hft : (l : Int) < (Z : Int) := by have := HLR.out; have := HZ.out; omega
          go_wp2_with (first | (go_at_call 14; refine (number2_c y2 y3 b2 b3 (by go_simp) (by go_simp)).mono ?_; rintro e w' ⟨rfl, rfl⟩) | (go_at_call 12; refine none_c.mono ?_; rintro e w' ⟨rfl, rfl⟩))
          refine bodyPost_ret (v := .tuple #[zlay, .bool false, .bool true]) (by simp only [results, Tryz.results17]; go_simp) rfl ?_
          have h0 : Below w.heap.size w wr := HF.out.below _ _ (by omega) HK.out.2
          have hD := HRD.out
          unfold ReadsR at hD
          rw [HMM.out, HREST.out, dRecs_long (S := S) (by have := HSS.out; rw [this]; congr 2; omega) hfit] at hD
          exact ⟨.inl ⟨by rw [hD]; rfl, rfl⟩, (by repeat (first | with_reducible assumption | with_reducible refine Below.drew ?_ | with_reducible refine below_drewN' ?_ _ | with_reducible refine Below.alloc ?_ ?_ _ | with_reducible refine Below.setCell ?_ ?_ _ | with_reducible exact Nat.le_refl _ | omega | focus (simp; done) | focus (simp; omega)))⟩
    · have hat : ¬ (k : Int) < (M : Int) := by omega
      go_wp2_with fail
      refine bodyPost_ret (v := .tuple #[.agg #[.slice (some ⟨w.heap.size + 1, 0, none⟩) 1 1, .slice none 0 0, .slice p done.length c', .slice none 0 0], .bool true, .bool true]) (by simp only [results, Tryz.results17]; go_simp) rfl ?_
      have hF := HF.out
      have h0 : Below w.heap.size w wr := hF.below _ _ (by omega) HK.out.2
      have hD := HRD.out
      unfold ReadsR at hD
      rw [show M - k = 0 by omega] at hD
      refine ⟨.inr ⟨done, _, by rw [hD]; simp [dRecs], rfl, ((hF.lay (ok' := fun b => b ≠ w.heap.size ∧ b ≠ R) rfl HN3.out.1 HN3.out.2.1 HN3.out.2.2 (fun b hb => hb.1) (fun b hb => ⟨by omega, by omega⟩) (fun b hb => hb.2) (fun b hb => hb.2)).keeps (by repeat (first | with_reducible assumption | with_reducible exact Keeps.refl _ _ | with_reducible refine Keeps.drew ?_ | with_reducible refine Keeps.drewN ?_ _ | with_reducible refine Keeps.alloc ?_ _ | with_reducible refine Keeps.setCell ?_ ?_ _ | omega | focus (simp; done) | focus (simp; omega)))).imp (fun b _ hb => hb.2)⟩, (by repeat (first | with_reducible assumption | with_reducible refine Below.drew ?_ | with_reducible refine below_drewN' ?_ _ | with_reducible refine Below.alloc ?_ ?_ _ | with_reducible refine Below.setCell ?_ ?_ _ | with_reducible exact Nat.le_refl _ | omega | focus (simp; done) | focus (simp; omega)))⟩
end Go.Proofs.YtmpifdanfnebpaaGreat
