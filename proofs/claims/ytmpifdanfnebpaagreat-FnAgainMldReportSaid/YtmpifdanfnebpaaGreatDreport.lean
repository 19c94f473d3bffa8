/-
  The decoder of mldreport2.
-/
import Derived.Test.YtmpifdanfnebpaaGreatDrec
import Derived.Test.YtmpifdanfnebpaaGreatRepE
import Derived.Test.YtmpifdanfnebpaaGreatOn
namespace Go.Proofs.YtmpifdanfnebpaaGreat
open Go Go.RowKit

def ReportPost (X B : Nat) (w' : World) (e : Ending) (r : Option (List (List Int × List Int))) (M : Nat) : Prop :=
  (r = none ∧ ∃ b, e = .returned (.iface 201 (.pointer (some ⟨b, 0, none⟩)))) ∨
    ∃ ps, r = some ps ∧ e = .returned .nilIface ∧ w'.cell? ⟨X, 1, none⟩ = some (.slice none 0 0) ∧ w'.cell? ⟨X, 2, none⟩ = some (.int .u16 (M : Int)) ∧
      ∃ iv, w'.cell? ⟨X, 3, none⟩ = some iv ∧ Rows eM w' (X + 1) (fun b => b < B ∨ X < b) 106 iv ps

set_option maxRecDepth 100000 in
set_option maxHeartbeats 1000000 in
theorem rec_few {p : Option Addr} {l c Y k : Nat} {w : World} (hl : l < 20) (lY : Y < w.heap.size) :
    Calls Tryz.prog 113 #[.pointer (some ⟨Y, 0, none⟩), .slice p l c, .iface 196 (.pointer (some ⟨k, 0, none⟩))] w fun e w' => (∃ z b, e = .returned (.tuple #[.int .i64 z, .iface 201 (.pointer (some ⟨b, 0, none⟩))])) ∧ Below Y w w' := by
  have hl4 : (l : Int) < 20 := by omega
  have m3 := m_trunc
  go_enter Tryz.func113, Tryz.ntmps113
  go_wp2_with (first | (go_at_call 152; refine trunc_c.mono ?_; rintro e w' ⟨rfl, rfl⟩) | (go_at_call 38; refine new_c.mono ?_; rintro e w' ⟨rfl, rfl⟩))
  refine bodyPost_ret (v := .tuple #[.int .i64 0, .iface 201 (.pointer (some ⟨w.heap.size, 0, none⟩))]) (by simp only [results, Tryz.results113]; go_simp) rfl ?_
  have hb := Below.refl Y w
  exact ⟨⟨_, _, rfl⟩, (by repeat (first | with_reducible assumption | with_reducible refine Below.drew ?_ | with_reducible refine below_drewN' ?_ _ | with_reducible refine Below.alloc ?_ ?_ _ | with_reducible refine Below.setCell ?_ ?_ _ | with_reducible exact Nat.le_refl _ | omega | focus (simp; done) | focus (simp; omega)))⟩

set_option maxRecDepth 100000 in
set_option maxHeartbeats 1000000 in
theorem dfb_report {B X g o n c k M : Nat} (x0 x1 x2 x3 : Int) {rest : List Int} {w : World} (hn : n = rest.length + 4) (hc : n ≤ c) (hm : c ≤ 9223372036854775807) (hLIM : n ≤ 2147483648) (hM : x2 * 256 + x3 = (M : Int)) {all : List Int} (hAll : all = (x0 :: x1 :: x2 :: x3 :: rest).drop 4) {r : Option (List (List Int × List Int))} (hres : dRecs M all = r)
    (hall : ∀ z ∈ x0 :: x1 :: x2 :: x3 :: rest, 0 ≤ z ∧ z ≤ 255) (hBX : B ≤ X) (hr : RowAt w (· < B) (some ⟨g, o, none⟩) ((x0 :: x1 :: x2 :: x3 :: rest).map (.int .u8)))
    (hX : w.heap[X]? = some (.cells #[.slice none 0 0, .slice none 0 0, .int .u16 0, .slice none 0 0] 103 (0, 0))) :
    Calls Tryz.prog 110 #[.pointer (some ⟨X, 0, none⟩), .slice (some ⟨g, o, none⟩) n c, .iface 196 (.pointer (some ⟨k, 0, none⟩))] w fun e w' => 
      Below X w w' ∧ ReportPost X B w' e r M := by
  have hnm : 4 ≤ n := by omega
  have HA := Lib.hid hAll
  have HRES := Lib.hid hres
  have HBB := Lib.hid hall
  have HN := Lib.hid hn
  have hb : ∀ z ∈ [x2, x3], 0 ≤ z ∧ z ≤ 255 := fun z hz => hall z (by simp at hz ⊢; omega)
  clear hAll hres hall hn
  have m3 := m_trunc
  have HR := Lib.hid hr
  have b2 : (2 : Int) ≤ (c : Int) := by omega
  have b4 : (4 : Int) ≤ (c : Int) := by omega
  have e2 : ¬ (c = 2) := by omega
  obtain ⟨hg, hcell⟩ := rowCells hr (by simp)
  have hgX : g ≠ X := by
    rcases hr with h | ⟨b, o', hp, hb, _, _⟩
    · simp at h
    · simp only [Option.some.injEq, Addr.mk.injEq, and_true] at hp
      have : g < B := hp.1 ▸ hb
      omega
  have c2 := hcell 2 _ (by simp; rfl)
  have c3 := hcell 3 _ (by simp; rfl)
  have h2 := hb x2 (by simp)
  have h3 := hb x3 (by simp)
  have d0 : w.cell? ⟨X, 0, none⟩ = some (.slice none 0 0) := by simp [World.cell?, hX]
  have d1 : w.cell? ⟨X, 1, none⟩ = some (.slice none 0 0) := by simp [World.cell?, hX]
  have d2 : w.cell? ⟨X, 2, none⟩ = some (.int .u16 0) := by simp [World.cell?, hX]
  have d3 : w.cell? ⟨X, 3, none⟩ = some (.slice none 0 0) := by simp [World.cell?, hX]
  have f0 : w.frozen? ⟨X, 0, none⟩ = false := by simp [World.frozen?, hX]
  have f1 : w.frozen? ⟨X, 1, none⟩ = false := by simp [World.frozen?, hX]
  have f2 : w.frozen? ⟨X, 2, none⟩ = false := by simp [World.frozen?, hX]
  have f3 : w.frozen? ⟨X, 3, none⟩ = false := by simp [World.frozen?, hX]
  have hfz : ∀ j, w.frozen? ⟨X, j, none⟩ = false := fun j => by simp [World.frozen?, hX]
  have HFZ := Lib.hid hfz
  have lX : X < w.heap.size := (Array.getElem?_eq_some_iff.1 hX).1
  have lX1 : X < w.heap.size + 1 := by omega
  have lX2 : X < w.heap.size + 1 + 1 := by omega
  have lX3 : X < w.heap.size + 1 + 1 + 1 := by omega
  have lg1 : g < w.heap.size + 1 := by omega
  have lg2 : g < w.heap.size + 1 + 1 := by omega
  have hgB : g < B := by
    rcases hr with h | ⟨b, o', hp, hb, _, _⟩
    · simp at h
    · simp only [Option.some.injEq, Addr.mk.injEq, and_true] at hp
      exact hp.1 ▸ hb
  clear hr hcell hb hX hfz
  go_enter Tryz.func110, Tryz.ntmps110
  go_wp2_with fail
  refine wp_region_lex (fun _ => True) [7] (.q 0 (.q 1 (.q 2 (.q 3 (.l 4 (.q 5 (.q 6 (.l 7 .done .stop))) .stop))))) (by kernel_rfl) (by kernel_rfl) (fun _ _ d _ _ h => by cases d <;> exact h) (by simp only [Ord.fill, nthOp]; rfl) trivial ?_
  repeat
    first | refine lexO_pass rfl ?_ | (refine lexO_take2 ?_ rfl (by kernel_rfl) trivial (fun w' _ K Q' hK => ?_) ?_; rotate_left; focus (go_wp2_with fail; exact hK))
  refine lexO_do rfl (fun K hK => ?_) lexO_stop
  go_wp2_with (go_at_call 55; refine (u16_c x2 x3 (by omega) h2 h3 (by go_simp) (by go_simp)).mono ?_; rintro e w' ⟨rfl, rfl⟩)
  refine ⟨fun _ => trivial, ?_⟩
  repeat
    first | refine lexO_pass rfl ?_ | (refine lexO_take2 ?_ rfl (by kernel_rfl) trivial (fun w' _ K Q' hK => ?_) ?_; rotate_left; focus (go_wp2_with fail; exact hK))
  refine lexO_do rfl (fun K hK => ?_) lexO_stop
  go_wp2_with fail
  refine step_last (by decide) (lexO_done ?_)
  go_wp2_with fail
  refine wp_gen (fun W => (W.cell? ⟨X, 0, none⟩ = some (.slice none 0 0) ∧ W.cell? ⟨X, 1, none⟩ = some (.slice none 0 0) ∧ W.cell? ⟨X, 2, none⟩ = some (.int .u16 (M : Int)) ∧ W.cell? ⟨X, 3, none⟩ = some (.slice none 0 0)) ∧ (∀ j, W.frozen? ⟨X, j, none⟩ = false) ∧ X < W.heap.size ∧ Keeps (· < B) w W ∧ Below X w W) ?F (fun W hW => ?_)
  case F =>
    have h0 := Below.refl X w
    have q1 := Keeps.refl (· < B) w
    refine ⟨⟨by go_simp, by go_simp, by go_simp, by go_simp⟩, fun j => ?_, by first | omega | focus (simp; done) | (simp; omega), (by repeat (first | with_reducible assumption | with_reducible exact Keeps.refl _ _ | with_reducible refine Keeps.drew ?_ | with_reducible refine Keeps.drewN ?_ _ | with_reducible refine Keeps.alloc ?_ _ | with_reducible refine Keeps.setCell ?_ ?_ _ | omega | focus (simp; done) | focus (simp; omega))), (by repeat (first | with_reducible assumption | with_reducible refine Below.drew ?_ | with_reducible refine below_drewN' ?_ _ | with_reducible refine Below.alloc ?_ ?_ _ | with_reducible refine Below.setCell ?_ ?_ _ | with_reducible exact Nat.le_refl _ | omega | focus (simp; done) | focus (simp; omega)))⟩
    have := HFZ.out j
    go_simp
  obtain ⟨⟨lc0, lc1, lc2, lc3⟩, lf, lL, kW, bW⟩ := hW
  have hM2 : (M : Int) ≤ 65535 := by omega
  have hF0 : GFills eM 106 3 W W X W.heap.size (fun b => b < B ∨ X < b) (.slice none 0 0) [] := GFills.start lL (Nat.le_refl _) lc3 lf
  have HK := Lib.hid (And.intro kW bW)
  have HF0 := Lib.hid hF0
  clear kW bW lf hF0
  go_loopw [7, 8, 9, 10, 11] (fun bg i _ _ _ wr => ∃ (k j : Nat) (v : Value) (done : List (List Int × List Int)), k ≤ M ∧ j ≤ n ∧ done.length ≤ j ∧ bg = .int .i64 (j : Int) ∧ i = .int .u16 (k : Int) ∧ GFills eM 106 3 W wr X W.heap.size (fun b => b < B ∨ X < b) v done ∧ ReadsR M all done (M - k) ((x0 :: x1 :: x2 :: x3 :: rest).drop j)) (fun _ i _ _ _ _ => M - (intOf i).toNat)
  case atStart => exact ⟨0, 4, _, [], Nat.zero_le _, by omega, by simp, rfl, rfl, HF0.out, by rw [← HA.out]; exact ReadsR.start _ _⟩
  case round =>
    obtain ⟨k, j, v, done, hk, hj, hdl0, rfl, rfl, hF, hrd⟩ := hrel
    have HF := Lib.hid hF
    have lXr : X < wr.heap.size := Nat.lt_of_lt_of_le hF.lt hF.le
    have lXr1 : X < wr.heap.size + 1 := by omega
    have lgr : g < wr.heap.size := by omega
    have lgr1 : g < wr.heap.size + 1 := by omega
    have leW := hF.le
    have ef := hF.froz 3
    have hown := hF.rows.own
    obtain ⟨p, c', hv⟩ := hF.rows.form
    subst hv
    have e3' := hF.parts
    have e2' := hF.other 2 _ (by decide) lc2
    have HO := Lib.hid hown
    have HDL := Lib.hid hdl0
    have HRD := Lib.hid hrd
    have HKG := Lib.hid (HK.out.1.trans (hF.keep.imp (fun b hb => ⟨by omega, by omega⟩ : ∀ b, b < B → b < W.heap.size ∧ b ≠ X)))
    clear hF hown hdl0 hrd
    by_cases hlt : k < M
    · have hat : (k : Int) < (M : Int) := by omega
      have hk1 : (k : Int) + 1 ≤ 65535 := by omega
      have hjc : (j : Int) ≤ (c : Int) := by omega
      have hjn : (j : Int) ≤ (n : Int) := by omega
      obtain ⟨mm, hmm⟩ : ∃ mm, M - k = mm + 1 := ⟨M - k - 1, by omega⟩
      have hdl : ((x0 :: x1 :: x2 :: x3 :: rest).drop j).length = n - j := by have := HN.out; simp at *; omega
      obtain ⟨AJ, hAJ⟩ : ∃ A, (if c = j then some (⟨g, o, none⟩ : Addr) else some ⟨g, o + j, none⟩) = A := ⟨_, rfl⟩
      have HMM := Lib.hid hmm
      have HDd := Lib.hid hdl
      clear hmm hdl
      go_wp2_with fail
      by_cases hl4 : n - j < 20
      · refine (rec_few (Y := wr.heap.size) hl4 (by simp)).mono ?_
        rintro e w2 ⟨⟨z, b, rfl⟩, hb2⟩
        have HB2 := Lib.hid (((Below.refl wr.heap.size wr).alloc (Nat.le_refl _) _).trans hb2)
        clear hb2
        go_wp2_with fail
        refine bodyPost_ret (v := .iface 201 (.pointer (some ⟨b, 0, none⟩))) (by simp only [results, Tryz.results110]; go_simp) rfl ?_
        have hbW : Below X w wr := HF.out.below _ _ (Nat.le_refl _) HK.out.2
        have h2 : Below X w w2 := hbW.trans (HB2.out.mono (by omega))
        have hD := HRD.out
        unfold ReadsR at hD
        rw [HMM.out, dRecs_few (by have := HDd.out; omega), HRES.out] at hD
        exact ⟨(by repeat (first | with_reducible assumption | with_reducible refine Below.drew ?_ | with_reducible refine below_drewN' ?_ _ | with_reducible refine Below.alloc ?_ ?_ _ | with_reducible refine Below.setCell ?_ ?_ _ | with_reducible exact Nat.le_refl _ | omega | focus (simp; done) | focus (simp; omega))), .inl ⟨by simpa using hD, _, rfl⟩⟩
      · have hAJ2 : AJ = some ⟨g, o + j, none⟩ := by rw [← hAJ, if_neg (by omega)]
        subst hAJ2
        obtain ⟨y0, y1, y2, y3, rest2, hrest⟩ := four (l := (x0 :: x1 :: x2 :: x3 :: rest).drop j) (by have := HDd.out; omega)
        have hrow := HR.out.drop j
        rw [← List.map_drop, hrest] at hrow
        have hbb : ∀ z ∈ [y0, y1, y2, y3], 0 ≤ z ∧ z ≤ 255 := fun z hz => HBB.out z (List.mem_of_mem_drop (i := j) (by rw [hrest]; exact List.mem_append_left rest2 hz))
        have b0 := hbb y0 (by simp)
        have b1 := hbb y1 (by simp)
        have b2 := hbb y2 (by simp)
        have b3 := hbb y3 (by simp)
        obtain ⟨N, hNN⟩ : ∃ N : Nat, y2 * 256 + y3 = (N : Int) := ⟨(y2 * 256 + y3).toNat, by omega⟩
        obtain ⟨S, hSS⟩ : ∃ S : Nat, S = 16 + (16 * N + 4 * y1.toNat) := ⟨_, rfl⟩
        have hlr : n - j = rest2.length + 4 := by have := HDd.out; rw [hrest] at this; simp at this; omega
        have hrow2 : RowAt (wr.alloc (.cells #[.int .u8 0, .int .u8 0, .int .u16 0, .slice none 0 0, .slice none 0 0, .slice none 0 0] 106)) (· < B) (some ⟨g, o + j, none⟩) ((y0 :: y1 :: y2 :: y3 :: rest2).map (.int .u8)) := hrow.keeps (HKG.out.trans (by repeat (first | with_reducible assumption | with_reducible exact Keeps.refl _ _ | with_reducible refine Keeps.drew ?_ | with_reducible refine Keeps.drewN ?_ _ | with_reducible refine Keeps.alloc ?_ _ | with_reducible refine Keeps.setCell ?_ ?_ _ | omega | focus (simp; done) | focus (simp; omega))))
        have hD := HRD.out
        unfold ReadsR at hD
        rw [HMM.out, hrest, HRES.out] at hD
        have HDD := Lib.hid hD
        have HREST := Lib.hid hrest
        have HLR := Lib.hid hlr
        have HSS := Lib.hid hSS
        refine (rec_c (B := B) (Y := wr.heap.size) (y0 := y0) (y1 := y1) (y2 := y2) (y3 := y3) (rest := rest2) (N := N) (by omega) hlr (by omega) (by omega) hNN b1 b2 b3 (by omega) hrow2 (by go_simp) (by go_simp) (by go_simp) (by go_simp) (by go_simp) (by go_simp) (fun j => by go_simp)).mono ?_
        clear hrow hbb hrest hlr hSS hD hrow2
        rintro e w2 ⟨hb2, ⟨hle, rfl, z0, z1, z2, ⟨v3, z3, s3⟩, ⟨v4, z4, s4⟩, v5, z5, s5⟩ | ⟨hgt, z, b, rfl⟩⟩
        · have hfitS : S ≤ rest2.length := by have := HLR.out; have := HSS.out; omega
          have hle2 : 20 + 16 * (N : Int) + 4 * y1 ≤ (n : Int) - (j : Int) := by omega
          obtain ⟨p3, n3, q3, hv3⟩ : ∃ p n c, v3 = .slice p n c := by obtain ⟨p, c, h, -⟩ := s3; exact ⟨p, _, c, h⟩
          obtain ⟨p4, n4, q4, hv4⟩ : ∃ p n c, v4 = .slice p n c := by obtain ⟨p, c, h⟩ := s4.form; exact ⟨p, _, c, h⟩
          obtain ⟨p5, n5, q5, hv5⟩ : ∃ p n c, v5 = .slice p n c := by obtain ⟨p, c, h, -⟩ := s5; exact ⟨p, _, c, h⟩
          subst hv3 hv4 hv5
          have e2 : ((List.range N).map fun i => ((y0 :: y1 :: y2 :: y3 :: rest2).drop (20 + 16 * i)).take 16) = (List.range N).map fun i => (rest2.drop (16 + 16 * i)).take 16 := by
            congr 1
            funext i
            rw [show 20 + 16 * i = (16 + 16 * i) + 4 by omega]
            rfl
          have e5 : ((y0 :: y1 :: y2 :: y3 :: rest2).drop (20 + 16 * N)).take (4 * y1.toNat) = (rest2.drop (16 + 16 * N)).take (4 * y1.toNat) := by
            rw [show 20 + 16 * N = (16 + 16 * N) + 4 by omega]
            rfl
          rw [e2] at s4
          rw [e5] at s5
          have S3 := Lib.hid (show SB w2 (· < B) (.slice p3 n3 q3) (rest2.take 16) from s3)
          have S4 := Lib.hid (s4.sd (ok' := fun b => b < B ∨ wr.heap.size < b) (fun b _ h => .inr (by omega)) (fun b _ h => .inl h))
          have S5 := Lib.hid s5
          have l2 := hb2.size
          have ll2 : wr.heap.size < w2.heap.size := by simp at l2; omega
          have lX2 : X < w2.heap.size := by omega
          have x3 : w2.cell? ⟨X, 3, none⟩ = some (.slice p done.length c') := (hb2.cell (p := ⟨X, 3, none⟩) lXr).trans (by go_simp)
          have xf3 : w2.frozen? ⟨X, 3, none⟩ = false := (hb2.frozen (p := ⟨X, 3, none⟩) lXr).trans (by go_simp)
          have HB2 := Lib.hid (((Below.refl wr.heap.size wr).alloc (Nat.le_refl _) _).trans hb2)
          clear hb2 l2 s3 s4 s5 e2 e5
          go_wp2_with fail
          refine wp_region_on (fun b => b < W.heap.size ∨ b = wr.heap.size) (fun b hb => by first | omega | (rcases hb with hb | hb <;> omega) | (rcases hb with hb | hb <;> simp <;> omega)) [10] (.q 0 (.q 1 (.q 2 (.q 3 (.q 4 (.q 5 (.l 6 (.l 7 (.q 8 (.q 9 (.l 10 .done .stop))) .stop) .stop))))))) (by kernel_rfl) (by kernel_rfl) (fun _ _ d _ _ h => by cases d <;> exact h) (by simp only [Ord.fill, nthOp]; rfl) ?_; intro hSm
          repeat
            first | refine lexO_pass rfl ?_ | (refine lexO_take2 ?_ rfl (by kernel_rfl) (by with_reducible assumption) (fun w' hS K Q' hK => ?_) ?_; rotate_left; focus (have hS2 := hS.2; clear hS; go_wp2_with fail; exact hK))
          refine lexO_do rfl (fun K hK => ?_) lexO_stop
          go_wp2_with fail
          refine step_and (by repeat (first | with_reducible assumption | (with_reducible refine SameOn.refl (fun b hb => ?_); first | omega | (rcases hb with hb | hb <;> omega) | (rcases hb with hb | hb <;> simp <;> omega)) | with_reducible refine SameOn.drew ?_ | with_reducible refine SameOn.alloc ?_ _ | (refine SameOn.below ?_ (by with_reducible assumption)))) (fun _ => ?_)
          repeat
            first | refine lexO_pass rfl ?_ | (refine lexO_take2 ?_ rfl (by kernel_rfl) (by with_reducible assumption) (fun w' hS K Q' hK => ?_) ?_; rotate_left; focus (have hS2 := hS.2; clear hS; go_wp2_with fail; exact hK))
          refine lexO_do rfl (fun K hK => ?_) lexO_stop
          refine wp_append_N2 (E := eM) (.tmp 49) (.tmp 51) 101 106 _ 80 rfl Tryz.underlying101 infoRec rfl (by decide) (by decide) (HF.out.rows.keeps (Keeps.trans (Keeps.of_below HB2.out) (by repeat (first | with_reducible assumption | with_reducible exact Keeps.refl _ _ | with_reducible refine Keeps.drew ?_ | with_reducible refine Keeps.drewN ?_ _ | with_reducible refine Keeps.alloc ?_ _ | with_reducible refine Keeps.setCell ?_ ?_ _ | omega | focus (simp; done) | focus (simp; omega))))) wr.heap.size (fun k hk => (HO.out k hk).2) rfl rfl (cs := [.int .u8 y0, .int .u8 y1, .int .u16 (N : Int), .slice p3 n3 q3, .slice p4 n4 q4, .slice p5 n5 q5]) (y := ([y0, y1, (N : Int), (N : Int)], rest2.take S)) ?hcells ?hrep (by have := HDL.out; omega) (by first | omega | (simp; omega)) (fun q' c2 w5 hr5 hs5 hk5 hb5 => hK _ _ ?_)
          case hcells =>
            intro j u hu
            rcases j with _ | _ | _ | _ | _ | _ | j
            · simp at hu; subst hu; go_simp
            · simp at hu; subst hu; go_simp
            · simp at hu; subst hu; go_simp
            · simp at hu; subst hu; go_simp
            · simp at hu; subst hu; go_simp
            · simp at hu; subst hu; go_simp
            · simp at hu
          case hrep =>
            refine ⟨y0, y1, (N : Int), _, _, _, rest2.take 16, (List.range N).map (fun i => (rest2.drop (16 + 16 * i)).take 16), (rest2.drop (16 + 16 * N)).take (4 * y1.toNat), rfl, ?_, (S3.out.keeps (by repeat (first | with_reducible assumption | with_reducible exact Keeps.refl _ _ | with_reducible refine Keeps.drew ?_ | with_reducible refine Keeps.drewN ?_ _ | with_reducible refine Keeps.alloc ?_ _ | with_reducible refine Keeps.setCell ?_ ?_ _ | omega | focus (simp; done) | focus (simp; omega)))).imp (fun b _ hb => ⟨.inl hb, .inl (by omega)⟩), (S4.out.keeps (by repeat (first | with_reducible assumption | with_reducible exact Keeps.refl _ _ | with_reducible refine Keeps.drew ?_ | with_reducible refine Keeps.drewN ?_ _ | with_reducible refine Keeps.alloc ?_ _ | with_reducible refine Keeps.setCell ?_ ?_ _ | omega | focus (simp; done) | focus (simp; omega)))).imp (fun b _ hb => ⟨by omega, by omega⟩), (S5.out.keeps (by repeat (first | with_reducible assumption | with_reducible exact Keeps.refl _ _ | with_reducible refine Keeps.drew ?_ | with_reducible refine Keeps.drewN ?_ _ | with_reducible refine Keeps.alloc ?_ _ | with_reducible refine Keeps.setCell ?_ ?_ _ | omega | focus (simp; done) | focus (simp; omega)))).imp (fun b _ hb => ⟨.inl hb, .inl (by omega)⟩), b0, b1, ⟨by omega, by omega⟩, by simp; omega, by simp; omega, fun d hd => ?_, by simp; omega⟩
            · rw [rec_bytes HSS.out hfitS]
              simp
            · obtain ⟨i, -, rfl⟩ := List.mem_map.1 hd
              simp
              omega
          refine step_and (SameOn.keeps (by repeat (first | with_reducible assumption | (with_reducible refine SameOn.refl (fun b hb => ?_); first | omega | (rcases hb with hb | hb <;> omega) | (rcases hb with hb | hb <;> simp <;> omega)) | with_reducible refine SameOn.drew ?_ | with_reducible refine SameOn.alloc ?_ _ | (refine SameOn.below ?_ (by with_reducible assumption)))) hk5 (fun b hb => by omega)) (fun _ => ?_)
          have hL5 : w5.cell? ⟨X, 3, none⟩ = some (.slice p done.length c') := hk5.cell (.inl lL) (by go_simp)
          have hf5 : w5.frozen? ⟨X, 3, none⟩ = false := hk5.frozen (.inl lL) (by first | omega | (simp; omega)) (by go_simp)
          have l5 : X < w5.heap.size := World.block_lt_of_cell? _ _ hL5
          have H5 := Lib.hid (HF.out.step (w5 := w5) (fun b hb => by omega) (show Below wr.heap.size wr _ from (by have h0 := HB2.out; exact (by repeat (first | with_reducible assumption | with_reducible refine Below.drew ?_ | with_reducible refine below_drewN' ?_ _ | with_reducible refine Below.alloc ?_ ?_ _ | with_reducible refine Below.setCell ?_ ?_ _ | with_reducible exact Nat.le_refl _ | omega | focus (simp; done) | focus (simp; omega))))) hr5 hs5 (hk5.imp (fun b hb => .inl hb)) hb5)
          clear hr5 hs5 hk5 hb5
          repeat
            first | refine lexO_pass rfl ?_ | (refine lexO_take2 ?_ rfl (by kernel_rfl) (by with_reducible assumption) (fun w' hS K Q' hK => ?_) ?_; rotate_left; focus (have hS2 := hS.2; clear hS; go_wp2_with fail; exact hK))
          refine lexO_do rfl (fun K hK => ?_) lexO_stop
          go_wp2_with fail
          first | refine step_last (by decide) (lexO_done ?_) | refine lexO_done ?_
          go_wp2_with fail
          go_roundw
          case rel => exact ⟨k + 1, j + (S + 4), _, done ++ [([y0, y1, (N : Int), (N : Int)], rest2.take S)], hlt, by have := HLR.out; omega, by have := HDL.out; simp; omega, by have := HSS.out; first | go_num | (congr 1; omega), by go_num, by have := H5.out; simpa using this, by
            have hm1 : M - (k + 1) = mm := by have := HMM.out; omega
            rw [hm1]
            refine ReadsR.more (by have := HRD.out; rwa [HMM.out] at this) ?_
            rw [HREST.out, dRecs_more hNN HSS.out hfitS, show j + (S + 4) = j + 4 + S by omega, ← List.drop_drop, ← List.drop_drop, HREST.out]
            simp⟩
          case measure => simp [intOf]; omega
        · have HB2 := Lib.hid (((Below.refl wr.heap.size wr).alloc (Nat.le_refl _) _).trans hb2)
          clear hb2
          go_wp2_with fail
          refine bodyPost_ret (v := .iface 201 (.pointer (some ⟨b, 0, none⟩))) (by simp only [results, Tryz.results110]; go_simp) rfl ?_
          have hbW : Below X w wr := HF.out.below _ _ (Nat.le_refl _) HK.out.2
          have h2 : Below X w w2 := hbW.trans (HB2.out.mono (by omega))
          have hD := HDD.out
          rw [dRecs_long (S := S) (by have := HSS.out; rw [this]; congr 2; omega) (by have := HLR.out; have := HSS.out; omega)] at hD
          exact ⟨(by repeat (first | with_reducible assumption | with_reducible refine Below.drew ?_ | with_reducible refine below_drewN' ?_ _ | with_reducible refine Below.alloc ?_ ?_ _ | with_reducible refine Below.setCell ?_ ?_ _ | with_reducible exact Nat.le_refl _ | omega | focus (simp; done) | focus (simp; omega))), .inl ⟨by simpa using hD, _, rfl⟩⟩
    · have hat : ¬ (k : Int) < (M : Int) := by omega
      go_wp2_with fail
      refine bodyPost_ret (v := .nilIface) (by simp only [results, Tryz.results110]; go_simp) rfl ?_
      have hF := HF.out
      have hbW : Below X w wr := hF.below _ _ (Nat.le_refl _) HK.out.2
      have hc : ∀ j u, j ≠ 3 → W.cell? ⟨X, j, none⟩ = some u → wr.cell? ⟨X, j, none⟩ = some u := fun j u hj hu => hF.other j u hj hu
      have hD := HRD.out
      unfold ReadsR at hD
      rw [show M - k = 0 by omega, HRES.out] at hD
      exact ⟨hbW, .inr ⟨done, by simpa [dRecs] using hD, rfl, hc 1 _ (by decide) lc1, e2', _, e3', hF.rows.imp (by omega) (fun _ _ h => h)⟩⟩
end Go.Proofs.YtmpifdanfnebpaaGreat
