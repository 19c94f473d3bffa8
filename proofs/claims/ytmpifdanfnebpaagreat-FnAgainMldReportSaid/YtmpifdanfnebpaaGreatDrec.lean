/-
  The records of MLDv2: their decoder.
-/
import Derived.Test.YtmpifdanfnebpaaGreatRead
import Derived.Test.YtmpifdanfnebpaaGreatFill
import Derived.Test.YtmpifdanfnebpaaGreatLaw
namespace Go.Proofs.YtmpifdanfnebpaaGreat
open Go Go.RowKit

/-- What the decoder of a record leaves. -/
def RecPost (Y B : Nat) (w' : World) (e : Ending) (y0 y1 : Int) (N n : Nat) (bs : List Int) : Prop :=
  (20 + 16 * (N : Int) + 4 * y1 ≤ (n : Int) ∧ e = .returned (.tuple #[.int .i64 (20 + 16 * (N : Int) + 4 * y1), .nilIface]) ∧ w'.cell? ⟨Y, 0, none⟩ = some (.int .u8 y0) ∧ w'.cell? ⟨Y, 1, none⟩ = some (.int .u8 y1) ∧ w'.cell? ⟨Y, 2, none⟩ = some (.int .u16 (N : Int)) ∧
    (∃ v, w'.cell? ⟨Y, 3, none⟩ = some v ∧ SB w' (· < B) v ((bs.drop 4).take 16)) ∧ (∃ v, w'.cell? ⟨Y, 4, none⟩ = some v ∧ Rows eB w' (Y + 1) (· < B) 84 v ((List.range N).map fun i => (bs.drop (20 + 16 * i)).take 16)) ∧
    ∃ v, w'.cell? ⟨Y, 5, none⟩ = some v ∧ SB w' (· < B) v ((bs.drop (20 + 16 * N)).take (4 * y1.toNat))) ∨
  ((n : Int) < 20 + 16 * (N : Int) + 4 * y1 ∧ ∃ z b, e = .returned (.tuple #[.int .i64 z, .iface 201 (.pointer (some ⟨b, 0, none⟩))]))

set_option maxRecDepth 100000 in
set_option maxHeartbeats 1000000 in
theorem rec_c {B Y g o n c N k : Nat} {y0 y1 y2 y3 : Int} {rest : List Int} {w : World} (hn20 : 20 ≤ n) (hn : n = rest.length + 4) (hc : n ≤ c) (hm : c ≤ 9223372036854775807) (hN : y2 * 256 + y3 = (N : Int))
    (h1 : 0 ≤ y1 ∧ y1 ≤ 255) (h2 : 0 ≤ y2 ∧ y2 ≤ 255) (h3 : 0 ≤ y3 ∧ y3 ≤ 255) (hBY : B ≤ Y) (hr : RowAt w (· < B) (some ⟨g, o, none⟩) ((y0 :: y1 :: y2 :: y3 :: rest).map (.int .u8)))
    (d0 : w.cell? ⟨Y, 0, none⟩ = some (.int .u8 0)) (d1 : w.cell? ⟨Y, 1, none⟩ = some (.int .u8 0)) (d2 : w.cell? ⟨Y, 2, none⟩ = some (.int .u16 0)) (d3 : w.cell? ⟨Y, 3, none⟩ = some (.slice none 0 0)) (d4 : w.cell? ⟨Y, 4, none⟩ = some (.slice none 0 0)) (d5 : w.cell? ⟨Y, 5, none⟩ = some (.slice none 0 0)) (hfz : ∀ j, w.frozen? ⟨Y, j, none⟩ = false) :
    Calls Tryz.prog 113 #[.pointer (some ⟨Y, 0, none⟩), .slice (some ⟨g, o, none⟩) n c, .iface 196 (.pointer (some ⟨k, 0, none⟩))] w fun e w' => Below Y w w' ∧ RecPost Y B w' e y0 y1 N n (y0 :: y1 :: y2 :: y3 :: rest) := by
  have b2 : (2 : Int) ≤ (c : Int) := by omega
  have b4 : (4 : Int) ≤ (c : Int) := by omega
  have b20 : (20 : Int) ≤ (c : Int) := by omega
  have e2 : ¬ (c = 2) := by omega
  have e4 : ¬ (c = 4) := by omega
  have m3 := m_trunc
  have HN := Lib.hid hn
  clear hn
  have HR := Lib.hid hr
  have HD := Lib.hid (show SB w (· < B) (.slice (some ⟨g, o + 4, none⟩) 16 (c - 4)) (((y0 :: y1 :: y2 :: y3 :: rest).drop 4).take 16) from SB.from (lo := 4) (hi := 20) hr (by omega) (by have := HN.out; simp; omega) (by have := HN.out; simp; omega) hm (by rw [if_neg (by omega)]))
  obtain ⟨hg, hcell⟩ := rowCells hr (by simp)
  have hgY : g ≠ Y := by
    rcases hr with h | ⟨b, o', hp, hb, _, _⟩
    · simp at h
    · simp only [Option.some.injEq, Addr.mk.injEq, and_true] at hp
      have : g < B := hp.1 ▸ hb
      omega
  have c0 := hcell 0 (.int .u8 y0) (by simp)
  have c1 := hcell 1 (.int .u8 y1) (by simp)
  have c2 := hcell 2 (.int .u8 y2) (by simp)
  have c3 := hcell 3 (.int .u8 y3) (by simp)
  rw [Nat.add_zero] at c0
  have f0 := hfz 0
  have f1 := hfz 1
  have f2 := hfz 2
  have f3 := hfz 3
  have HFZ := Lib.hid hfz
  have lX : Y < w.heap.size := World.block_lt_of_cell? _ _ d0
  have lX1 : Y < w.heap.size + 1 := by omega
  have lX2 : Y < w.heap.size + 1 + 1 := by omega
  have lg1 : g < w.heap.size + 1 := by omega
  have lg2 : g < w.heap.size + 1 + 1 := by omega
  clear hr hcell hfz
  go_enter Tryz.func113, Tryz.ntmps113
  go_wp2_with fail
  refine wp_region_lex (fun _ => True) [7] (.q 0 (.q 1 (.q 2 (.q 3 (.l 4 (.q 5 (.q 6 (.l 7 .done .stop))) .stop))))) (by kernel_rfl) (by kernel_rfl) (fun _ _ d _ _ h => by cases d <;> exact h) (by simp only [Ord.fill, nthOp]; rfl) trivial ?_
  repeat
    first | refine lexO_pass rfl ?_ | (refine lexO_take2 ?_ rfl (by kernel_rfl) trivial (fun w' _ K Q' hK => ?_) ?_; rotate_left; focus (go_wp2_with fail; exact hK))
  refine lexO_do rfl (fun K hK => ?_) lexO_stop
  go_wp2_with (go_at_call 55; refine (u16_c y2 y3 (by omega) h2 h3 (by go_simp) (by go_simp)).mono ?_; rintro e w' ⟨rfl, rfl⟩)
  refine ⟨fun _ => trivial, ?_⟩
  repeat
    first | refine lexO_pass rfl ?_ | (refine lexO_take2 ?_ rfl (by kernel_rfl) trivial (fun w' _ K Q' hK => ?_) ?_; rotate_left; focus (go_wp2_with fail; exact hK))
  refine lexO_do rfl (fun K hK => ?_) lexO_stop
  go_wp2_with fail
  refine step_last (by decide) (lexO_done ?_)
  go_wp2_with fail
  refine wp_gen (fun W => (W.cell? ⟨Y, 0, none⟩ = some (.int .u8 y0) ∧ W.cell? ⟨Y, 1, none⟩ = some (.int .u8 y1) ∧ W.cell? ⟨Y, 2, none⟩ = some (.int .u16 (N : Int)) ∧ W.cell? ⟨Y, 3, none⟩ = some (.slice (some ⟨g, o + 4, none⟩) 16 (c - 4)) ∧ W.cell? ⟨Y, 4, none⟩ = some (.slice none 0 0) ∧ W.cell? ⟨Y, 5, none⟩ = some (.slice none 0 0)) ∧ (∀ j, W.frozen? ⟨Y, j, none⟩ = false) ∧ Y < W.heap.size ∧ Keeps (· < B) w W ∧ Below Y w W) ?F (fun W hW => ?_)
  case F =>
    have h0 := Below.refl Y w
    have q1 := Keeps.refl (· < B) w
    refine ⟨⟨by go_simp, by go_simp, by go_simp, by go_simp, by go_simp, by go_simp⟩, fun j => ?_, by first | omega | focus (simp; done) | (simp; omega), (by repeat (first | with_reducible assumption | with_reducible exact Keeps.refl _ _ | with_reducible refine Keeps.drew ?_ | with_reducible refine Keeps.drewN ?_ _ | with_reducible refine Keeps.alloc ?_ _ | with_reducible refine Keeps.setCell ?_ ?_ _ | omega | focus (simp; done) | focus (simp; omega))), (by repeat (first | with_reducible assumption | with_reducible refine Below.drew ?_ | with_reducible refine below_drewN' ?_ _ | with_reducible refine Below.alloc ?_ ?_ _ | with_reducible refine Below.setCell ?_ ?_ _ | with_reducible exact Nat.le_refl _ | omega | focus (simp; done) | focus (simp; omega)))⟩
    have := HFZ.out j
    go_simp
  obtain ⟨⟨lc0, lc1, lc2, lc3, lc4, lc5⟩, lf, lL, kW, bW⟩ := hW
  have hN2 : (N : Int) ≤ 65535 := by omega
  have lf5 := lf 5
  have hF0 : GFills eB 84 4 W W Y W.heap.size (· < B) (.slice none 0 0) ((List.range 0).map (fun i => ((y0 :: y1 :: y2 :: y3 :: rest).drop (20 + 16 * i)).take 16)) := GFills.start lL (Nat.le_refl _) lc4 lf
  have HK := Lib.hid (And.intro kW bW)
  have HF0 := Lib.hid hF0
  clear kW bW lf hF0
  obtain ⟨T, hT⟩ : ∃ T : Nat, y1 * 4 + (20 + (N : Int) * 16) = (T : Int) := ⟨(y1 * 4 + (20 + (N : Int) * 16)).toNat, by omega⟩
  go_loopw [8, 9, 10] (fun i _ _ wr => ∃ k : Nat, k ≤ N ∧ 20 + 16 * k ≤ n ∧ i = .int .u16 (k : Int) ∧ ∃ v, GFills eB 84 4 W wr Y W.heap.size (· < B) v ((List.range k).map (fun i => ((y0 :: y1 :: y2 :: y3 :: rest).drop (20 + 16 * i)).take 16))) (fun i _ _ _ => N - (intOf i).toNat)
  case atStart => exact ⟨0, Nat.zero_le _, by omega, rfl, _, HF0.out⟩
  case round =>
    obtain ⟨k, hk, hkn, rfl, v, hF⟩ := hrel
    have HF := Lib.hid hF
    have lXr : Y < wr.heap.size := Nat.lt_of_lt_of_le hF.lt hF.le
    have leW := hF.le
    have ef := hF.froz 4
    have ef5 := hF.froz 5
    have hown := hF.rows.own
    obtain ⟨p, c', hv⟩ := hF.rows.form
    rw [show ((List.range k).map (fun i => ((y0 :: y1 :: y2 :: y3 :: rest).drop (20 + 16 * i)).take 16)).length = k by simp] at hv
    subst hv
    have e4' := hF.parts
    have e2' := hF.other 2 _ (by decide) lc2
    have e1' := hF.other 1 _ (by decide) lc1
    have e5' := hF.other 5 _ (by decide) lc5
    have HO := Lib.hid hown
    have HKG := Lib.hid (HK.out.1.trans (hF.keep.imp (fun b hb => ⟨by omega, by omega⟩ : ∀ b, b < B → b < W.heap.size ∧ b ≠ Y)))
    clear hF hown
    by_cases hlt : k < N
    · have hat : (k : Int) < (N : Int) := by omega
      have hk1 : (k : Int) + 1 ≤ 65535 := by omega
      by_cases hfit : 20 + 16 * k + 16 ≤ n
      · have hft : ¬ (n : Int) < 20 + (k : Int) * 16 + 16 := by omega
        have ha1 : 20 + (k : Int) * 16 + 16 ≤ (c : Int) := by omega
        have ha2 : ¬ c = 20 + k * 16 := by omega
        have hS : SB w (· < B) (.slice (some ⟨g, o + (20 + k * 16), none⟩) 16 (c - (20 + k * 16))) ((fun i => ((y0 :: y1 :: y2 :: y3 :: rest).drop (20 + 16 * i)).take 16) k) := by
          have := SB.from (lo := 20 + 16 * k) (hi := 20 + 16 * k + 16) (A := some ⟨g, o + (20 + 16 * k), none⟩) HR.out (by omega) (by have := HN.out; simp at *; omega) (by have := HN.out; simp at *; omega) hm (by rw [if_neg (by omega)])
          rw [show 20 + 16 * k + 16 - (20 + 16 * k) = 16 by omega] at this
          rw [show 20 + k * 16 = 20 + 16 * k by omega]
          exact this
        have HS := Lib.hid hS
        clear hS
        go_wp2_with fail
        refine wp_region_to (W.heap.size) (by first | omega | exact Nat.le_refl _ | (simp; omega)) [13] (.q 0 (.q 1 (.q 2 (.q 3 (.q 4 (.q 5 (.q 6 (.q 7 (.q 8 (.l 9 (.l 10 (.q 11 (.q 12 (.l 13 .done .stop))) .stop) .stop)))))))))) (by kernel_rfl) (by kernel_rfl) (fun _ _ d _ _ h => by cases d <;> exact h) (by simp only [Ord.fill, nthOp]; rfl) ?_; intro hSm
        repeat
          first | refine lexO_pass rfl ?_ | (refine lexO_take2 ?_ rfl (by kernel_rfl) (by with_reducible assumption) (fun w' hS K Q' hK => ?_) ?_; rotate_left; focus (have hS2 := hS.2; clear hS; go_wp2_with fail; exact hK))
        refine lexO_do rfl (fun K hK => ?_) lexO_stop
        go_wp2_with fail
        refine step_and (by repeat (first | with_reducible assumption | (with_reducible refine SameTo.refl ?_) | with_reducible refine SameTo.drew ?_ | with_reducible refine SameTo.alloc ?_ _ | (with_reducible refine SameTo.setCell ?_ ?_ _) | (refine SameTo.below ?_ (by with_reducible assumption)) | omega | exact Nat.le_refl _ | focus (simp; done) | focus (simp; omega))) (fun _ => ?_)
        repeat
          first | refine lexO_pass rfl ?_ | (refine lexO_take2 ?_ rfl (by kernel_rfl) (by with_reducible assumption) (fun w' hS K Q' hK => ?_) ?_; rotate_left; focus (have hS2 := hS.2; clear hS; go_wp2_with fail; exact hK))
        refine lexO_do rfl (fun K hK => ?_) lexO_stop
        refine wp_append_N (E := eB) (.tmp 69) (.tmp 74) 96 84 _ 24 rfl Tryz.underlying96 infoIP rfl (by decide) (by decide) (HF.out.rows.keeps (by repeat (first | with_reducible assumption | with_reducible exact Keeps.refl _ _ | with_reducible refine Keeps.drew ?_ | with_reducible refine Keeps.drewN ?_ _ | with_reducible refine Keeps.alloc ?_ _ | with_reducible refine Keeps.setCell ?_ ?_ _ | omega | focus (simp; done) | focus (simp; omega)))) wr.heap.size (fun k hk => (HO.out k hk).2) rfl rfl (cs := [.slice (some ⟨g, o + (20 + k * 16), none⟩) 16 (c - (20 + k * 16))]) (y := (fun i => ((y0 :: y1 :: y2 :: y3 :: rest).drop (20 + 16 * i)).take 16) k) ?hcells ?hrep (by simp; omega) (by first | omega | (simp; omega)) (fun q' c2 w5 hr5 hs5 hk5 hb5 => hK _ _ ?_)
        case hcells =>
          intro j u hu
          rcases j with _ | j
          · simp at hu; subst hu; go_simp
          · simp at hu
        case hrep => exact ⟨_, rfl, (HS.out.keeps (HKG.out.trans (by repeat (first | with_reducible assumption | with_reducible exact Keeps.refl _ _ | with_reducible refine Keeps.drew ?_ | with_reducible refine Keeps.drewN ?_ _ | with_reducible refine Keeps.alloc ?_ _ | with_reducible refine Keeps.setCell ?_ ?_ _ | omega | focus (simp; done) | focus (simp; omega))))).imp (fun b _ hb => ⟨hb, .inl (by omega)⟩)⟩
        refine step_and (SameTo.keeps (by repeat (first | with_reducible assumption | (with_reducible refine SameTo.refl ?_) | with_reducible refine SameTo.drew ?_ | with_reducible refine SameTo.alloc ?_ _ | (with_reducible refine SameTo.setCell ?_ ?_ _) | (refine SameTo.below ?_ (by with_reducible assumption)) | omega | exact Nat.le_refl _ | focus (simp; done) | focus (simp; omega))) hk5) (fun _ => ?_)
        rw [show ((List.range k).map (fun i => ((y0 :: y1 :: y2 :: y3 :: rest).drop (20 + 16 * i)).take 16)).length = k by simp] at hr5
        have hL5 : w5.cell? ⟨Y, 4, none⟩ = some (.slice p k c') := hk5.cell lL (by go_simp)
        have hf5 : w5.frozen? ⟨Y, 4, none⟩ = false := hk5.frozen lL (by first | omega | (simp; omega)) (by go_simp)
        have l5 : Y < w5.heap.size := World.block_lt_of_cell? _ _ hL5
        have H5 := Lib.hid (HF.out.step (w5 := w5) (fun b hb => by omega) (show Below wr.heap.size wr _ from (by have h0 := Below.refl wr.heap.size wr; exact (by repeat (first | with_reducible assumption | with_reducible refine Below.drew ?_ | with_reducible refine below_drewN' ?_ _ | with_reducible refine Below.alloc ?_ ?_ _ | with_reducible refine Below.setCell ?_ ?_ _ | with_reducible exact Nat.le_refl _ | omega | focus (simp; done) | focus (simp; omega))))) hr5 hs5 hk5 hb5)
        clear hr5 hs5 hk5 hb5
        repeat
          first | refine lexO_pass rfl ?_ | (refine lexO_take2 ?_ rfl (by kernel_rfl) (by with_reducible assumption) (fun w' hS K Q' hK => ?_) ?_; rotate_left; focus (have hS2 := hS.2; clear hS; go_wp2_with fail; exact hK))
        refine lexO_do rfl (fun K hK => ?_) lexO_stop
        go_wp2_with fail
        first | refine step_last (by decide) (lexO_done ?_) | refine lexO_done ?_
        go_wp2_with fail
        go_roundw
        case rel => exact ⟨k + 1, hlt, by omega, by go_num, _, by have := H5.out; rwa [range_snoc] at this⟩
        case measure => simp [intOf]; omega
      · have hft : (n : Int) < 20 + (k : Int) * 16 + 16 := by omega
        go_wp2_with (first | (go_at_call 152; refine trunc_c.mono ?_; rintro e w' ⟨rfl, rfl⟩) | (go_at_call 38; refine new_c.mono ?_; rintro e w' ⟨rfl, rfl⟩))
        refine bodyPost_ret (v := .tuple #[.int .i64 (20 + (k : Int) * 16), .iface 201 (.pointer (some ⟨wr.heap.size, 0, none⟩))]) (by simp only [results, Tryz.results113]; go_simp) rfl ?_
        have hbW : Below Y w wr := HF.out.below _ _ (Nat.le_refl _) HK.out.2
        exact ⟨(by repeat (first | with_reducible assumption | with_reducible refine Below.drew ?_ | with_reducible refine below_drewN' ?_ _ | with_reducible refine Below.alloc ?_ ?_ _ | with_reducible refine Below.setCell ?_ ?_ _ | with_reducible exact Nat.le_refl _ | omega | focus (simp; done) | focus (simp; omega))), .inr ⟨by omega, _, _, rfl⟩⟩
    · obtain rfl : k = N := by omega
      have hat : ¬ (k : Int) < (k : Int) := by omega
      by_cases hfit : T ≤ n
      · have hft : ¬ (n : Int) < (T : Int) := by omega
        have hfc : (T : Int) ≤ (c : Int) := by omega
        have hlo : 20 + (k : Int) * 16 ≤ (T : Int) := by omega
        obtain ⟨A6, hA6⟩ : ∃ A, (if c = 20 + k * 16 then some (⟨g, o, none⟩ : Addr) else some ⟨g, o + (20 + k * 16), none⟩) = A := ⟨_, rfl⟩
        have hS : SB w (· < B) (.slice A6 (T - (20 + k * 16)) (c - (20 + k * 16))) (((y0 :: y1 :: y2 :: y3 :: rest).drop (20 + 16 * k)).take (4 * y1.toNat)) := by
          have := SB.from (lo := 20 + k * 16) (hi := T) (A := A6) HR.out (by omega) (by have := HN.out; simp at *; omega) (by have := HN.out; simp at *; omega) hm hA6
          rw [show 20 + 16 * k = 20 + k * 16 by omega, show 4 * y1.toNat = T - (20 + k * 16) by omega]
          exact this
        have HS := Lib.hid hS
        clear hS
        go_wp2_with fail
        refine bodyPost_ret (v := .tuple #[.int .i64 (T : Int), .nilIface]) (by simp only [results, Tryz.results113]; go_simp) rfl ?_
        have hF := HF.out
        have hbW : Below Y w wr := hF.below _ _ (Nat.le_refl _) HK.out.2
        have hk6 : Keeps (· ≠ Y) wr (wr.setCell ⟨Y, 5, none⟩ (.slice A6 (T - (20 + k * 16)) (c - (20 + k * 16)))) := (Keeps.refl _ _).setCell (fun h => h rfl) _
        have hc : ∀ j u, j ≠ 4 → j ≠ 5 → W.cell? ⟨Y, j, none⟩ = some u → (wr.setCell ⟨Y, 5, none⟩ (.slice A6 (T - (20 + k * 16)) (c - (20 + k * 16)))).cell? ⟨Y, j, none⟩ = some u := fun j u hj hj5 hu => by
          rw [World.cell?_setCell_other _ _ _ _ (by first | (simp; done) | (simp; omega))]
          exact hF.other j u hj hu
        have hTT : 20 + 16 * (k : Int) + 4 * y1 = (T : Int) := by omega
        have hsB : ∀ v bs, SB w (· < B) v bs → SB (wr.setCell ⟨Y, 5, none⟩ (.slice A6 (T - (20 + k * 16)) (c - (20 + k * 16)))) (· < B) v bs := fun v bs hv => hv.keeps (HKG.out.trans (hk6.imp (fun b hb => by omega)))
        refine ⟨(by repeat (first | with_reducible assumption | with_reducible refine Below.drew ?_ | with_reducible refine below_drewN' ?_ _ | with_reducible refine Below.alloc ?_ ?_ _ | with_reducible refine Below.setCell ?_ ?_ _ | with_reducible exact Nat.le_refl _ | omega | focus (simp; done) | focus (simp; omega))), .inl ⟨by omega, by rw [hTT], hc 0 _ (by decide) (by decide) lc0, hc 1 _ (by decide) (by decide) lc1, hc 2 _ (by decide) (by decide) lc2, ⟨_, hc 3 _ (by decide) (by decide) lc3, hsB _ _ HD.out⟩, ⟨_, by go_simp, (hF.rows.keeps (hk6.imp (fun b hb => by omega))).imp (by omega) (fun _ _ h => h)⟩, _, by go_simp, hsB _ _ HS.out⟩⟩
      · have hft : (n : Int) < (T : Int) := by omega
        go_wp2_with (go_at_call 38; refine new_c.mono ?_; rintro e w' ⟨rfl, rfl⟩)
        refine bodyPost_ret (v := .tuple #[.int .i64 (20 + (k : Int) * 16), .iface 201 (.pointer (some ⟨wr.heap.size, 0, none⟩))]) (by simp only [results, Tryz.results113]; go_simp) rfl ?_
        have hbW : Below Y w wr := HF.out.below _ _ (Nat.le_refl _) HK.out.2
        exact ⟨(by repeat (first | with_reducible assumption | with_reducible refine Below.drew ?_ | with_reducible refine below_drewN' ?_ _ | with_reducible refine Below.alloc ?_ ?_ _ | with_reducible refine Below.setCell ?_ ?_ _ | with_reducible exact Nat.le_refl _ | omega | focus (simp; done) | focus (simp; omega))), .inr ⟨by omega, _, _, rfl⟩⟩
end Go.Proofs.YtmpifdanfnebpaaGreat
