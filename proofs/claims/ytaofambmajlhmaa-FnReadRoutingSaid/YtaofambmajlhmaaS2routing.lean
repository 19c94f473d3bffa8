/-
  spec.routing, bytes that are none; laws.read of routing6.
-/
import Derived.Test.YtaofambmajlhmaaSrouting
import Derived.Test.YtaofambmajlhmaaHelp
import Derived.Test.YtaofambmajlhmaaD2routing
namespace Go.Proofs.Ytaofambmajlhmaa
open Go Go.RowKit

set_option maxRecDepth 100000 in
set_option maxHeartbeats 1000000 in
theorem routing_n1 {g o n c R : Nat} (x0 x1 x2 x3 x4 x5 x6 x7 : Int) {rest : List Int} {w : World} (hn : n = rest.length + 8) (hx2 : ¬ x2 = 0)
    (hb : ∀ z ∈ [x0, x1, x2, x3, x4, x5, x6, x7], 0 ≤ z ∧ z ≤ 255) (hr : RowAt w (fun b => b ≠ R) (some ⟨g, o, none⟩) ((x0 :: x1 :: x2 :: x3 :: x4 :: x5 :: x6 :: x7 :: rest).map (.int .u8))) :
    Calls Try.prog 28 #[.slice (some ⟨g, o, none⟩) n c] w fun e w' => e = .returned (.tuple #[zlay, .bool false, .bool true]) ∧ Below w.heap.size w w' := by
  have hnm : 8 ≤ n := by omega
  obtain ⟨hg, hcell⟩ := rowCells hr (by simp)
  have c0 := hcell 0 _ (by simp; rfl)
  have c1 := hcell 1 _ (by simp; rfl)
  have c2 := hcell 2 _ (by simp; rfl)
  rw [Nat.add_zero] at c0
  have h1 := hb x1 (by simp)
  have hxb : (x2 != 0) = true := by simp [hx2]
  have HX2 := Lib.hid hx2
  clear hx2
  have HN := Lib.hid hn
  clear hn hr hcell hb
  have lg1 : g < w.heap.size + 1 := by omega
  have lg2 : g < w.heap.size + 1 + 1 := by omega
  go_enter Try.func28, Try.ntmps28
  go_wp2_with (go_at_call 25; refine none_c.mono ?_; rintro e w' ⟨rfl, rfl⟩)
  refine bodyPost_ret (v := .tuple #[zlay, .bool false, .bool true]) (by simp only [results, Try.results28]; go_simp) rfl ?_
  have h0 := Below.refl w.heap.size w
  exact ⟨rfl, (by repeat (first | with_reducible assumption | with_reducible refine Below.drew ?_ | with_reducible refine Below.alloc ?_ ?_ _ | with_reducible refine Below.setCell ?_ ?_ _ | with_reducible exact Nat.le_refl _ | omega | focus (simp; done) | focus (simp; omega)))⟩

set_option maxRecDepth 100000 in
set_option maxHeartbeats 1000000 in
theorem routing_n2 {g o n c R : Nat} (x0 x1 x2 x3 x4 x5 x6 x7 : Int) {rest : List Int} {w : World} (hn : n = rest.length + 8) (hx2 : x2 = 0) (hx1 : ¬ x1 % 2 = 0)
    (hb : ∀ z ∈ [x0, x1, x2, x3, x4, x5, x6, x7], 0 ≤ z ∧ z ≤ 255) (hr : RowAt w (fun b => b ≠ R) (some ⟨g, o, none⟩) ((x0 :: x1 :: x2 :: x3 :: x4 :: x5 :: x6 :: x7 :: rest).map (.int .u8))) :
    Calls Try.prog 28 #[.slice (some ⟨g, o, none⟩) n c] w fun e w' => e = .returned (.tuple #[zlay, .bool false, .bool true]) ∧ Below w.heap.size w w' := by
  have hnm : 8 ≤ n := by omega
  obtain ⟨hg, hcell⟩ := rowCells hr (by simp)
  have c0 := hcell 0 _ (by simp; rfl)
  have c1 := hcell 1 _ (by simp; rfl)
  have c2 := hcell 2 _ (by simp; rfl)
  rw [Nat.add_zero] at c0
  have h1 := hb x1 (by simp)
  have hxb : (x2 != 0) = false := by simp [hx2]
  have hyb : (x1 % 2 == 1) = true := by simp; omega
  have HX2 := Lib.hid hx2
  have HX1 := Lib.hid hx1
  clear hx2 hx1
  have HN := Lib.hid hn
  clear hn hr hcell hb
  have lg1 : g < w.heap.size + 1 := by omega
  have lg2 : g < w.heap.size + 1 + 1 := by omega
  go_enter Try.func28, Try.ntmps28
  go_wp2_with (go_at_call 25; refine none_c.mono ?_; rintro e w' ⟨rfl, rfl⟩)
  refine bodyPost_ret (v := .tuple #[zlay, .bool false, .bool true]) (by simp only [results, Try.results28]; go_simp) rfl ?_
  have h0 := Below.refl w.heap.size w
  exact ⟨rfl, (by repeat (first | with_reducible assumption | with_reducible refine Below.drew ?_ | with_reducible refine Below.alloc ?_ ?_ _ | with_reducible refine Below.setCell ?_ ?_ _ | with_reducible exact Nat.le_refl _ | omega | focus (simp; done) | focus (simp; omega)))⟩

set_option maxRecDepth 100000 in
set_option maxHeartbeats 1000000 in
theorem routing_n3 {g o n c R : Nat} (x0 x1 x2 x3 x4 x5 x6 x7 : Int) {rest : List Int} {w : World} (hn : n = rest.length + 8) (hx2 : x2 = 0) (hx1 : x1 % 2 = 0) (hmn : (n : Int) < 8 * (x1 + 1))
    (hb : ∀ z ∈ [x0, x1, x2, x3, x4, x5, x6, x7], 0 ≤ z ∧ z ≤ 255) (hr : RowAt w (fun b => b ≠ R) (some ⟨g, o, none⟩) ((x0 :: x1 :: x2 :: x3 :: x4 :: x5 :: x6 :: x7 :: rest).map (.int .u8))) :
    Calls Try.prog 28 #[.slice (some ⟨g, o, none⟩) n c] w fun e w' => e = .returned (.tuple #[zlay, .bool false, .bool true]) ∧ Below w.heap.size w w' := by
  have hnm : 8 ≤ n := by omega
  obtain ⟨hg, hcell⟩ := rowCells hr (by simp)
  have c0 := hcell 0 _ (by simp; rfl)
  have c1 := hcell 1 _ (by simp; rfl)
  have c2 := hcell 2 _ (by simp; rfl)
  rw [Nat.add_zero] at c0
  have h1 := hb x1 (by simp)
  have hxb : (x2 != 0) = false := by simp [hx2]
  have hyb : (x1 % 2 == 1) = false := by simp; omega
  have HX2 := Lib.hid hx2
  have HX1 := Lib.hid hx1
  clear hx2 hx1
  have HN := Lib.hid hn
  clear hn hr hcell hb
  have lg1 : g < w.heap.size + 1 := by omega
  have lg2 : g < w.heap.size + 1 + 1 := by omega
  go_enter Try.func28, Try.ntmps28
  go_wp2_with (go_at_call 25; refine none_c.mono ?_; rintro e w' ⟨rfl, rfl⟩)
  refine bodyPost_ret (v := .tuple #[zlay, .bool false, .bool true]) (by simp only [results, Try.results28]; go_simp) rfl ?_
  have h0 := Below.refl w.heap.size w
  exact ⟨rfl, (by repeat (first | with_reducible assumption | with_reducible refine Below.drew ?_ | with_reducible refine Below.alloc ?_ ?_ _ | with_reducible refine Below.setCell ?_ ?_ _ | with_reducible exact Nat.le_refl _ | omega | focus (simp; done) | focus (simp; omega)))⟩

theorem layOn_zlay (w : World) (ok : Nat → Prop) : LayOn w ok zlay ⟨[], [], [], []⟩ := ⟨_, _, _, _, rfl, SN.nil _ _, SD.nil _ _, SP.nil _ _, SB.nil _ _⟩

theorem helpOf_routing {bs : List Int} (hb : ∀ z ∈ bs, 0 ≤ z ∧ z ≤ 255) (h8 : 8 ≤ bs.length) : HelpOf 28 bs (some (dRouting bs)) := by
  intro R v w hR h
  obtain ⟨p, c, rfl, hnc, hc, hp, hr⟩ := h
  obtain ⟨x0, x1, x2, x3, x4, x5, x6, x7, rest, rfl⟩ := long8 h8
  rcases hr with h | ⟨b, o, rfl, g1, g2, g3⟩
  · simp at h
  · have h1 := hb x1 (by simp)
    have hb' : ∀ z ∈ [x0, x1, x2, x3, x4, x5, x6, x7], 0 ≤ z ∧ z ≤ 255 := fun z hz => hb z (List.mem_append_left rest hz)
    have hr' : RowAt w (fun b => b ≠ R) (some ⟨b, o, none⟩) ((x0 :: x1 :: x2 :: x3 :: x4 :: x5 :: x6 :: x7 :: rest).map (.int .u8)) := .inr ⟨b, o, rfl, g1, g2, g3⟩
    by_cases hx2 : x2 = 0
    · by_cases hx1 : x1 % 2 = 0
      · by_cases hm : x1 * 8 + 8 ≤ ((x0 :: x1 :: x2 :: x3 :: x4 :: x5 :: x6 :: x7 :: rest).length : Int)
        · rw [dRouting_yes (q := (x1 / 2).toNat) ⟨hx2, hx1, hm⟩ (by omega) rfl]
          refine (routing_yes x0 x1 x2 x3 x4 x5 x6 x7 (q := (x1 / 2).toNat) (rest := rest) (by simp) hnc hc (by omega) rfl (by simp only [List.length_cons] at hm ⊢; omega) hx2 hb' hR hr').mono ?_
          rintro e w' ⟨v, he, hi, hb⟩
          exact ⟨hb, v, _, hi, .inr (.inr ⟨rfl, he⟩)⟩
        · rw [dRouting_no (fun h => hm h.2.2)]
          exact (routing_n3 x0 x1 x2 x3 x4 x5 x6 x7 (rest := rest) (by simp) hx2 hx1 (by simp only [List.length_cons] at hm ⊢; omega) hb' hr').mono fun e w' h => ⟨h.2, _, _, layOn_zlay _ _, .inr (.inl ⟨rfl, h.1⟩)⟩
      · rw [dRouting_no (fun h => hx1 h.2.1)]
        exact (routing_n2 x0 x1 x2 x3 x4 x5 x6 x7 (rest := rest) (by simp) hx2 hx1 hb' hr').mono fun e w' h => ⟨h.2, _, _, layOn_zlay _ _, .inr (.inl ⟨rfl, h.1⟩)⟩
    · rw [dRouting_no (fun h => hx2 h.1)]
      exact (routing_n1 x0 x1 x2 x3 x4 x5 x6 x7 (rest := rest) (by simp) hx2 hb' hr').mono fun e w' h => ⟨h.2, _, _, layOn_zlay _ _, .inr (.inl ⟨rfl, h.1⟩)⟩
end Go.Proofs.Ytaofambmajlhmaa
