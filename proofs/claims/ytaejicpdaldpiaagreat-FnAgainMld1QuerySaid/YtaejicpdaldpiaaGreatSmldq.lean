/-
  spec.Read of mld1query.
-/
import Derived.Test.YtaejicpdaldpiaaGreatLaw
import Derived.Test.YtaejicpdaldpiaaGreatDmldq
namespace Go.Proofs.YtaejicpdaldpiaaGreat
open Go Go.RowKit

set_option maxRecDepth 100000 in
set_option maxHeartbeats 1000000 in
theorem spec_mldq_short {p : Option Addr} {n c : Nat} {w : World} (hn : n < 20) :
    Calls Tryz.prog 17 #[.string ⟨#[109, 108, 100, 49, 113, 117, 101, 114, 121]⟩, .slice p n c] w fun e w' =>
      e = .returned (.tuple #[zlay, .bool false, .bool true]) ∧ Below w.heap.size w w' := by
  go_enter Tryz.func17, Tryz.ntmps17
  go_wp2_with (go_at_call 22; refine (least_mld1query _).mono ?_; rintro e1 w1 ⟨rfl, hb1⟩)
  obtain ⟨r0, r1, r2, r3⟩ := cells4 hb1
  obtain ⟨f0, f1, f2, f3⟩ := frozen4 hb1
  have lw := size_new hb1
  have HB := Lib.hid hb1
  clear hb1
  go_wp2_with (go_at_call 23; refine none_c.mono ?_; rintro e w' ⟨rfl, rfl⟩)
  refine bodyPost_ret (v := .tuple #[zlay, .bool false, .bool true]) (by simp only [results, Tryz.results17]; go_simp) rfl ?_
  have h0 := below_new HB.out
  exact ⟨rfl, (by repeat (first | with_reducible assumption | with_reducible refine Below.drew ?_ | with_reducible refine below_drewN' ?_ _ | with_reducible refine Below.alloc ?_ ?_ _ | with_reducible refine Below.setCell ?_ ?_ _ | with_reducible exact Nat.le_refl _ | omega | focus (simp; done) | focus (simp; omega)))⟩

set_option maxRecDepth 100000 in
set_option maxHeartbeats 1000000 in
theorem spec_mldq {g o n c : Nat} (x0 x1 x2 x3 x4 x5 x6 x7 x8 x9 x10 x11 x12 x13 x14 x15 x16 x17 x18 x19 : Int) {rest : List Int} {w : World} (hn : n = rest.length + 20) (hc : n ≤ c) (hm : c ≤ 9223372036854775807)
    (hb : ∀ z ∈ [x0, x1, x2, x3, x4, x5, x6, x7, x8, x9, x10, x11, x12, x13, x14, x15, x16, x17, x18, x19], 0 ≤ z ∧ z ≤ 255) (hr : RowAt w (fun _ => True) (some ⟨g, o, none⟩) ((x0 :: x1 :: x2 :: x3 :: x4 :: x5 :: x6 :: x7 :: x8 :: x9 :: x10 :: x11 :: x12 :: x13 :: x14 :: x15 :: x16 :: x17 :: x18 :: x19 :: rest).map (.int .u8))) :
    Calls Tryz.prog 17 #[.string ⟨#[109, 108, 100, 49, 113, 117, 101, 114, 121]⟩, .slice (some ⟨g, o, none⟩) n c] w fun e w' =>
      ∃ v, e = .returned (.tuple #[v, .bool true, .bool true]) ∧ LayIs w' v ⟨[(x0 * 256 + x1) * 1000000], [[x4, x5, x6, x7, x8, x9, x10, x11, x12, x13, x14, x15, x16, x17, x18, x19]], [], rest⟩ ∧ Below w.heap.size w w' := by
  have hnm : 20 ≤ n := by omega
  have b2 : (2 : Int) ≤ (c : Int) := by omega
  have b4 : (4 : Int) ≤ (c : Int) := by omega
  have b20 : (20 : Int) ≤ (c : Int) := by omega
  have e2 : ¬ (c = 2) := by omega
  have e4 : ¬ (c = 4) := by omega
  have HN := Lib.hid hn
  clear hn
  have HR := Lib.hid hr
  obtain ⟨A20, hA20⟩ : ∃ A, (if c = 20 then some (⟨g, o, none⟩ : Addr) else some ⟨g, o + 20, none⟩) = A := ⟨_, rfl⟩
  have hP := SB.tail (n := n) hr (by simpa using HN.out) hnm hc hm hA20
  have HD := Lib.hid (show SB w (fun _ => True) (.slice (some ⟨g, o + 4, none⟩) 16 (c - 4)) [x4, x5, x6, x7, x8, x9, x10, x11, x12, x13, x14, x15, x16, x17, x18, x19] from SB.from (lo := 4) (hi := 20) hr (by omega) (by simp) (by have := HN.out; simp; omega) hm (by rw [if_neg (by omega)]))
  obtain ⟨hg, hcell⟩ := rowCells hr (by simp)
  have c0 := hcell 0 _ (by simp; rfl)
  have c1 := hcell 1 _ (by simp; rfl)
  rw [Nat.add_zero] at c0
  have h0 := hb x0 (by simp)
  have h1 := hb x1 (by simp)
  have HP := Lib.hid hP
  clear hP
  clear hr hcell hb
  go_enter Tryz.func17, Tryz.ntmps17
  go_wp2_with (go_at_call 22; refine (least_mld1query _).mono ?_; rintro e1 w1 ⟨rfl, hb1⟩)
  obtain ⟨r0, r1, r2, r3⟩ := cells4 hb1
  obtain ⟨f0, f1, f2, f3⟩ := frozen4 hb1
  have lw := size_new hb1
  have lw1 : w.heap.size < w1.heap.size + 1 := by omega
  have lw2 : w.heap.size < w1.heap.size + 1 + 1 := by omega
  have lw3 : w.heap.size < w1.heap.size + 1 + 1 + 1 := by omega
  have k0 := cell_keep hb1 c0
  have k1 := cell_keep hb1 c1
  have lg : g < w1.heap.size := by omega
  have HB := Lib.hid hb1
  clear hb1 c0 c1 hg
  go_wp2_with fail
  go_wp2_with (first | (go_at_call 25; refine (number2_c x0 x1 h0 h1 (by go_simp) (by go_simp)).mono ?_; rintro e w' ⟨rfl, rfl⟩) | (go_at_call 24; refine whole_c.mono ?_; rintro e w' ⟨rfl, rfl⟩))
  refine bodyPost_ret (v := .tuple #[.agg #[.slice (some ⟨w1.heap.size, 0, none⟩) 1 1, .slice (some ⟨w1.heap.size + 3, 0, none⟩) 1 1, .slice none 0 0, .slice A20 (n - 20) (c - 20)], .bool true, .bool true]) (by simp only [results, Tryz.results17]; go_simp) rfl ?_
  have q0 := below_new HB.out
  have q1 : Keeps (fun b => b < w.heap.size) w w1 := Keeps.of_below q0
  refine ⟨_, rfl, ⟨_, _, _, _, rfl, IsSl.block (cs := #[.int .u64 ((x0 * 256 + x1) * 1000000)]) (e := 39) (f := (0, 0)) (by (try simp only [heap_drew]); repeat (first | (with_reducible refine heap_last ?_; focus (simp; done)) | with_reducible refine heap_past ?_ | (with_reducible refine heap_set ?_ ?_; focus (first | omega | (simp; done) | (simp; omega))) | with_reducible assumption)) trivial (by omega), SD.one (v := .slice (some ⟨g, o + 4, none⟩) 16 (c - 4)) (e := 22) (f := (0, 0)) (by (try simp only [heap_drew]); repeat (first | (with_reducible refine heap_last ?_; focus (simp; done)) | with_reducible refine heap_past ?_ | (with_reducible refine heap_set ?_ ?_; focus (first | omega | (simp; done) | (simp; omega))) | with_reducible assumption)) trivial (((HD.out.imp (fun b hb _ => hb : ∀ b, b < w.heap.size → True → b < w.heap.size)).keeps (by repeat (first | with_reducible assumption | with_reducible exact Keeps.refl _ _ | with_reducible refine Keeps.drew ?_ | with_reducible refine Keeps.drewN ?_ _ | with_reducible refine Keeps.alloc ?_ _ | with_reducible refine Keeps.setCell ?_ ?_ _ | omega | focus (simp; done) | focus (simp; omega)))).imp (fun _ _ _ => trivial)), SP.nil _ _, (((HP.out.imp (fun b hb _ => hb : ∀ b, b < w.heap.size → True → b < w.heap.size)).keeps (by repeat (first | with_reducible assumption | with_reducible exact Keeps.refl _ _ | with_reducible refine Keeps.drew ?_ | with_reducible refine Keeps.drewN ?_ _ | with_reducible refine Keeps.alloc ?_ _ | with_reducible refine Keeps.setCell ?_ ?_ _ | omega | focus (simp; done) | focus (simp; omega)))).imp (fun _ _ _ => trivial))⟩, (by repeat (first | with_reducible assumption | with_reducible refine Below.drew ?_ | with_reducible refine below_drewN' ?_ _ | with_reducible refine Below.alloc ?_ ?_ _ | with_reducible refine Below.setCell ?_ ?_ _ | with_reducible exact Nat.le_refl _ | omega | focus (simp; done) | focus (simp; omega)))⟩

set_option maxHeartbeats 2000000 in
theorem specOf_mldq {bs : List Int} (hb : ∀ z ∈ bs, 0 ≤ z ∧ z ≤ 255) : SpecOf (.string ⟨#[109, 108, 100, 49, 113, 117, 101, 114, 121]⟩) bs (some (dMldq bs)) := by
  intro v w h
  obtain ⟨p, c, rfl, hnc, hc, hp, hr⟩ := h
  match bs, hb, hnc, hr with
  | x0 :: x1 :: x2 :: x3 :: x4 :: x5 :: x6 :: x7 :: x8 :: x9 :: x10 :: x11 :: x12 :: x13 :: x14 :: x15 :: x16 :: x17 :: x18 :: x19 :: rest, hb, hnc, hr =>
    rcases hr with h | ⟨b, o, rfl, h1, h2, h3⟩
    · simp at h
    · refine (spec_mldq x0 x1 x2 x3 x4 x5 x6 x7 x8 x9 x10 x11 x12 x13 x14 x15 x16 x17 x18 x19 (rest := rest) (by simp) hnc hc (fun z hz => hb z (List.mem_append_left rest hz)) (.inr ⟨b, o, rfl, h1, h2, h3⟩)).mono ?_
      rintro e w' ⟨v, he, hi, hb⟩
      exact ⟨hb, v, _, hi, .inr (.inr ⟨rfl, he⟩)⟩
  | [], _, _, _ => exact (spec_mldq_short (by simp)).mono fun e w' h => ⟨h.2, _, _, layIs_zlay _, .inr (.inl ⟨rfl, h.1⟩)⟩
  | [_], _, _, _ => exact (spec_mldq_short (by simp)).mono fun e w' h => ⟨h.2, _, _, layIs_zlay _, .inr (.inl ⟨rfl, h.1⟩)⟩
  | [_, _], _, _, _ => exact (spec_mldq_short (by simp)).mono fun e w' h => ⟨h.2, _, _, layIs_zlay _, .inr (.inl ⟨rfl, h.1⟩)⟩
  | [_, _, _], _, _, _ => exact (spec_mldq_short (by simp)).mono fun e w' h => ⟨h.2, _, _, layIs_zlay _, .inr (.inl ⟨rfl, h.1⟩)⟩
  | [_, _, _, _], _, _, _ => exact (spec_mldq_short (by simp)).mono fun e w' h => ⟨h.2, _, _, layIs_zlay _, .inr (.inl ⟨rfl, h.1⟩)⟩
  | [_, _, _, _, _], _, _, _ => exact (spec_mldq_short (by simp)).mono fun e w' h => ⟨h.2, _, _, layIs_zlay _, .inr (.inl ⟨rfl, h.1⟩)⟩
  | [_, _, _, _, _, _], _, _, _ => exact (spec_mldq_short (by simp)).mono fun e w' h => ⟨h.2, _, _, layIs_zlay _, .inr (.inl ⟨rfl, h.1⟩)⟩
  | [_, _, _, _, _, _, _], _, _, _ => exact (spec_mldq_short (by simp)).mono fun e w' h => ⟨h.2, _, _, layIs_zlay _, .inr (.inl ⟨rfl, h.1⟩)⟩
  | [_, _, _, _, _, _, _, _], _, _, _ => exact (spec_mldq_short (by simp)).mono fun e w' h => ⟨h.2, _, _, layIs_zlay _, .inr (.inl ⟨rfl, h.1⟩)⟩
  | [_, _, _, _, _, _, _, _, _], _, _, _ => exact (spec_mldq_short (by simp)).mono fun e w' h => ⟨h.2, _, _, layIs_zlay _, .inr (.inl ⟨rfl, h.1⟩)⟩
  | [_, _, _, _, _, _, _, _, _, _], _, _, _ => exact (spec_mldq_short (by simp)).mono fun e w' h => ⟨h.2, _, _, layIs_zlay _, .inr (.inl ⟨rfl, h.1⟩)⟩
  | [_, _, _, _, _, _, _, _, _, _, _], _, _, _ => exact (spec_mldq_short (by simp)).mono fun e w' h => ⟨h.2, _, _, layIs_zlay _, .inr (.inl ⟨rfl, h.1⟩)⟩
  | [_, _, _, _, _, _, _, _, _, _, _, _], _, _, _ => exact (spec_mldq_short (by simp)).mono fun e w' h => ⟨h.2, _, _, layIs_zlay _, .inr (.inl ⟨rfl, h.1⟩)⟩
  | [_, _, _, _, _, _, _, _, _, _, _, _, _], _, _, _ => exact (spec_mldq_short (by simp)).mono fun e w' h => ⟨h.2, _, _, layIs_zlay _, .inr (.inl ⟨rfl, h.1⟩)⟩
  | [_, _, _, _, _, _, _, _, _, _, _, _, _, _], _, _, _ => exact (spec_mldq_short (by simp)).mono fun e w' h => ⟨h.2, _, _, layIs_zlay _, .inr (.inl ⟨rfl, h.1⟩)⟩
  | [_, _, _, _, _, _, _, _, _, _, _, _, _, _, _], _, _, _ => exact (spec_mldq_short (by simp)).mono fun e w' h => ⟨h.2, _, _, layIs_zlay _, .inr (.inl ⟨rfl, h.1⟩)⟩
  | [_, _, _, _, _, _, _, _, _, _, _, _, _, _, _, _], _, _, _ => exact (spec_mldq_short (by simp)).mono fun e w' h => ⟨h.2, _, _, layIs_zlay _, .inr (.inl ⟨rfl, h.1⟩)⟩
  | [_, _, _, _, _, _, _, _, _, _, _, _, _, _, _, _, _], _, _, _ => exact (spec_mldq_short (by simp)).mono fun e w' h => ⟨h.2, _, _, layIs_zlay _, .inr (.inl ⟨rfl, h.1⟩)⟩
  | [_, _, _, _, _, _, _, _, _, _, _, _, _, _, _, _, _, _], _, _, _ => exact (spec_mldq_short (by simp)).mono fun e w' h => ⟨h.2, _, _, layIs_zlay _, .inr (.inl ⟨rfl, h.1⟩)⟩
  | [_, _, _, _, _, _, _, _, _, _, _, _, _, _, _, _, _, _, _], _, _, _ => exact (spec_mldq_short (by simp)).mono fun e w' h => ⟨h.2, _, _, layIs_zlay _, .inr (.inl ⟨rfl, h.1⟩)⟩
end Go.Proofs.YtaejicpdaldpiaaGreat
