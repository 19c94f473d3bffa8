/-
  spec.Read of the kinds that have a reader of their own.
-/
import Derived.Test.YtmpifdanfnebpaaGreatLaw
import Derived.Test.YtmpifdanfnebpaaGreatParts
namespace Go.Proofs.YtmpifdanfnebpaaGreat
open Go Go.RowKit

/-- What a kind's own reader makes of bytes. -/
def HelpOf (f : FuncId) (bs : List Int) (D : Option (Option Lay)) : Prop :=
  ∀ (R : Nat) (v : Value) (w : World), R < w.heap.size → SB w (fun b => b ≠ R) v bs → Calls Tryz.prog f #[v] w fun e w' =>
    Below w.heap.size w w' ∧ ∃ u l, LayOn w' (fun b => b ≠ R) u l ∧ ((D = none ∧ ∃ ok, e = .returned (.tuple #[u, .bool ok, .bool false])) ∨ (D = some none ∧ e = .returned (.tuple #[u, .bool false, .bool true])) ∨
      (D = some (some l) ∧ e = .returned (.tuple #[u, .bool true, .bool true])))

set_option maxRecDepth 100000 in
set_option maxHeartbeats 1000000 in
theorem spec_routing_short {p : Option Addr} {n c : Nat} {w : World} (hn : n < 8) :
    Calls Tryz.prog 6 #[.string ⟨#[114, 111, 117, 116, 105, 110, 103, 54]⟩, .slice p n c] w fun e w' =>
      e = .returned (.tuple #[zlay, .bool false, .bool true]) ∧ Below w.heap.size w w' := by
  go_enter Tryz.func6, Tryz.ntmps6
  go_wp2_with (go_at_call 11; refine (least_routing6 _).mono ?_; rintro e1 w1 ⟨rfl, hb1⟩)
  obtain ⟨r0, r1, r2, r3⟩ := cells4 hb1
  obtain ⟨f0, f1, f2, f3⟩ := frozen4 hb1
  have lw := size_new hb1
  have HB := Lib.hid hb1
  clear hb1
  go_wp2_with (go_at_call 12; refine none_c.mono ?_; rintro e w' ⟨rfl, rfl⟩)
  refine bodyPost_ret (v := .tuple #[zlay, .bool false, .bool true]) (by simp only [results, Tryz.results6]; go_simp) rfl ?_
  have h0 := below_new HB.out
  exact ⟨rfl, (by repeat (first | with_reducible assumption | with_reducible refine Below.drew ?_ | with_reducible refine below_drewN' ?_ _ | with_reducible refine Below.alloc ?_ ?_ _ | with_reducible refine Below.setCell ?_ ?_ _ | with_reducible exact Nat.le_refl _ | omega | focus (simp; done) | focus (simp; omega)))⟩

set_option maxRecDepth 100000 in
set_option maxHeartbeats 1000000 in
theorem spec_routing_long {v : Value} {bs : List Int} {D : Option (Option Lay)} (hH : HelpOf 15 bs D) (hl : 8 ≤ bs.length) {w : World} (h : SB w (fun _ => True) v bs) :
    Calls Tryz.prog 6 #[.string ⟨#[114, 111, 117, 116, 105, 110, 103, 54]⟩, v] w fun e w' =>
      Below w.heap.size w w' ∧ ∃ u l, LayIs w' u l ∧ ((D = none ∧ ∃ ok, e = .returned (.tuple #[u, .bool ok, .bool false])) ∨ (D = some none ∧ e = .returned (.tuple #[u, .bool false, .bool true])) ∨
      (D = some (some l) ∧ e = .returned (.tuple #[u, .bool true, .bool true]))) := by
  have HS := Lib.hid h
  have HH := Lib.hid hH
  obtain ⟨p, c, rfl, -, -, -, -⟩ := h
  clear hH
  have hl' : ¬ (bs.length : Int) < 8 := by omega
  go_enter Tryz.func6, Tryz.ntmps6
  go_wp2_with (go_at_call 11; refine (least_routing6 _).mono ?_; rintro e1 w1 ⟨rfl, hb1⟩)
  obtain ⟨r0, r1, r2, r3⟩ := cells4 hb1
  obtain ⟨f0, f1, f2, f3⟩ := frozen4 hb1
  have lw := size_new hb1
  have HB := Lib.hid hb1
  clear hb1
  go_wp2_with fail
  have hs1 : SB w1 (fun b => b ≠ w.heap.size) (.slice p bs.length c) bs := (HS.out.imp (fun b hb _ => by omega : ∀ b, b < w.heap.size → True → b ≠ w.heap.size)).keeps (Keeps.of_below (below_new HB.out))
  refine (HH.out w.heap.size _ _ (by first | omega | (simp; omega)) (hs1.keeps (by repeat (first | with_reducible assumption | with_reducible exact Keeps.refl _ _ | with_reducible refine Keeps.drew ?_ | with_reducible refine Keeps.drewN ?_ _ | with_reducible refine Keeps.alloc ?_ _ | with_reducible refine Keeps.setCell ?_ ?_ _ | omega | focus (simp; done) | focus (simp; omega))))).mono ?_
  rintro e2 w2 ⟨hb2, u, l, hu, hD⟩
  obtain ⟨p1, n1, c1, p2, n2, c2, p3, n3, c3, p4, n4, c4, rfl, -⟩ := hu.agg
  have g0 := (hb2.cell (p := ⟨w.heap.size, 0, none⟩) (by first | omega | (simp; omega))).trans r0
  have g1 := (hb2.cell (p := ⟨w.heap.size, 1, none⟩) (by first | omega | (simp; omega))).trans r1
  have g2 := (hb2.cell (p := ⟨w.heap.size, 2, none⟩) (by first | omega | (simp; omega))).trans r2
  have g3 := (hb2.cell (p := ⟨w.heap.size, 3, none⟩) (by first | omega | (simp; omega))).trans r3
  have z0 := (hb2.frozen (p := ⟨w.heap.size, 0, none⟩) (by first | omega | (simp; omega))).trans f0
  have z1 := (hb2.frozen (p := ⟨w.heap.size, 1, none⟩) (by first | omega | (simp; omega))).trans f1
  have z2 := (hb2.frozen (p := ⟨w.heap.size, 2, none⟩) (by first | omega | (simp; omega))).trans f2
  have z3 := (hb2.frozen (p := ⟨w.heap.size, 3, none⟩) (by first | omega | (simp; omega))).trans f3
  have l2 := hb2.size
  have lw2 : w.heap.size < w2.heap.size := World.block_lt_of_cell? _ _ g0
  have HB2 := Lib.hid hb2
  have HU := Lib.hid hu
  clear hb2 hu hs1 r0 r1 r2 r3 f0 f1 f2 f3
  obtain ⟨hD, ok, rfl⟩ | ⟨hD, rfl⟩ | ⟨hD, rfl⟩ := hD
  all_goals have HD := Lib.hid hD
  all_goals clear hD
  all_goals go_wp2_with fail
  · refine bodyPost_ret (v := .tuple #[.agg #[.slice p1 n1 c1, .slice p2 n2 c2, .slice p3 n3 c3, .slice p4 n4 c4], .bool ok, .bool false]) (by simp only [results, Tryz.results6]; go_simp) rfl ?_
    have h0 : Below w.heap.size w w2 := below_next (below_new HB.out) HB2.out (by omega)
    have hu := HU.out
    exact ⟨(by repeat (first | with_reducible assumption | with_reducible refine Below.drew ?_ | with_reducible refine below_drewN' ?_ _ | with_reducible refine Below.alloc ?_ ?_ _ | with_reducible refine Below.setCell ?_ ?_ _ | with_reducible exact Nat.le_refl _ | omega | focus (simp; done) | focus (simp; omega))), _, _, (hu.keeps (by repeat (first | with_reducible assumption | with_reducible exact Keeps.refl _ _ | with_reducible refine Keeps.drew ?_ | with_reducible refine Keeps.drewN ?_ _ | with_reducible refine Keeps.alloc ?_ _ | with_reducible refine Keeps.setCell ?_ ?_ _ | omega | focus (simp; done) | focus (simp; omega)))).imp (fun _ _ _ => trivial), .inl ⟨HD.out, _, rfl⟩⟩
  · refine bodyPost_ret (v := .tuple #[.agg #[.slice p1 n1 c1, .slice p2 n2 c2, .slice p3 n3 c3, .slice p4 n4 c4], .bool false, .bool true]) (by simp only [results, Tryz.results6]; go_simp) rfl ?_
    have h0 : Below w.heap.size w w2 := below_next (below_new HB.out) HB2.out (by omega)
    have hu := HU.out
    exact ⟨(by repeat (first | with_reducible assumption | with_reducible refine Below.drew ?_ | with_reducible refine below_drewN' ?_ _ | with_reducible refine Below.alloc ?_ ?_ _ | with_reducible refine Below.setCell ?_ ?_ _ | with_reducible exact Nat.le_refl _ | omega | focus (simp; done) | focus (simp; omega))), _, _, (hu.keeps (by repeat (first | with_reducible assumption | with_reducible exact Keeps.refl _ _ | with_reducible refine Keeps.drew ?_ | with_reducible refine Keeps.drewN ?_ _ | with_reducible refine Keeps.alloc ?_ _ | with_reducible refine Keeps.setCell ?_ ?_ _ | omega | focus (simp; done) | focus (simp; omega)))).imp (fun _ _ _ => trivial), .inr (.inl ⟨HD.out, rfl⟩)⟩
  · refine bodyPost_ret (v := .tuple #[.agg #[.slice p1 n1 c1, .slice p2 n2 c2, .slice p3 n3 c3, .slice p4 n4 c4], .bool true, .bool true]) (by simp only [results, Tryz.results6]; go_simp) rfl ?_
    have h0 : Below w.heap.size w w2 := below_next (below_new HB.out) HB2.out (by omega)
    have hu := HU.out
    exact ⟨(by repeat (first | with_reducible assumption | with_reducible refine Below.drew ?_ | with_reducible refine below_drewN' ?_ _ | with_reducible refine Below.alloc ?_ ?_ _ | with_reducible refine Below.setCell ?_ ?_ _ | with_reducible exact Nat.le_refl _ | omega | focus (simp; done) | focus (simp; omega))), _, _, (hu.keeps (by repeat (first | with_reducible assumption | with_reducible exact Keeps.refl _ _ | with_reducible refine Keeps.drew ?_ | with_reducible refine Keeps.drewN ?_ _ | with_reducible refine Keeps.alloc ?_ _ | with_reducible refine Keeps.setCell ?_ ?_ _ | omega | focus (simp; done) | focus (simp; omega)))).imp (fun _ _ _ => trivial), .inr (.inr ⟨HD.out, rfl⟩)⟩

theorem specOf_routing {bs : List Int} {D : Option (Option Lay)} (hs : bs.length < 8 → D = some none) (hH : 8 ≤ bs.length → HelpOf 15 bs D) : SpecOf (.string ⟨#[114, 111, 117, 116, 105, 110, 103, 54]⟩) bs D := by
  intro v w h
  by_cases hl : 8 ≤ bs.length
  · exact spec_routing_long (hH hl) hl h
  · obtain ⟨p, c, rfl, -⟩ := h
    exact (spec_routing_short (by omega)).mono fun e w' h => ⟨h.2, _, _, layIs_zlay _, .inr (.inl ⟨hs (by omega), h.1⟩)⟩
set_option maxRecDepth 100000 in
set_option maxHeartbeats 1000000 in
theorem spec_query_short {p : Option Addr} {n c : Nat} {w : World} (hn : n < 24) :
    Calls Tryz.prog 6 #[.string ⟨#[109, 108, 100, 113, 117, 101, 114, 121, 50]⟩, .slice p n c] w fun e w' =>
      e = .returned (.tuple #[zlay, .bool false, .bool true]) ∧ Below w.heap.size w w' := by
  go_enter Tryz.func6, Tryz.ntmps6
  go_wp2_with (go_at_call 11; refine (least_mldquery2 _).mono ?_; rintro e1 w1 ⟨rfl, hb1⟩)
  obtain ⟨r0, r1, r2, r3⟩ := cells4 hb1
  obtain ⟨f0, f1, f2, f3⟩ := frozen4 hb1
  have lw := size_new hb1
  have HB := Lib.hid hb1
  clear hb1
  go_wp2_with (go_at_call 12; refine none_c.mono ?_; rintro e w' ⟨rfl, rfl⟩)
  refine bodyPost_ret (v := .tuple #[zlay, .bool false, .bool true]) (by simp only [results, Tryz.results6]; go_simp) rfl ?_
  have h0 := below_new HB.out
  exact ⟨rfl, (by repeat (first | with_reducible assumption | with_reducible refine Below.drew ?_ | with_reducible refine below_drewN' ?_ _ | with_reducible refine Below.alloc ?_ ?_ _ | with_reducible refine Below.setCell ?_ ?_ _ | with_reducible exact Nat.le_refl _ | omega | focus (simp; done) | focus (simp; omega)))⟩

set_option maxRecDepth 100000 in
set_option maxHeartbeats 1000000 in
theorem spec_query_long {v : Value} {bs : List Int} {D : Option (Option Lay)} (hH : HelpOf 16 bs D) (hl : 24 ≤ bs.length) {w : World} (h : SB w (fun _ => True) v bs) :
    Calls Tryz.prog 6 #[.string ⟨#[109, 108, 100, 113, 117, 101, 114, 121, 50]⟩, v] w fun e w' =>
      Below w.heap.size w w' ∧ ∃ u l, LayIs w' u l ∧ ((D = none ∧ ∃ ok, e = .returned (.tuple #[u, .bool ok, .bool false])) ∨ (D = some none ∧ e = .returned (.tuple #[u, .bool false, .bool true])) ∨
      (D = some (some l) ∧ e = .returned (.tuple #[u, .bool true, .bool true]))) := by
  have HS := Lib.hid h
  have HH := Lib.hid hH
  obtain ⟨p, c, rfl, -, -, -, -⟩ := h
  clear hH
  have hl' : ¬ (bs.length : Int) < 24 := by omega
  go_enter Tryz.func6, Tryz.ntmps6
  go_wp2_with (go_at_call 11; refine (least_mldquery2 _).mono ?_; rintro e1 w1 ⟨rfl, hb1⟩)
  obtain ⟨r0, r1, r2, r3⟩ := cells4 hb1
  obtain ⟨f0, f1, f2, f3⟩ := frozen4 hb1
  have lw := size_new hb1
  have HB := Lib.hid hb1
  clear hb1
  go_wp2_with fail
  have hs1 : SB w1 (fun b => b ≠ w.heap.size) (.slice p bs.length c) bs := (HS.out.imp (fun b hb _ => by omega : ∀ b, b < w.heap.size → True → b ≠ w.heap.size)).keeps (Keeps.of_below (below_new HB.out))
  refine (HH.out w.heap.size _ _ (by first | omega | (simp; omega)) (hs1.keeps (by repeat (first | with_reducible assumption | with_reducible exact Keeps.refl _ _ | with_reducible refine Keeps.drew ?_ | with_reducible refine Keeps.drewN ?_ _ | with_reducible refine Keeps.alloc ?_ _ | with_reducible refine Keeps.setCell ?_ ?_ _ | omega | focus (simp; done) | focus (simp; omega))))).mono ?_
  rintro e2 w2 ⟨hb2, u, l, hu, hD⟩
  obtain ⟨p1, n1, c1, p2, n2, c2, p3, n3, c3, p4, n4, c4, rfl, -⟩ := hu.agg
  have g0 := (hb2.cell (p := ⟨w.heap.size, 0, none⟩) (by first | omega | (simp; omega))).trans r0
  have g1 := (hb2.cell (p := ⟨w.heap.size, 1, none⟩) (by first | omega | (simp; omega))).trans r1
  have g2 := (hb2.cell (p := ⟨w.heap.size, 2, none⟩) (by first | omega | (simp; omega))).trans r2
  have g3 := (hb2.cell (p := ⟨w.heap.size, 3, none⟩) (by first | omega | (simp; omega))).trans r3
  have z0 := (hb2.frozen (p := ⟨w.heap.size, 0, none⟩) (by first | omega | (simp; omega))).trans f0
  have z1 := (hb2.frozen (p := ⟨w.heap.size, 1, none⟩) (by first | omega | (simp; omega))).trans f1
  have z2 := (hb2.frozen (p := ⟨w.heap.size, 2, none⟩) (by first | omega | (simp; omega))).trans f2
  have z3 := (hb2.frozen (p := ⟨w.heap.size, 3, none⟩) (by first | omega | (simp; omega))).trans f3
  have l2 := hb2.size
  have lw2 : w.heap.size < w2.heap.size := World.block_lt_of_cell? _ _ g0
  have HB2 := Lib.hid hb2
  have HU := Lib.hid hu
  clear hb2 hu hs1 r0 r1 r2 r3 f0 f1 f2 f3
  obtain ⟨hD, ok, rfl⟩ | ⟨hD, rfl⟩ | ⟨hD, rfl⟩ := hD
  all_goals have HD := Lib.hid hD
  all_goals clear hD
  all_goals go_wp2_with fail
  · refine bodyPost_ret (v := .tuple #[.agg #[.slice p1 n1 c1, .slice p2 n2 c2, .slice p3 n3 c3, .slice p4 n4 c4], .bool ok, .bool false]) (by simp only [results, Tryz.results6]; go_simp) rfl ?_
    have h0 : Below w.heap.size w w2 := below_next (below_new HB.out) HB2.out (by omega)
    have hu := HU.out
    exact ⟨(by repeat (first | with_reducible assumption | with_reducible refine Below.drew ?_ | with_reducible refine below_drewN' ?_ _ | with_reducible refine Below.alloc ?_ ?_ _ | with_reducible refine Below.setCell ?_ ?_ _ | with_reducible exact Nat.le_refl _ | omega | focus (simp; done) | focus (simp; omega))), _, _, (hu.keeps (by repeat (first | with_reducible assumption | with_reducible exact Keeps.refl _ _ | with_reducible refine Keeps.drew ?_ | with_reducible refine Keeps.drewN ?_ _ | with_reducible refine Keeps.alloc ?_ _ | with_reducible refine Keeps.setCell ?_ ?_ _ | omega | focus (simp; done) | focus (simp; omega)))).imp (fun _ _ _ => trivial), .inl ⟨HD.out, _, rfl⟩⟩
  · refine bodyPost_ret (v := .tuple #[.agg #[.slice p1 n1 c1, .slice p2 n2 c2, .slice p3 n3 c3, .slice p4 n4 c4], .bool false, .bool true]) (by simp only [results, Tryz.results6]; go_simp) rfl ?_
    have h0 : Below w.heap.size w w2 := below_next (below_new HB.out) HB2.out (by omega)
    have hu := HU.out
    exact ⟨(by repeat (first | with_reducible assumption | with_reducible refine Below.drew ?_ | with_reducible refine below_drewN' ?_ _ | with_reducible refine Below.alloc ?_ ?_ _ | with_reducible refine Below.setCell ?_ ?_ _ | with_reducible exact Nat.le_refl _ | omega | focus (simp; done) | focus (simp; omega))), _, _, (hu.keeps (by repeat (first | with_reducible assumption | with_reducible exact Keeps.refl _ _ | with_reducible refine Keeps.drew ?_ | with_reducible refine Keeps.drewN ?_ _ | with_reducible refine Keeps.alloc ?_ _ | with_reducible refine Keeps.setCell ?_ ?_ _ | omega | focus (simp; done) | focus (simp; omega)))).imp (fun _ _ _ => trivial), .inr (.inl ⟨HD.out, rfl⟩)⟩
  · refine bodyPost_ret (v := .tuple #[.agg #[.slice p1 n1 c1, .slice p2 n2 c2, .slice p3 n3 c3, .slice p4 n4 c4], .bool true, .bool true]) (by simp only [results, Tryz.results6]; go_simp) rfl ?_
    have h0 : Below w.heap.size w w2 := below_next (below_new HB.out) HB2.out (by omega)
    have hu := HU.out
    exact ⟨(by repeat (first | with_reducible assumption | with_reducible refine Below.drew ?_ | with_reducible refine below_drewN' ?_ _ | with_reducible refine Below.alloc ?_ ?_ _ | with_reducible refine Below.setCell ?_ ?_ _ | with_reducible exact Nat.le_refl _ | omega | focus (simp; done) | focus (simp; omega))), _, _, (hu.keeps (by repeat (first | with_reducible assumption | with_reducible exact Keeps.refl _ _ | with_reducible refine Keeps.drew ?_ | with_reducible refine Keeps.drewN ?_ _ | with_reducible refine Keeps.alloc ?_ _ | with_reducible refine Keeps.setCell ?_ ?_ _ | omega | focus (simp; done) | focus (simp; omega)))).imp (fun _ _ _ => trivial), .inr (.inr ⟨HD.out, rfl⟩)⟩

theorem specOf_query {bs : List Int} {D : Option (Option Lay)} (hs : bs.length < 24 → D = some none) (hH : 24 ≤ bs.length → HelpOf 16 bs D) : SpecOf (.string ⟨#[109, 108, 100, 113, 117, 101, 114, 121, 50]⟩) bs D := by
  intro v w h
  by_cases hl : 24 ≤ bs.length
  · exact spec_query_long (hH hl) hl h
  · obtain ⟨p, c, rfl, -⟩ := h
    exact (spec_query_short (by omega)).mono fun e w' h => ⟨h.2, _, _, layIs_zlay _, .inr (.inl ⟨hs (by omega), h.1⟩)⟩
set_option maxRecDepth 100000 in
set_option maxHeartbeats 1000000 in
theorem spec_report_short {p : Option Addr} {n c : Nat} {w : World} (hn : n < 4) :
    Calls Tryz.prog 6 #[.string ⟨#[109, 108, 100, 114, 101, 112, 111, 114, 116, 50]⟩, .slice p n c] w fun e w' =>
      e = .returned (.tuple #[zlay, .bool false, .bool true]) ∧ Below w.heap.size w w' := by
  go_enter Tryz.func6, Tryz.ntmps6
  go_wp2_with (go_at_call 11; refine (least_mldreport2 _).mono ?_; rintro e1 w1 ⟨rfl, hb1⟩)
  obtain ⟨r0, r1, r2, r3⟩ := cells4 hb1
  obtain ⟨f0, f1, f2, f3⟩ := frozen4 hb1
  have lw := size_new hb1
  have HB := Lib.hid hb1
  clear hb1
  go_wp2_with (go_at_call 12; refine none_c.mono ?_; rintro e w' ⟨rfl, rfl⟩)
  refine bodyPost_ret (v := .tuple #[zlay, .bool false, .bool true]) (by simp only [results, Tryz.results6]; go_simp) rfl ?_
  have h0 := below_new HB.out
  exact ⟨rfl, (by repeat (first | with_reducible assumption | with_reducible refine Below.drew ?_ | with_reducible refine below_drewN' ?_ _ | with_reducible refine Below.alloc ?_ ?_ _ | with_reducible refine Below.setCell ?_ ?_ _ | with_reducible exact Nat.le_refl _ | omega | focus (simp; done) | focus (simp; omega)))⟩

set_option maxRecDepth 100000 in
set_option maxHeartbeats 1000000 in
theorem spec_report_long {v : Value} {bs : List Int} {D : Option (Option Lay)} (hH : HelpOf 17 bs D) (hl : 4 ≤ bs.length) {w : World} (h : SB w (fun _ => True) v bs) :
    Calls Tryz.prog 6 #[.string ⟨#[109, 108, 100, 114, 101, 112, 111, 114, 116, 50]⟩, v] w fun e w' =>
      Below w.heap.size w w' ∧ ∃ u l, LayIs w' u l ∧ ((D = none ∧ ∃ ok, e = .returned (.tuple #[u, .bool ok, .bool false])) ∨ (D = some none ∧ e = .returned (.tuple #[u, .bool false, .bool true])) ∨
      (D = some (some l) ∧ e = .returned (.tuple #[u, .bool true, .bool true]))) := by
  have HS := Lib.hid h
  have HH := Lib.hid hH
  obtain ⟨p, c, rfl, -, -, -, -⟩ := h
  clear hH
  have hl' : ¬ (bs.length : Int) < 4 := by omega
  go_enter Tryz.func6, Tryz.ntmps6
  go_wp2_with (go_at_call 11; refine (least_mldreport2 _).mono ?_; rintro e1 w1 ⟨rfl, hb1⟩)
  obtain ⟨r0, r1, r2, r3⟩ := cells4 hb1
  obtain ⟨f0, f1, f2, f3⟩ := frozen4 hb1
  have lw := size_new hb1
  have HB := Lib.hid hb1
  clear hb1
  go_wp2_with fail
  have hs1 : SB w1 (fun b => b ≠ w.heap.size) (.slice p bs.length c) bs := (HS.out.imp (fun b hb _ => by omega : ∀ b, b < w.heap.size → True → b ≠ w.heap.size)).keeps (Keeps.of_below (below_new HB.out))
  refine (HH.out w.heap.size _ _ (by first | omega | (simp; omega)) (hs1.keeps (by repeat (first | with_reducible assumption | with_reducible exact Keeps.refl _ _ | with_reducible refine Keeps.drew ?_ | with_reducible refine Keeps.drewN ?_ _ | with_reducible refine Keeps.alloc ?_ _ | with_reducible refine Keeps.setCell ?_ ?_ _ | omega | focus (simp; done) | focus (simp; omega))))).mono ?_
  rintro e2 w2 ⟨hb2, u, l, hu, hD⟩
  obtain ⟨p1, n1, c1, p2, n2, c2, p3, n3, c3, p4, n4, c4, rfl, -⟩ := hu.agg
  have g0 := (hb2.cell (p := ⟨w.heap.size, 0, none⟩) (by first | omega | (simp; omega))).trans r0
  have g1 := (hb2.cell (p := ⟨w.heap.size, 1, none⟩) (by first | omega | (simp; omega))).trans r1
  have g2 := (hb2.cell (p := ⟨w.heap.size, 2, none⟩) (by first | omega | (simp; omega))).trans r2
  have g3 := (hb2.cell (p := ⟨w.heap.size, 3, none⟩) (by first | omega | (simp; omega))).trans r3
  have z0 := (hb2.frozen (p := ⟨w.heap.size, 0, none⟩) (by first | omega | (simp; omega))).trans f0
  have z1 := (hb2.frozen (p := ⟨w.heap.size, 1, none⟩) (by first | omega | (simp; omega))).trans f1
  have z2 := (hb2.frozen (p := ⟨w.heap.size, 2, none⟩) (by first | omega | (simp; omega))).trans f2
  have z3 := (hb2.frozen (p := ⟨w.heap.size, 3, none⟩) (by first | omega | (simp; omega))).trans f3
  have l2 := hb2.size
  have lw2 : w.heap.size < w2.heap.size := World.block_lt_of_cell? _ _ g0
  have HB2 := Lib.hid hb2
  have HU := Lib.hid hu
  clear hb2 hu hs1 r0 r1 r2 r3 f0 f1 f2 f3
  obtain ⟨hD, ok, rfl⟩ | ⟨hD, rfl⟩ | ⟨hD, rfl⟩ := hD
  all_goals have HD := Lib.hid hD
  all_goals clear hD
  all_goals go_wp2_with fail
  · refine bodyPost_ret (v := .tuple #[.agg #[.slice p1 n1 c1, .slice p2 n2 c2, .slice p3 n3 c3, .slice p4 n4 c4], .bool ok, .bool false]) (by simp only [results, Tryz.results6]; go_simp) rfl ?_
    have h0 : Below w.heap.size w w2 := below_next (below_new HB.out) HB2.out (by omega)
    have hu := HU.out
    exact ⟨(by repeat (first | with_reducible assumption | with_reducible refine Below.drew ?_ | with_reducible refine below_drewN' ?_ _ | with_reducible refine Below.alloc ?_ ?_ _ | with_reducible refine Below.setCell ?_ ?_ _ | with_reducible exact Nat.le_refl _ | omega | focus (simp; done) | focus (simp; omega))), _, _, (hu.keeps (by repeat (first | with_reducible assumption | with_reducible exact Keeps.refl _ _ | with_reducible refine Keeps.drew ?_ | with_reducible refine Keeps.drewN ?_ _ | with_reducible refine Keeps.alloc ?_ _ | with_reducible refine Keeps.setCell ?_ ?_ _ | omega | focus (simp; done) | focus (simp; omega)))).imp (fun _ _ _ => trivial), .inl ⟨HD.out, _, rfl⟩⟩
  · refine bodyPost_ret (v := .tuple #[.agg #[.slice p1 n1 c1, .slice p2 n2 c2, .slice p3 n3 c3, .slice p4 n4 c4], .bool false, .bool true]) (by simp only [results, Tryz.results6]; go_simp) rfl ?_
    have h0 : Below w.heap.size w w2 := below_next (below_new HB.out) HB2.out (by omega)
    have hu := HU.out
    exact ⟨(by repeat (first | with_reducible assumption | with_reducible refine Below.drew ?_ | with_reducible refine below_drewN' ?_ _ | with_reducible refine Below.alloc ?_ ?_ _ | with_reducible refine Below.setCell ?_ ?_ _ | with_reducible exact Nat.le_refl _ | omega | focus (simp; done) | focus (simp; omega))), _, _, (hu.keeps (by repeat (first | with_reducible assumption | with_reducible exact Keeps.refl _ _ | with_reducible refine Keeps.drew ?_ | with_reducible refine Keeps.drewN ?_ _ | with_reducible refine Keeps.alloc ?_ _ | with_reducible refine Keeps.setCell ?_ ?_ _ | omega | focus (simp; done) | focus (simp; omega)))).imp (fun _ _ _ => trivial), .inr (.inl ⟨HD.out, rfl⟩)⟩
  · refine bodyPost_ret (v := .tuple #[.agg #[.slice p1 n1 c1, .slice p2 n2 c2, .slice p3 n3 c3, .slice p4 n4 c4], .bool true, .bool true]) (by simp only [results, Tryz.results6]; go_simp) rfl ?_
    have h0 : Below w.heap.size w w2 := below_next (below_new HB.out) HB2.out (by omega)
    have hu := HU.out
    exact ⟨(by repeat (first | with_reducible assumption | with_reducible refine Below.drew ?_ | with_reducible refine below_drewN' ?_ _ | with_reducible refine Below.alloc ?_ ?_ _ | with_reducible refine Below.setCell ?_ ?_ _ | with_reducible exact Nat.le_refl _ | omega | focus (simp; done) | focus (simp; omega))), _, _, (hu.keeps (by repeat (first | with_reducible assumption | with_reducible exact Keeps.refl _ _ | with_reducible refine Keeps.drew ?_ | with_reducible refine Keeps.drewN ?_ _ | with_reducible refine Keeps.alloc ?_ _ | with_reducible refine Keeps.setCell ?_ ?_ _ | omega | focus (simp; done) | focus (simp; omega)))).imp (fun _ _ _ => trivial), .inr (.inr ⟨HD.out, rfl⟩)⟩

theorem specOf_report {bs : List Int} {D : Option (Option Lay)} (hs : bs.length < 4 → D = some none) (hH : 4 ≤ bs.length → HelpOf 17 bs D) : SpecOf (.string ⟨#[109, 108, 100, 114, 101, 112, 111, 114, 116, 50]⟩) bs D := by
  intro v w h
  by_cases hl : 4 ≤ bs.length
  · exact spec_report_long (hH hl) hl h
  · obtain ⟨p, c, rfl, -⟩ := h
    exact (spec_report_short (by omega)).mono fun e w' h => ⟨h.2, _, _, layIs_zlay _, .inr (.inl ⟨hs (by omega), h.1⟩)⟩
set_option maxRecDepth 100000 in
set_option maxHeartbeats 1000000 in
theorem spec_dhcp_short {p : Option Addr} {n c : Nat} {w : World} (hn : n < 4) :
    Calls Tryz.prog 6 #[.string ⟨#[100, 104, 99, 112, 118, 54]⟩, .slice p n c] w fun e w' =>
      e = .returned (.tuple #[zlay, .bool false, .bool true]) ∧ Below w.heap.size w w' := by
  go_enter Tryz.func6, Tryz.ntmps6
  go_wp2_with (go_at_call 11; refine (least_dhcpv6 _).mono ?_; rintro e1 w1 ⟨rfl, hb1⟩)
  obtain ⟨r0, r1, r2, r3⟩ := cells4 hb1
  obtain ⟨f0, f1, f2, f3⟩ := frozen4 hb1
  have lw := size_new hb1
  have HB := Lib.hid hb1
  clear hb1
  go_wp2_with (go_at_call 12; refine none_c.mono ?_; rintro e w' ⟨rfl, rfl⟩)
  refine bodyPost_ret (v := .tuple #[zlay, .bool false, .bool true]) (by simp only [results, Tryz.results6]; go_simp) rfl ?_
  have h0 := below_new HB.out
  exact ⟨rfl, (by repeat (first | with_reducible assumption | with_reducible refine Below.drew ?_ | with_reducible refine below_drewN' ?_ _ | with_reducible refine Below.alloc ?_ ?_ _ | with_reducible refine Below.setCell ?_ ?_ _ | with_reducible exact Nat.le_refl _ | omega | focus (simp; done) | focus (simp; omega)))⟩

set_option maxRecDepth 100000 in
set_option maxHeartbeats 1000000 in
theorem spec_dhcp_long {v : Value} {bs : List Int} {D : Option (Option Lay)} (hH : HelpOf 18 bs D) (hl : 4 ≤ bs.length) {w : World} (h : SB w (fun _ => True) v bs) :
    Calls Tryz.prog 6 #[.string ⟨#[100, 104, 99, 112, 118, 54]⟩, v] w fun e w' =>
      Below w.heap.size w w' ∧ ∃ u l, LayIs w' u l ∧ ((D = none ∧ ∃ ok, e = .returned (.tuple #[u, .bool ok, .bool false])) ∨ (D = some none ∧ e = .returned (.tuple #[u, .bool false, .bool true])) ∨
      (D = some (some l) ∧ e = .returned (.tuple #[u, .bool true, .bool true]))) := by
  have HS := Lib.hid h
  have HH := Lib.hid hH
  obtain ⟨p, c, rfl, -, -, -, -⟩ := h
  clear hH
  have hl' : ¬ (bs.length : Int) < 4 := by omega
  go_enter Tryz.func6, Tryz.ntmps6
  go_wp2_with (go_at_call 11; refine (least_dhcpv6 _).mono ?_; rintro e1 w1 ⟨rfl, hb1⟩)
  obtain ⟨r0, r1, r2, r3⟩ := cells4 hb1
  obtain ⟨f0, f1, f2, f3⟩ := frozen4 hb1
  have lw := size_new hb1
  have HB := Lib.hid hb1
  clear hb1
  go_wp2_with fail
  have hs1 : SB w1 (fun b => b ≠ w.heap.size) (.slice p bs.length c) bs := (HS.out.imp (fun b hb _ => by omega : ∀ b, b < w.heap.size → True → b ≠ w.heap.size)).keeps (Keeps.of_below (below_new HB.out))
  refine (HH.out w.heap.size _ _ (by first | omega | (simp; omega)) (hs1.keeps (by repeat (first | with_reducible assumption | with_reducible exact Keeps.refl _ _ | with_reducible refine Keeps.drew ?_ | with_reducible refine Keeps.drewN ?_ _ | with_reducible refine Keeps.alloc ?_ _ | with_reducible refine Keeps.setCell ?_ ?_ _ | omega | focus (simp; done) | focus (simp; omega))))).mono ?_
  rintro e2 w2 ⟨hb2, u, l, hu, hD⟩
  obtain ⟨p1, n1, c1, p2, n2, c2, p3, n3, c3, p4, n4, c4, rfl, -⟩ := hu.agg
  have g0 := (hb2.cell (p := ⟨w.heap.size, 0, none⟩) (by first | omega | (simp; omega))).trans r0
  have g1 := (hb2.cell (p := ⟨w.heap.size, 1, none⟩) (by first | omega | (simp; omega))).trans r1
  have g2 := (hb2.cell (p := ⟨w.heap.size, 2, none⟩) (by first | omega | (simp; omega))).trans r2
  have g3 := (hb2.cell (p := ⟨w.heap.size, 3, none⟩) (by first | omega | (simp; omega))).trans r3
  have z0 := (hb2.frozen (p := ⟨w.heap.size, 0, none⟩) (by first | omega | (simp; omega))).trans f0
  have z1 := (hb2.frozen (p := ⟨w.heap.size, 1, none⟩) (by first | omega | (simp; omega))).trans f1
  have z2 := (hb2.frozen (p := ⟨w.heap.size, 2, none⟩) (by first | omega | (simp; omega))).trans f2
  have z3 := (hb2.frozen (p := ⟨w.heap.size, 3, none⟩) (by first | omega | (simp; omega))).trans f3
  have l2 := hb2.size
  have lw2 : w.heap.size < w2.heap.size := World.block_lt_of_cell? _ _ g0
  have HB2 := Lib.hid hb2
  have HU := Lib.hid hu
  clear hb2 hu hs1 r0 r1 r2 r3 f0 f1 f2 f3
  obtain ⟨hD, ok, rfl⟩ | ⟨hD, rfl⟩ | ⟨hD, rfl⟩ := hD
  all_goals have HD := Lib.hid hD
  all_goals clear hD
  all_goals go_wp2_with fail
  · refine bodyPost_ret (v := .tuple #[.agg #[.slice p1 n1 c1, .slice p2 n2 c2, .slice p3 n3 c3, .slice p4 n4 c4], .bool ok, .bool false]) (by simp only [results, Tryz.results6]; go_simp) rfl ?_
    have h0 : Below w.heap.size w w2 := below_next (below_new HB.out) HB2.out (by omega)
    have hu := HU.out
    exact ⟨(by repeat (first | with_reducible assumption | with_reducible refine Below.drew ?_ | with_reducible refine below_drewN' ?_ _ | with_reducible refine Below.alloc ?_ ?_ _ | with_reducible refine Below.setCell ?_ ?_ _ | with_reducible exact Nat.le_refl _ | omega | focus (simp; done) | focus (simp; omega))), _, _, (hu.keeps (by repeat (first | with_reducible assumption | with_reducible exact Keeps.refl _ _ | with_reducible refine Keeps.drew ?_ | with_reducible refine Keeps.drewN ?_ _ | with_reducible refine Keeps.alloc ?_ _ | with_reducible refine Keeps.setCell ?_ ?_ _ | omega | focus (simp; done) | focus (simp; omega)))).imp (fun _ _ _ => trivial), .inl ⟨HD.out, _, rfl⟩⟩
  · refine bodyPost_ret (v := .tuple #[.agg #[.slice p1 n1 c1, .slice p2 n2 c2, .slice p3 n3 c3, .slice p4 n4 c4], .bool false, .bool true]) (by simp only [results, Tryz.results6]; go_simp) rfl ?_
    have h0 : Below w.heap.size w w2 := below_next (below_new HB.out) HB2.out (by omega)
    have hu := HU.out
    exact ⟨(by repeat (first | with_reducible assumption | with_reducible refine Below.drew ?_ | with_reducible refine below_drewN' ?_ _ | with_reducible refine Below.alloc ?_ ?_ _ | with_reducible refine Below.setCell ?_ ?_ _ | with_reducible exact Nat.le_refl _ | omega | focus (simp; done) | focus (simp; omega))), _, _, (hu.keeps (by repeat (first | with_reducible assumption | with_reducible exact Keeps.refl _ _ | with_reducible refine Keeps.drew ?_ | with_reducible refine Keeps.drewN ?_ _ | with_reducible refine Keeps.alloc ?_ _ | with_reducible refine Keeps.setCell ?_ ?_ _ | omega | focus (simp; done) | focus (simp; omega)))).imp (fun _ _ _ => trivial), .inr (.inl ⟨HD.out, rfl⟩)⟩
  · refine bodyPost_ret (v := .tuple #[.agg #[.slice p1 n1 c1, .slice p2 n2 c2, .slice p3 n3 c3, .slice p4 n4 c4], .bool true, .bool true]) (by simp only [results, Tryz.results6]; go_simp) rfl ?_
    have h0 : Below w.heap.size w w2 := below_next (below_new HB.out) HB2.out (by omega)
    have hu := HU.out
    exact ⟨(by repeat (first | with_reducible assumption | with_reducible refine Below.drew ?_ | with_reducible refine below_drewN' ?_ _ | with_reducible refine Below.alloc ?_ ?_ _ | with_reducible refine Below.setCell ?_ ?_ _ | with_reducible exact Nat.le_refl _ | omega | focus (simp; done) | focus (simp; omega))), _, _, (hu.keeps (by repeat (first | with_reducible assumption | with_reducible exact Keeps.refl _ _ | with_reducible refine Keeps.drew ?_ | with_reducible refine Keeps.drewN ?_ _ | with_reducible refine Keeps.alloc ?_ _ | with_reducible refine Keeps.setCell ?_ ?_ _ | omega | focus (simp; done) | focus (simp; omega)))).imp (fun _ _ _ => trivial), .inr (.inr ⟨HD.out, rfl⟩)⟩

theorem specOf_dhcp {bs : List Int} {D : Option (Option Lay)} (hs : bs.length < 4 → D = some none) (hH : 4 ≤ bs.length → HelpOf 18 bs D) : SpecOf (.string ⟨#[100, 104, 99, 112, 118, 54]⟩) bs D := by
  intro v w h
  by_cases hl : 4 ≤ bs.length
  · exact spec_dhcp_long (hH hl) hl h
  · obtain ⟨p, c, rfl, -⟩ := h
    exact (spec_dhcp_short (by omega)).mono fun e w' h => ⟨h.2, _, _, layIs_zlay _, .inr (.inl ⟨hs (by omega), h.1⟩)⟩
set_option maxRecDepth 100000 in
set_option maxHeartbeats 1000000 in
theorem spec_radius_short {p : Option Addr} {n c : Nat} {w : World} (hn : n < 20) :
    Calls Tryz.prog 6 #[.string ⟨#[114, 97, 100, 105, 117, 115]⟩, .slice p n c] w fun e w' =>
      e = .returned (.tuple #[zlay, .bool false, .bool true]) ∧ Below w.heap.size w w' := by
  go_enter Tryz.func6, Tryz.ntmps6
  go_wp2_with (go_at_call 11; refine (least_radius _).mono ?_; rintro e1 w1 ⟨rfl, hb1⟩)
  obtain ⟨r0, r1, r2, r3⟩ := cells4 hb1
  obtain ⟨f0, f1, f2, f3⟩ := frozen4 hb1
  have lw := size_new hb1
  have HB := Lib.hid hb1
  clear hb1
  go_wp2_with (go_at_call 12; refine none_c.mono ?_; rintro e w' ⟨rfl, rfl⟩)
  refine bodyPost_ret (v := .tuple #[zlay, .bool false, .bool true]) (by simp only [results, Tryz.results6]; go_simp) rfl ?_
  have h0 := below_new HB.out
  exact ⟨rfl, (by repeat (first | with_reducible assumption | with_reducible refine Below.drew ?_ | with_reducible refine below_drewN' ?_ _ | with_reducible refine Below.alloc ?_ ?_ _ | with_reducible refine Below.setCell ?_ ?_ _ | with_reducible exact Nat.le_refl _ | omega | focus (simp; done) | focus (simp; omega)))⟩

set_option maxRecDepth 100000 in
set_option maxHeartbeats 1000000 in
theorem spec_radius_long {v : Value} {bs : List Int} {D : Option (Option Lay)} (hH : HelpOf 19 bs D) (hl : 20 ≤ bs.length) {w : World} (h : SB w (fun _ => True) v bs) :
    Calls Tryz.prog 6 #[.string ⟨#[114, 97, 100, 105, 117, 115]⟩, v] w fun e w' =>
      Below w.heap.size w w' ∧ ∃ u l, LayIs w' u l ∧ ((D = none ∧ ∃ ok, e = .returned (.tuple #[u, .bool ok, .bool false])) ∨ (D = some none ∧ e = .returned (.tuple #[u, .bool false, .bool true])) ∨
      (D = some (some l) ∧ e = .returned (.tuple #[u, .bool true, .bool true]))) := by
  have HS := Lib.hid h
  have HH := Lib.hid hH
  obtain ⟨p, c, rfl, -, -, -, -⟩ := h
  clear hH
  have hl' : ¬ (bs.length : Int) < 20 := by omega
  go_enter Tryz.func6, Tryz.ntmps6
  go_wp2_with (go_at_call 11; refine (least_radius _).mono ?_; rintro e1 w1 ⟨rfl, hb1⟩)
  obtain ⟨r0, r1, r2, r3⟩ := cells4 hb1
  obtain ⟨f0, f1, f2, f3⟩ := frozen4 hb1
  have lw := size_new hb1
  have HB := Lib.hid hb1
  clear hb1
  go_wp2_with fail
  have hs1 : SB w1 (fun b => b ≠ w.heap.size) (.slice p bs.length c) bs := (HS.out.imp (fun b hb _ => by omega : ∀ b, b < w.heap.size → True → b ≠ w.heap.size)).keeps (Keeps.of_below (below_new HB.out))
  refine (HH.out w.heap.size _ _ (by first | omega | (simp; omega)) (hs1.keeps (by repeat (first | with_reducible assumption | with_reducible exact Keeps.refl _ _ | with_reducible refine Keeps.drew ?_ | with_reducible refine Keeps.drewN ?_ _ | with_reducible refine Keeps.alloc ?_ _ | with_reducible refine Keeps.setCell ?_ ?_ _ | omega | focus (simp; done) | focus (simp; omega))))).mono ?_
  rintro e2 w2 ⟨hb2, u, l, hu, hD⟩
  obtain ⟨p1, n1, c1, p2, n2, c2, p3, n3, c3, p4, n4, c4, rfl, -⟩ := hu.agg
  have g0 := (hb2.cell (p := ⟨w.heap.size, 0, none⟩) (by first | omega | (simp; omega))).trans r0
  have g1 := (hb2.cell (p := ⟨w.heap.size, 1, none⟩) (by first | omega | (simp; omega))).trans r1
  have g2 := (hb2.cell (p := ⟨w.heap.size, 2, none⟩) (by first | omega | (simp; omega))).trans r2
  have g3 := (hb2.cell (p := ⟨w.heap.size, 3, none⟩) (by first | omega | (simp; omega))).trans r3
  have z0 := (hb2.frozen (p := ⟨w.heap.size, 0, none⟩) (by first | omega | (simp; omega))).trans f0
  have z1 := (hb2.frozen (p := ⟨w.heap.size, 1, none⟩) (by first | omega | (simp; omega))).trans f1
  have z2 := (hb2.frozen (p := ⟨w.heap.size, 2, none⟩) (by first | omega | (simp; omega))).trans f2
  have z3 := (hb2.frozen (p := ⟨w.heap.size, 3, none⟩) (by first | omega | (simp; omega))).trans f3
  have l2 := hb2.size
  have lw2 : w.heap.size < w2.heap.size := World.block_lt_of_cell? _ _ g0
  have HB2 := Lib.hid hb2
  have HU := Lib.hid hu
  clear hb2 hu hs1 r0 r1 r2 r3 f0 f1 f2 f3
  obtain ⟨hD, ok, rfl⟩ | ⟨hD, rfl⟩ | ⟨hD, rfl⟩ := hD
  all_goals have HD := Lib.hid hD
  all_goals clear hD
  all_goals go_wp2_with fail
  · refine bodyPost_ret (v := .tuple #[.agg #[.slice p1 n1 c1, .slice p2 n2 c2, .slice p3 n3 c3, .slice p4 n4 c4], .bool ok, .bool false]) (by simp only [results, Tryz.results6]; go_simp) rfl ?_
    have h0 : Below w.heap.size w w2 := below_next (below_new HB.out) HB2.out (by omega)
    have hu := HU.out
    exact ⟨(by repeat (first | with_reducible assumption | with_reducible refine Below.drew ?_ | with_reducible refine below_drewN' ?_ _ | with_reducible refine Below.alloc ?_ ?_ _ | with_reducible refine Below.setCell ?_ ?_ _ | with_reducible exact Nat.le_refl _ | omega | focus (simp; done) | focus (simp; omega))), _, _, (hu.keeps (by repeat (first | with_reducible assumption | with_reducible exact Keeps.refl _ _ | with_reducible refine Keeps.drew ?_ | with_reducible refine Keeps.drewN ?_ _ | with_reducible refine Keeps.alloc ?_ _ | with_reducible refine Keeps.setCell ?_ ?_ _ | omega | focus (simp; done) | focus (simp; omega)))).imp (fun _ _ _ => trivial), .inl ⟨HD.out, _, rfl⟩⟩
  · refine bodyPost_ret (v := .tuple #[.agg #[.slice p1 n1 c1, .slice p2 n2 c2, .slice p3 n3 c3, .slice p4 n4 c4], .bool false, .bool true]) (by simp only [results, Tryz.results6]; go_simp) rfl ?_
    have h0 : Below w.heap.size w w2 := below_next (below_new HB.out) HB2.out (by omega)
    have hu := HU.out
    exact ⟨(by repeat (first | with_reducible assumption | with_reducible refine Below.drew ?_ | with_reducible refine below_drewN' ?_ _ | with_reducible refine Below.alloc ?_ ?_ _ | with_reducible refine Below.setCell ?_ ?_ _ | with_reducible exact Nat.le_refl _ | omega | focus (simp; done) | focus (simp; omega))), _, _, (hu.keeps (by repeat (first | with_reducible assumption | with_reducible exact Keeps.refl _ _ | with_reducible refine Keeps.drew ?_ | with_reducible refine Keeps.drewN ?_ _ | with_reducible refine Keeps.alloc ?_ _ | with_reducible refine Keeps.setCell ?_ ?_ _ | omega | focus (simp; done) | focus (simp; omega)))).imp (fun _ _ _ => trivial), .inr (.inl ⟨HD.out, rfl⟩)⟩
  · refine bodyPost_ret (v := .tuple #[.agg #[.slice p1 n1 c1, .slice p2 n2 c2, .slice p3 n3 c3, .slice p4 n4 c4], .bool true, .bool true]) (by simp only [results, Tryz.results6]; go_simp) rfl ?_
    have h0 : Below w.heap.size w w2 := below_next (below_new HB.out) HB2.out (by omega)
    have hu := HU.out
    exact ⟨(by repeat (first | with_reducible assumption | with_reducible refine Below.drew ?_ | with_reducible refine below_drewN' ?_ _ | with_reducible refine Below.alloc ?_ ?_ _ | with_reducible refine Below.setCell ?_ ?_ _ | with_reducible exact Nat.le_refl _ | omega | focus (simp; done) | focus (simp; omega))), _, _, (hu.keeps (by repeat (first | with_reducible assumption | with_reducible exact Keeps.refl _ _ | with_reducible refine Keeps.drew ?_ | with_reducible refine Keeps.drewN ?_ _ | with_reducible refine Keeps.alloc ?_ _ | with_reducible refine Keeps.setCell ?_ ?_ _ | omega | focus (simp; done) | focus (simp; omega)))).imp (fun _ _ _ => trivial), .inr (.inr ⟨HD.out, rfl⟩)⟩

theorem specOf_radius {bs : List Int} {D : Option (Option Lay)} (hs : bs.length < 20 → D = some none) (hH : 20 ≤ bs.length → HelpOf 19 bs D) : SpecOf (.string ⟨#[114, 97, 100, 105, 117, 115]⟩) bs D := by
  intro v w h
  by_cases hl : 20 ≤ bs.length
  · exact spec_radius_long (hH hl) hl h
  · obtain ⟨p, c, rfl, -⟩ := h
    exact (spec_radius_short (by omega)).mono fun e w' h => ⟨h.2, _, _, layIs_zlay _, .inr (.inl ⟨hs (by omega), h.1⟩)⟩
set_option maxRecDepth 100000 in
set_option maxHeartbeats 1000000 in
theorem spec_tls_short {p : Option Addr} {n c : Nat} {w : World} (hn : n < 5) :
    Calls Tryz.prog 6 #[.string ⟨#[116, 108, 115]⟩, .slice p n c] w fun e w' =>
      e = .returned (.tuple #[zlay, .bool false, .bool true]) ∧ Below w.heap.size w w' := by
  go_enter Tryz.func6, Tryz.ntmps6
  go_wp2_with (go_at_call 11; refine (least_tls _).mono ?_; rintro e1 w1 ⟨rfl, hb1⟩)
  obtain ⟨r0, r1, r2, r3⟩ := cells4 hb1
  obtain ⟨f0, f1, f2, f3⟩ := frozen4 hb1
  have lw := size_new hb1
  have HB := Lib.hid hb1
  clear hb1
  go_wp2_with (go_at_call 12; refine none_c.mono ?_; rintro e w' ⟨rfl, rfl⟩)
  refine bodyPost_ret (v := .tuple #[zlay, .bool false, .bool true]) (by simp only [results, Tryz.results6]; go_simp) rfl ?_
  have h0 := below_new HB.out
  exact ⟨rfl, (by repeat (first | with_reducible assumption | with_reducible refine Below.drew ?_ | with_reducible refine below_drewN' ?_ _ | with_reducible refine Below.alloc ?_ ?_ _ | with_reducible refine Below.setCell ?_ ?_ _ | with_reducible exact Nat.le_refl _ | omega | focus (simp; done) | focus (simp; omega)))⟩

set_option maxRecDepth 100000 in
set_option maxHeartbeats 1000000 in
theorem spec_tls_long {v : Value} {bs : List Int} {D : Option (Option Lay)} (hH : HelpOf 21 bs D) (hl : 5 ≤ bs.length) {w : World} (h : SB w (fun _ => True) v bs) :
    Calls Tryz.prog 6 #[.string ⟨#[116, 108, 115]⟩, v] w fun e w' =>
      Below w.heap.size w w' ∧ ∃ u l, LayIs w' u l ∧ ((D = none ∧ ∃ ok, e = .returned (.tuple #[u, .bool ok, .bool false])) ∨ (D = some none ∧ e = .returned (.tuple #[u, .bool false, .bool true])) ∨
      (D = some (some l) ∧ e = .returned (.tuple #[u, .bool true, .bool true]))) := by
  have HS := Lib.hid h
  have HH := Lib.hid hH
  obtain ⟨p, c, rfl, -, -, -, -⟩ := h
  clear hH
  have hl' : ¬ (bs.length : Int) < 5 := by omega
  go_enter Tryz.func6, Tryz.ntmps6
  go_wp2_with (go_at_call 11; refine (least_tls _).mono ?_; rintro e1 w1 ⟨rfl, hb1⟩)
  obtain ⟨r0, r1, r2, r3⟩ := cells4 hb1
  obtain ⟨f0, f1, f2, f3⟩ := frozen4 hb1
  have lw := size_new hb1
  have HB := Lib.hid hb1
  clear hb1
  go_wp2_with fail
  have hs1 : SB w1 (fun b => b ≠ w.heap.size) (.slice p bs.length c) bs := (HS.out.imp (fun b hb _ => by omega : ∀ b, b < w.heap.size → True → b ≠ w.heap.size)).keeps (Keeps.of_below (below_new HB.out))
  refine (HH.out w.heap.size _ _ (by first | omega | (simp; omega)) (hs1.keeps (by repeat (first | with_reducible assumption | with_reducible exact Keeps.refl _ _ | with_reducible refine Keeps.drew ?_ | with_reducible refine Keeps.drewN ?_ _ | with_reducible refine Keeps.alloc ?_ _ | with_reducible refine Keeps.setCell ?_ ?_ _ | omega | focus (simp; done) | focus (simp; omega))))).mono ?_
  rintro e2 w2 ⟨hb2, u, l, hu, hD⟩
  obtain ⟨p1, n1, c1, p2, n2, c2, p3, n3, c3, p4, n4, c4, rfl, -⟩ := hu.agg
  have g0 := (hb2.cell (p := ⟨w.heap.size, 0, none⟩) (by first | omega | (simp; omega))).trans r0
  have g1 := (hb2.cell (p := ⟨w.heap.size, 1, none⟩) (by first | omega | (simp; omega))).trans r1
  have g2 := (hb2.cell (p := ⟨w.heap.size, 2, none⟩) (by first | omega | (simp; omega))).trans r2
  have g3 := (hb2.cell (p := ⟨w.heap.size, 3, none⟩) (by first | omega | (simp; omega))).trans r3
  have z0 := (hb2.frozen (p := ⟨w.heap.size, 0, none⟩) (by first | omega | (simp; omega))).trans f0
  have z1 := (hb2.frozen (p := ⟨w.heap.size, 1, none⟩) (by first | omega | (simp; omega))).trans f1
  have z2 := (hb2.frozen (p := ⟨w.heap.size, 2, none⟩) (by first | omega | (simp; omega))).trans f2
  have z3 := (hb2.frozen (p := ⟨w.heap.size, 3, none⟩) (by first | omega | (simp; omega))).trans f3
  have l2 := hb2.size
  have lw2 : w.heap.size < w2.heap.size := World.block_lt_of_cell? _ _ g0
  have HB2 := Lib.hid hb2
  have HU := Lib.hid hu
  clear hb2 hu hs1 r0 r1 r2 r3 f0 f1 f2 f3
  obtain ⟨hD, ok, rfl⟩ | ⟨hD, rfl⟩ | ⟨hD, rfl⟩ := hD
  all_goals have HD := Lib.hid hD
  all_goals clear hD
  all_goals go_wp2_with fail
  · refine bodyPost_ret (v := .tuple #[.agg #[.slice p1 n1 c1, .slice p2 n2 c2, .slice p3 n3 c3, .slice p4 n4 c4], .bool ok, .bool false]) (by simp only [results, Tryz.results6]; go_simp) rfl ?_
    have h0 : Below w.heap.size w w2 := below_next (below_new HB.out) HB2.out (by omega)
    have hu := HU.out
    exact ⟨(by repeat (first | with_reducible assumption | with_reducible refine Below.drew ?_ | with_reducible refine below_drewN' ?_ _ | with_reducible refine Below.alloc ?_ ?_ _ | with_reducible refine Below.setCell ?_ ?_ _ | with_reducible exact Nat.le_refl _ | omega | focus (simp; done) | focus (simp; omega))), _, _, (hu.keeps (by repeat (first | with_reducible assumption | with_reducible exact Keeps.refl _ _ | with_reducible refine Keeps.drew ?_ | with_reducible refine Keeps.drewN ?_ _ | with_reducible refine Keeps.alloc ?_ _ | with_reducible refine Keeps.setCell ?_ ?_ _ | omega | focus (simp; done) | focus (simp; omega)))).imp (fun _ _ _ => trivial), .inl ⟨HD.out, _, rfl⟩⟩
  · refine bodyPost_ret (v := .tuple #[.agg #[.slice p1 n1 c1, .slice p2 n2 c2, .slice p3 n3 c3, .slice p4 n4 c4], .bool false, .bool true]) (by simp only [results, Tryz.results6]; go_simp) rfl ?_
    have h0 : Below w.heap.size w w2 := below_next (below_new HB.out) HB2.out (by omega)
    have hu := HU.out
    exact ⟨(by repeat (first | with_reducible assumption | with_reducible refine Below.drew ?_ | with_reducible refine below_drewN' ?_ _ | with_reducible refine Below.alloc ?_ ?_ _ | with_reducible refine Below.setCell ?_ ?_ _ | with_reducible exact Nat.le_refl _ | omega | focus (simp; done) | focus (simp; omega))), _, _, (hu.keeps (by repeat (first | with_reducible assumption | with_reducible exact Keeps.refl _ _ | with_reducible refine Keeps.drew ?_ | with_reducible refine Keeps.drewN ?_ _ | with_reducible refine Keeps.alloc ?_ _ | with_reducible refine Keeps.setCell ?_ ?_ _ | omega | focus (simp; done) | focus (simp; omega)))).imp (fun _ _ _ => trivial), .inr (.inl ⟨HD.out, rfl⟩)⟩
  · refine bodyPost_ret (v := .tuple #[.agg #[.slice p1 n1 c1, .slice p2 n2 c2, .slice p3 n3 c3, .slice p4 n4 c4], .bool true, .bool true]) (by simp only [results, Tryz.results6]; go_simp) rfl ?_
    have h0 : Below w.heap.size w w2 := below_next (below_new HB.out) HB2.out (by omega)
    have hu := HU.out
    exact ⟨(by repeat (first | with_reducible assumption | with_reducible refine Below.drew ?_ | with_reducible refine below_drewN' ?_ _ | with_reducible refine Below.alloc ?_ ?_ _ | with_reducible refine Below.setCell ?_ ?_ _ | with_reducible exact Nat.le_refl _ | omega | focus (simp; done) | focus (simp; omega))), _, _, (hu.keeps (by repeat (first | with_reducible assumption | with_reducible exact Keeps.refl _ _ | with_reducible refine Keeps.drew ?_ | with_reducible refine Keeps.drewN ?_ _ | with_reducible refine Keeps.alloc ?_ _ | with_reducible refine Keeps.setCell ?_ ?_ _ | omega | focus (simp; done) | focus (simp; omega)))).imp (fun _ _ _ => trivial), .inr (.inr ⟨HD.out, rfl⟩)⟩

theorem specOf_tls {bs : List Int} {D : Option (Option Lay)} (hs : bs.length < 5 → D = some none) (hH : 5 ≤ bs.length → HelpOf 21 bs D) : SpecOf (.string ⟨#[116, 108, 115]⟩) bs D := by
  intro v w h
  by_cases hl : 5 ≤ bs.length
  · exact spec_tls_long (hH hl) hl h
  · obtain ⟨p, c, rfl, -⟩ := h
    exact (spec_tls_short (by omega)).mono fun e w' h => ⟨h.2, _, _, layIs_zlay _, .inr (.inl ⟨hs (by omega), h.1⟩)⟩
end Go.Proofs.YtmpifdanfnebpaaGreat
