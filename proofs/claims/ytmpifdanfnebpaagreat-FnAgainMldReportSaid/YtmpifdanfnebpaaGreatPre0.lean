/-
  PrependBytes of nothing.
-/
import Derived.Test.YtmpifdanfnebpaaGreatPut
import Derived.Test.YtmpifdanfnebpaaGreatMake
import Derived.Test.YtmpifdanfnebpaaGreatKoff
namespace Go.Proofs.YtmpifdanfnebpaaGreat
open Go Go.RowKit

set_option maxRecDepth 100000 in
set_option maxHeartbeats 4000000 in
theorem prepend0_holds {w : World} {B D s : Nat} {bs : List Int} (h : Holds w B D s bs) (hs : s ≤ 2000000) (hb : bs.length ≤ 1000000) : Calls Tryz.prog 143 #[.pointer (some ⟨B, 0, none⟩), .int .i64 0] w fun e w' =>
    ∃ p c, e = .returned (.tuple #[.slice p 0 c, .nilIface]) ∧ Holds w' B D s bs ∧ Below B w w' ∧ Keeps (fun b => b ≠ B) w w' := by
  have H := Lib.hid h
  obtain ⟨lt, lD, hpos, c0, c1, ⟨pp, c2, hp1, hp2, hp3⟩, fr, -, -, hpre⟩ := h
  have lB : B < w.heap.size := by omega
  have f1 := fr 1
  have n1 : ¬ ((s : Int) < 0) := by omega
  obtain ⟨L, hL⟩ : ∃ L, L = s + bs.length := ⟨_, rfl⟩
  rw [← hL] at c0
  have lLb : L ≤ 3000000 := by omega
  have lsL : s ≤ L := by omega
  have HL := Lib.hid hL
  have HC2 := Lib.hid (And.intro c2 (And.intro hp1 (And.intro hp2 hp3)))
  have ek : ¬ L = s := by omega
  clear hL hp1 hp2 hp3 hpre c2
  go_enter Tryz.func143, Tryz.ntmps143
  go_wp2_with fail
  refine wp_region_same [] (.q 0 (.q 1 (.q 2 (.q 3 (.q 4 (.q 5 (.q 6 (.q 7 (.q 8 (.q 9 (.q 10 (.q 11 (.q 12 (.q 13 (.q 14 (.q 15 (.q 16 .done))))))))))))))))) (by kernel_rfl) (by kernel_rfl) (fun _ _ d _ _ h => by cases d <;> exact h) (by simp only [Ord.fill, nthOp]; rfl) ?_; intro hSm
  repeat
    first | refine lexO_pass rfl ?_ | (refine lexO_take2 ?_ rfl (by kernel_rfl) (by with_reducible assumption) (fun w' hS K Q' hK => ?_) ?_; rotate_left; focus (have hS2 := hS.2; clear hS; go_wp2_with fail; exact hK))
  refine lexO_done ?_
  go_wp2_with fail
  have hh := H.out
  have hL := HL.out
  refine bodyPost_ret (v := .tuple #[.slice (some ⟨D, s, none⟩) 0 (L - s), .nilIface]) (by simp only [results, Tryz.results143]; go_simp) rfl ⟨_, _, rfl, ⟨lt, by simpa using lD, hpos, ?_, ?_, ?_, fun j => ?_, fun j => ?_, fun j x hx => ?_, fun j hj => ?_⟩, ?_, ?_⟩
  · rw [← hL]; go_simp
  · go_simp
  · obtain ⟨g1, g2, g3, g4⟩ := HC2.out
    exact ⟨pp, by go_simp, g2, g3, g4⟩
  · rw [World.frozen?_drew, World.frozen?_setCell]; exact hh.frB j
  · rw [World.frozen?_drew, World.frozen?_setCell]; exact hh.frD j
  · rw [World.cell?_drew, World.cell?_setCell_other _ _ _ _ (by simp)]
    exact hh.row j x hx
  · obtain ⟨x, hx⟩ := hh.pre j hj
    exact ⟨x, by rw [World.cell?_drew, World.cell?_setCell_other _ _ _ _ (by simp)]; exact hx⟩
  · have h0 := Below.refl B w
    exact (by repeat (first | with_reducible assumption | with_reducible refine Below.drew ?_ | with_reducible refine below_drewN' ?_ _ | with_reducible refine Below.alloc ?_ ?_ _ | with_reducible refine Below.setCell ?_ ?_ _ | with_reducible exact Nat.le_refl _ | omega | focus (simp; done) | focus (simp; omega)))
  · refine Keeps.of_lt ?_
    exact (by repeat (first | with_reducible assumption | with_reducible exact Keeps.refl _ _ | with_reducible refine Keeps.drew ?_ | with_reducible refine Keeps.drewN ?_ _ | with_reducible refine Keeps.alloc ?_ _ | with_reducible refine Keeps.setCell ?_ ?_ _ | omega | focus (simp; done) | focus (simp; omega)))

set_option maxRecDepth 100000 in
set_option maxHeartbeats 4000000 in
theorem prepend0_bare {w : World} {B : Nat} (h : Bare w B) : Calls Tryz.prog 143 #[.pointer (some ⟨B, 0, none⟩), .int .i64 0] w fun e w' =>
    ∃ p c, e = .returned (.tuple #[.slice p 0 c, .nilIface]) ∧ Bare w' B ∧ Below B w w' ∧ Keeps (fun b => b ≠ B) w w' := by
  obtain ⟨lB, c0, c1, c2, c3, fr⟩ := h
  have f1 := fr 1
  have HFR := Lib.hid fr
  clear fr
  go_enter Tryz.func143, Tryz.ntmps143
  go_wp2_with fail
  refine wp_region_same [] (.q 0 (.q 1 (.q 2 (.q 3 (.q 4 (.q 5 (.q 6 (.q 7 (.q 8 (.q 9 (.q 10 (.q 11 (.q 12 (.q 13 (.q 14 (.q 15 (.q 16 .done))))))))))))))))) (by kernel_rfl) (by kernel_rfl) (fun _ _ d _ _ h => by cases d <;> exact h) (by simp only [Ord.fill, nthOp]; rfl) ?_; intro hSm
  repeat
    first | refine lexO_pass rfl ?_ | (refine lexO_take2 ?_ rfl (by kernel_rfl) (by with_reducible assumption) (fun w' hS K Q' hK => ?_) ?_; rotate_left; focus (have hS2 := hS.2; clear hS; go_wp2_with fail; exact hK))
  refine lexO_done ?_
  go_wp2_with fail
  refine bodyPost_ret (v := .tuple #[.slice none 0 0, .nilIface]) (by simp only [results, Tryz.results143]; go_simp) rfl ⟨_, _, rfl, ⟨by simpa using lB, by go_simp, by go_simp, by go_simp, by go_simp, fun j => ?_⟩, ?_, ?_⟩
  · rw [World.frozen?_drew, World.frozen?_setCell]; exact HFR.out j
  · have h0 := Below.refl B w
    exact (by repeat (first | with_reducible assumption | with_reducible refine Below.drew ?_ | with_reducible refine below_drewN' ?_ _ | with_reducible refine Below.alloc ?_ ?_ _ | with_reducible refine Below.setCell ?_ ?_ _ | with_reducible exact Nat.le_refl _ | omega | focus (simp; done) | focus (simp; omega)))
  · refine Keeps.of_lt ?_
    exact (by repeat (first | with_reducible assumption | with_reducible exact Keeps.refl _ _ | with_reducible refine Keeps.drew ?_ | with_reducible refine Keeps.drewN ?_ _ | with_reducible refine Keeps.alloc ?_ _ | with_reducible refine Keeps.setCell ?_ ?_ _ | omega | focus (simp; done) | focus (simp; omega)))

theorem prepend0_c {w : World} {B : Nat} {bs : List Int} (h : Buf w B bs) (hb : bs.length ≤ 1000000) : Calls Tryz.prog 143 #[.pointer (some ⟨B, 0, none⟩), .int .i64 0] w fun e w' =>
    ∃ p c, e = .returned (.tuple #[.slice p 0 c, .nilIface]) ∧ Buf w' B bs ∧ Below B w w' ∧ KeepsOff w w' B := by
  rcases h with ⟨rfl, h⟩ | ⟨D, s, h⟩
  · exact (prepend0_bare h).mono fun e w' ⟨p, c, he, h1, h2, h3⟩ => ⟨p, c, he, .inl ⟨rfl, h1⟩, h2, koff_bare h3 h1⟩
  · have hs : s ≤ 2 * bs.length := by obtain ⟨pp, _, h1, h2, h3⟩ := h.prep; omega
    exact (prepend0_holds h (by omega) hb).mono fun e w' ⟨p, c, he, h1, h2, h3⟩ => ⟨p, c, he, .inr ⟨D, s, h1⟩, h2, koff_holds h3 h1 (.inr ⟨s, bs, h⟩)⟩
end Go.Proofs.YtmpifdanfnebpaaGreat
