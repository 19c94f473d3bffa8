/-
  impl.made of mldd.
-/
import Derived.Test.YtmpifdanfnebpaaGreatMake
namespace Go.Proofs.YtmpifdanfnebpaaGreat
open Go Go.RowKit

def MIsMldd (x0 : Int) (d1 : List Int) (w : World) (X : Nat) : Prop :=
  X < w.heap.size ∧ w.cell? ⟨X, 2, none⟩ = some (.int .i64 x0) ∧ (∃ v, w.cell? ⟨X, 3, none⟩ = some v ∧ SB w (fun _ => True) v d1)

set_option maxRecDepth 100000 in
set_option maxHeartbeats 4000000 in
theorem made_mldd {x0 : Int} {d1 : List Int} {pay : List Int} (h0 : 0 ≤ x0 ∧ x0 ≤ 9223372036854775807) (h1 : d1.length ≤ 2000) :
    MadeOf (.string ⟨#[109, 108, 100, 49, 100, 111, 110, 101]⟩) ⟨[x0], [d1], [], pay⟩ 93 (MIsMldd x0 d1) := by
  intro vv w h
  obtain ⟨a, b, c, d, rfl, hn, hd, hp, hpl⟩ := h
  obtain ⟨nb, no, nc, rfl, lnb, hnc⟩ := hn.cellsN (n := 1) rfl (by decide)
  obtain ⟨pd, po, cd, rfl, lpd, hdc⟩ := hd.cellsN (n := 1) rfl (by decide)
  obtain ⟨pp, cp, rfl⟩ := hp.form
  obtain ⟨pl, cl, rfl⟩ := hpl.form
  have e0 := hnc 0 _ rfl
  rw [Nat.add_zero] at e0
  obtain ⟨u1, eu1, hu1⟩ := hdc 0 _ rfl
  have HU1 := Lib.hid (hu1.imp (fun b hb _ => hb : ∀ b, b < w.heap.size → True → b < w.heap.size))
  clear hu1
  rw [Nat.add_zero] at eu1
  have l1 : nb < w.heap.size + 1 := by omega
  have l2 : nb < w.heap.size + 1 + 1 := by omega
  have hdr : ∀ (W : World) (q : Nat) (p : Addr) (v : Value), (W.drewN q).setCell p v = (W.setCell p v).drewN q := fun _ _ _ _ => rfl
  have l3 : pd < w.heap.size + 1 := by omega
  have l4 : pd < w.heap.size + 1 + 1 := by omega
  clear hnc hn hd hp hpl hdc
  go_enter Tryz.func23, Tryz.ntmps23
  go_wp2_with fail
  refine (num64_c (n := 0) (N := 0) (b := nb) (o := no) (m := 1) (c := nc) (x := x0) (by go_simp) (by go_simp) (by go_simp) rfl (by go_simp) (by omega) (by omega) (by omega)).mono ?_
  rintro e w' ⟨rfl, q0, rfl⟩
  go_wp2_with fail
  refine (bytes_c (n := 0) (N := 0) (b := pd) (o := po) (m := 1) (c := cd) (u := u1) (bs := d1) (by first | omega | (simp; done) | (simp; omega)) (by first | omega | (simp; done) | (simp; omega)) (by go_simp) (by go_simp) (by go_simp) rfl (by go_simp) ((HU1.out.keeps (by repeat (first | with_reducible assumption | with_reducible exact Keeps.refl _ _ | with_reducible refine Keeps.drew ?_ | with_reducible refine Keeps.drewN ?_ _ | with_reducible refine Keeps.alloc ?_ _ | with_reducible refine Keeps.setCell ?_ ?_ _ | omega | focus (simp; done) | focus (simp; omega)))).imp (fun b _ hb => by omega)) (by omega) (by omega) h1 (by omega)).mono ?_
  rintro e w1 ⟨pb1, cb1, rfl, hs1, hb1⟩
  have kc1_0 : w1.cell? ⟨w.heap.size + 1, 0, none⟩ = some (.slice (some ⟨nb, no, none⟩) 1 nc) := (hb1.cell (p := ⟨w.heap.size + 1, 0, none⟩) (by first | omega | (simp; done) | (simp; omega))).trans (by go_simp)
  have kc1_1 : w1.cell? ⟨w.heap.size + 1, 1, none⟩ = some (.slice (some ⟨pd, po, none⟩) 1 cd) := (hb1.cell (p := ⟨w.heap.size + 1, 1, none⟩) (by first | omega | (simp; done) | (simp; omega))).trans (by go_simp)
  have kc1_2 : w1.cell? ⟨w.heap.size + 1, 2, none⟩ = some (.slice pp 0 cp) := (hb1.cell (p := ⟨w.heap.size + 1, 2, none⟩) (by first | omega | (simp; done) | (simp; omega))).trans (by go_simp)
  have kc1_3 : w1.cell? ⟨w.heap.size + 1, 3, none⟩ = some (.slice pl pay.length cl) := (hb1.cell (p := ⟨w.heap.size + 1, 3, none⟩) (by first | omega | (simp; done) | (simp; omega))).trans (by go_simp)
  have kc1_4 : w1.cell? ⟨w.heap.size + 1, 4, none⟩ = some (.int .i64 1) := (hb1.cell (p := ⟨w.heap.size + 1, 4, none⟩) (by first | omega | (simp; done) | (simp; omega))).trans (by go_simp)
  have kc1_5 : w1.cell? ⟨w.heap.size + 1, 5, none⟩ = some (.int .i64 1) := (hb1.cell (p := ⟨w.heap.size + 1, 5, none⟩) (by first | omega | (simp; done) | (simp; omega))).trans (by go_simp)
  have kc1_6 : w1.cell? ⟨w.heap.size + 1, 6, none⟩ = some (.bool false) := (hb1.cell (p := ⟨w.heap.size + 1, 6, none⟩) (by first | omega | (simp; done) | (simp; omega))).trans (by go_simp)
  have kc1_7 : w1.cell? ⟨w.heap.size + 1, 7, none⟩ = some (.bool false) := (hb1.cell (p := ⟨w.heap.size + 1, 7, none⟩) (by first | omega | (simp; done) | (simp; omega))).trans (by go_simp)
  have fc1_4 : w1.frozen? ⟨w.heap.size + 1, 4, none⟩ = false := (hb1.frozen (p := ⟨w.heap.size + 1, 4, none⟩) (by first | omega | (simp; done) | (simp; omega))).trans (by go_simp)
  have fc1_5 : w1.frozen? ⟨w.heap.size + 1, 5, none⟩ = false := (hb1.frozen (p := ⟨w.heap.size + 1, 5, none⟩) (by first | omega | (simp; done) | (simp; omega))).trans (by go_simp)
  have kx1_0 : w1.cell? ⟨w.heap.size + 1 + 1, 0, none⟩ = some (.slice none 0 0) := (hb1.cell (p := ⟨w.heap.size + 1 + 1, 0, none⟩) (by first | omega | (simp; done) | (simp; omega))).trans (by go_simp)
  have kx1_1 : w1.cell? ⟨w.heap.size + 1 + 1, 1, none⟩ = some (.slice none 0 0) := (hb1.cell (p := ⟨w.heap.size + 1 + 1, 1, none⟩) (by first | omega | (simp; done) | (simp; omega))).trans (by go_simp)
  have kx1_2 : w1.cell? ⟨w.heap.size + 1 + 1, 2, none⟩ = some (.int .i64 x0) := (hb1.cell (p := ⟨w.heap.size + 1 + 1, 2, none⟩) (by first | omega | (simp; done) | (simp; omega))).trans (by go_simp)
  have kx1_3 : w1.cell? ⟨w.heap.size + 1 + 1, 3, none⟩ = some (.slice none 0 0) := (hb1.cell (p := ⟨w.heap.size + 1 + 1, 3, none⟩) (by first | omega | (simp; done) | (simp; omega))).trans (by go_simp)
  have fx1 : ∀ j, w1.frozen? ⟨w.heap.size + 1 + 1, j, none⟩ = false := fun j => (hb1.frozen (p := ⟨w.heap.size + 1 + 1, j, none⟩) (by first | omega | (simp; done) | (simp; omega))).trans (by go_simp)
  have fx1_2 := fx1 2
  have fx1_3 := fx1 3
  have lw1 : w.heap.size + 1 + 1 < w1.heap.size := by have := hb1.size; simp at this; omega
  have lC1 : w.heap.size + 1 < w1.heap.size := by omega
  have HB1 := Lib.hid (show Below w.heap.size w w1 from Below.trans (by have h0 := Below.refl w.heap.size w; exact (by repeat (first | with_reducible assumption | with_reducible refine Below.drew ?_ | with_reducible refine below_drewN' ?_ _ | with_reducible refine Below.alloc ?_ ?_ _ | with_reducible refine Below.setCell ?_ ?_ _ | with_reducible exact Nat.le_refl _ | omega | focus (simp; done) | focus (simp; omega)))) (hb1.mono (by simp <;> omega)))
  have HS1 := Lib.hid (hs1.imp (fun b _ hb => (by simp at hb; omega : w.heap.size + 1 + 1 < b)))
  clear hb1 hs1 fx1
  go_wp2_with fail
  refine (took_c (n1 := 1) (n2 := 1) (n3 := 0) (p1 := some ⟨nb, no, none⟩) (m1 := nc) (p2 := some ⟨pd, po, none⟩) (m2 := cd) (p3 := pp) (m3 := cp) (ls := false) (by go_simp) (by go_simp) (by go_simp) (by go_simp) (by go_simp) (by go_simp) (by go_simp) rfl rfl (.inr rfl)).mono ?_
  rintro e w' ⟨rfl, qq, rfl⟩
  go_wp2_with fail
  refine bodyPost_ret (v := .iface 93 (.pointer (some ⟨w.heap.size + 1 + 1, 0, none⟩))) (by simp only [results, Tryz.results23]; go_simp) rfl ?_
  refine ⟨?_, _, rfl, by first | omega | (simp; done) | (simp; omega), by go_simp, ⟨_, by go_simp, (HS1.out.keeps (by repeat (first | with_reducible assumption | with_reducible exact Keeps.refl _ _ | with_reducible refine Keeps.drew ?_ | with_reducible refine Keeps.drewN ?_ _ | with_reducible refine Keeps.alloc ?_ _ | with_reducible refine Keeps.setCell ?_ ?_ _ | omega | focus (simp; done) | focus (simp; omega)))).imp (fun _ _ _ => trivial)⟩⟩
  have h0 := HB1.out
  exact (by repeat (first | with_reducible assumption | with_reducible refine Below.drew ?_ | with_reducible refine below_drewN' ?_ _ | with_reducible refine Below.alloc ?_ ?_ _ | with_reducible refine Below.setCell ?_ ?_ _ | with_reducible exact Nat.le_refl _ | omega | focus (simp; done) | focus (simp; omega)))
end Go.Proofs.YtmpifdanfnebpaaGreat
