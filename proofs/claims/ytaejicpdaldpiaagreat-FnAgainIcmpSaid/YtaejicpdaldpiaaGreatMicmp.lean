/-
  impl.made of icmp.
-/
import Derived.Test.YtaejicpdaldpiaaGreatMake
namespace Go.Proofs.YtaejicpdaldpiaaGreat
open Go Go.RowKit

def MIsIcmp (x0 : Int) (x1 : Int) (d2 : List Int) (w : World) (X : Nat) : Prop :=
  X < w.heap.size ∧ w.cell? ⟨X, 2, none⟩ = some (.int .u16 x0) ∧ w.cell? ⟨X, 3, none⟩ = some (.int .u16 x1) ∧ (∃ v, w.cell? ⟨X, 4, none⟩ = some v ∧ SB w (fun _ => True) v d2)

set_option maxRecDepth 100000 in
set_option maxHeartbeats 4000000 in
theorem made_icmp {x0 : Int} {x1 : Int} {d2 : List Int} {pay : List Int} (h0 : 0 ≤ x0 ∧ x0 ≤ 65535) (h1 : 0 ≤ x1 ∧ x1 ≤ 65535) (h2 : d2.length ≤ 2000) :
    MadeOf (.string ⟨#[105, 99, 109, 112, 54]⟩) ⟨[x0, x1], [d2], [], pay⟩ 75 (MIsIcmp x0 x1 d2) := by
  intro vv w h
  obtain ⟨a, b, c, d, rfl, hn, hd, hp, hpl⟩ := h
  obtain ⟨nb, no, nc, rfl, lnb, hnc⟩ := hn.cellsN (n := 2) rfl (by decide)
  obtain ⟨pd, po, cd, rfl, lpd, hdc⟩ := hd.cellsN (n := 1) rfl (by decide)
  obtain ⟨pp, cp, rfl⟩ := hp.form
  obtain ⟨pl, cl, rfl⟩ := hpl.form
  have e0 := hnc 0 _ rfl
  have e1 := hnc 1 _ rfl
  rw [Nat.add_zero] at e0
  obtain ⟨u2, eu2, hu2⟩ := hdc 0 _ rfl
  have HU2 := Lib.hid (hu2.imp (fun b hb _ => hb : ∀ b, b < w.heap.size → True → b < w.heap.size))
  clear hu2
  rw [Nat.add_zero] at eu2
  have l1 : nb < w.heap.size + 1 := by omega
  have l2 : nb < w.heap.size + 1 + 1 := by omega
  have hdr : ∀ (W : World) (q : Nat) (p : Addr) (v : Value), (W.drewN q).setCell p v = (W.setCell p v).drewN q := fun _ _ _ _ => rfl
  have l3 : pd < w.heap.size + 1 := by omega
  have l4 : pd < w.heap.size + 1 + 1 := by omega
  clear hnc hn hd hp hpl hdc
  go_enter Tryz.func34, Tryz.ntmps34
  go_wp2_with fail
  refine (num16_c (n := 0) (N := 0) (b := nb) (o := no) (m := 2) (c := nc) (x := x0) (by go_simp) (by go_simp) (by go_simp) rfl (by go_simp) (by omega) (by omega) h0 (by omega)).mono ?_
  rintro e w' ⟨rfl, q0, rfl⟩
  go_wp2_with fail
  refine (num16_c (n := 1) (N := 1) (b := nb) (o := no) (m := 2) (c := nc) (x := x1) (by go_simp) (by go_simp) (by go_simp) rfl (by go_simp) (by omega) (by omega) h1 (by omega)).mono ?_
  rintro e w' ⟨rfl, q1, rfl⟩
  go_wp2_with fail
  refine (bytes_c (n := 0) (N := 0) (b := pd) (o := po) (m := 1) (c := cd) (u := u2) (bs := d2) (by first | omega | (simp; done) | (simp; omega)) (by first | omega | (simp; done) | (simp; omega)) (by go_simp) (by go_simp) (by go_simp) rfl (by go_simp) ((HU2.out.keeps (by repeat (first | with_reducible assumption | with_reducible exact Keeps.refl _ _ | with_reducible refine Keeps.drew ?_ | with_reducible refine Keeps.drewN ?_ _ | with_reducible refine Keeps.alloc ?_ _ | with_reducible refine Keeps.setCell ?_ ?_ _ | omega | focus (simp; done) | focus (simp; omega)))).imp (fun b _ hb => by omega)) (by omega) (by omega) h2 (by omega)).mono ?_
  rintro e w2 ⟨pb2, cb2, rfl, hs2, hb2⟩
  have kc2_0 : w2.cell? ⟨w.heap.size + 1, 0, none⟩ = some (.slice (some ⟨nb, no, none⟩) 2 nc) := (hb2.cell (p := ⟨w.heap.size + 1, 0, none⟩) (by first | omega | (simp; done) | (simp; omega))).trans (by go_simp)
  have kc2_1 : w2.cell? ⟨w.heap.size + 1, 1, none⟩ = some (.slice (some ⟨pd, po, none⟩) 1 cd) := (hb2.cell (p := ⟨w.heap.size + 1, 1, none⟩) (by first | omega | (simp; done) | (simp; omega))).trans (by go_simp)
  have kc2_2 : w2.cell? ⟨w.heap.size + 1, 2, none⟩ = some (.slice pp 0 cp) := (hb2.cell (p := ⟨w.heap.size + 1, 2, none⟩) (by first | omega | (simp; done) | (simp; omega))).trans (by go_simp)
  have kc2_3 : w2.cell? ⟨w.heap.size + 1, 3, none⟩ = some (.slice pl pay.length cl) := (hb2.cell (p := ⟨w.heap.size + 1, 3, none⟩) (by first | omega | (simp; done) | (simp; omega))).trans (by go_simp)
  have kc2_4 : w2.cell? ⟨w.heap.size + 1, 4, none⟩ = some (.int .i64 2) := (hb2.cell (p := ⟨w.heap.size + 1, 4, none⟩) (by first | omega | (simp; done) | (simp; omega))).trans (by go_simp)
  have kc2_5 : w2.cell? ⟨w.heap.size + 1, 5, none⟩ = some (.int .i64 1) := (hb2.cell (p := ⟨w.heap.size + 1, 5, none⟩) (by first | omega | (simp; done) | (simp; omega))).trans (by go_simp)
  have kc2_6 : w2.cell? ⟨w.heap.size + 1, 6, none⟩ = some (.bool false) := (hb2.cell (p := ⟨w.heap.size + 1, 6, none⟩) (by first | omega | (simp; done) | (simp; omega))).trans (by go_simp)
  have kc2_7 : w2.cell? ⟨w.heap.size + 1, 7, none⟩ = some (.bool false) := (hb2.cell (p := ⟨w.heap.size + 1, 7, none⟩) (by first | omega | (simp; done) | (simp; omega))).trans (by go_simp)
  have fc2_4 : w2.frozen? ⟨w.heap.size + 1, 4, none⟩ = false := (hb2.frozen (p := ⟨w.heap.size + 1, 4, none⟩) (by first | omega | (simp; done) | (simp; omega))).trans (by go_simp)
  have fc2_5 : w2.frozen? ⟨w.heap.size + 1, 5, none⟩ = false := (hb2.frozen (p := ⟨w.heap.size + 1, 5, none⟩) (by first | omega | (simp; done) | (simp; omega))).trans (by go_simp)
  have kx2_0 : w2.cell? ⟨w.heap.size + 1 + 1, 0, none⟩ = some (.slice none 0 0) := (hb2.cell (p := ⟨w.heap.size + 1 + 1, 0, none⟩) (by first | omega | (simp; done) | (simp; omega))).trans (by go_simp)
  have kx2_1 : w2.cell? ⟨w.heap.size + 1 + 1, 1, none⟩ = some (.slice none 0 0) := (hb2.cell (p := ⟨w.heap.size + 1 + 1, 1, none⟩) (by first | omega | (simp; done) | (simp; omega))).trans (by go_simp)
  have kx2_2 : w2.cell? ⟨w.heap.size + 1 + 1, 2, none⟩ = some (.int .u16 x0) := (hb2.cell (p := ⟨w.heap.size + 1 + 1, 2, none⟩) (by first | omega | (simp; done) | (simp; omega))).trans (by go_simp)
  have kx2_3 : w2.cell? ⟨w.heap.size + 1 + 1, 3, none⟩ = some (.int .u16 x1) := (hb2.cell (p := ⟨w.heap.size + 1 + 1, 3, none⟩) (by first | omega | (simp; done) | (simp; omega))).trans (by go_simp)
  have kx2_4 : w2.cell? ⟨w.heap.size + 1 + 1, 4, none⟩ = some (.slice none 0 0) := (hb2.cell (p := ⟨w.heap.size + 1 + 1, 4, none⟩) (by first | omega | (simp; done) | (simp; omega))).trans (by go_simp)
  have kx2_5 : w2.cell? ⟨w.heap.size + 1 + 1, 5, none⟩ = some (.nilIface) := (hb2.cell (p := ⟨w.heap.size + 1 + 1, 5, none⟩) (by first | omega | (simp; done) | (simp; omega))).trans (by go_simp)
  have fx2 : ∀ j, w2.frozen? ⟨w.heap.size + 1 + 1, j, none⟩ = false := fun j => (hb2.frozen (p := ⟨w.heap.size + 1 + 1, j, none⟩) (by first | omega | (simp; done) | (simp; omega))).trans (by go_simp)
  have fx2_2 := fx2 2
  have fx2_3 := fx2 3
  have fx2_4 := fx2 4
  have fx2_5 := fx2 5
  have lw2 : w.heap.size + 1 + 1 < w2.heap.size := by have := hb2.size; simp at this; omega
  have lC2 : w.heap.size + 1 < w2.heap.size := by omega
  have HB2 := Lib.hid (show Below w.heap.size w w2 from Below.trans (by have h0 := Below.refl w.heap.size w; exact (by repeat (first | with_reducible assumption | with_reducible refine Below.drew ?_ | with_reducible refine below_drewN' ?_ _ | with_reducible refine Below.alloc ?_ ?_ _ | with_reducible refine Below.setCell ?_ ?_ _ | with_reducible exact Nat.le_refl _ | omega | focus (simp; done) | focus (simp; omega)))) (hb2.mono (by simp <;> omega)))
  have HS2 := Lib.hid (hs2.imp (fun b _ hb => (by simp at hb; omega : w.heap.size + 1 + 1 < b)))
  clear hb2 hs2 fx2
  go_wp2_with fail
  refine (took_c (n1 := 2) (n2 := 1) (n3 := 0) (p1 := some ⟨nb, no, none⟩) (m1 := nc) (p2 := some ⟨pd, po, none⟩) (m2 := cd) (p3 := pp) (m3 := cp) (ls := false) (by go_simp) (by go_simp) (by go_simp) (by go_simp) (by go_simp) (by go_simp) (by go_simp) rfl rfl (.inr rfl)).mono ?_
  rintro e w' ⟨rfl, qq, rfl⟩
  go_wp2_with fail
  refine bodyPost_ret (v := .iface 75 (.pointer (some ⟨w.heap.size + 1 + 1, 0, none⟩))) (by simp only [results, Tryz.results34]; go_simp) rfl ?_
  refine ⟨?_, _, rfl, by first | omega | (simp; done) | (simp; omega), by go_simp, by go_simp, ⟨_, by go_simp, (HS2.out.keeps (by repeat (first | with_reducible assumption | with_reducible exact Keeps.refl _ _ | with_reducible refine Keeps.drew ?_ | with_reducible refine Keeps.drewN ?_ _ | with_reducible refine Keeps.alloc ?_ _ | with_reducible refine Keeps.setCell ?_ ?_ _ | omega | focus (simp; done) | focus (simp; omega)))).imp (fun _ _ _ => trivial)⟩⟩
  have h0 := HB2.out
  exact (by repeat (first | with_reducible assumption | with_reducible refine Below.drew ?_ | with_reducible refine below_drewN' ?_ _ | with_reducible refine Below.alloc ?_ ?_ _ | with_reducible refine Below.setCell ?_ ?_ _ | with_reducible exact Nat.le_refl _ | omega | focus (simp; done) | focus (simp; omega)))
end Go.Proofs.YtaejicpdaldpiaaGreat
