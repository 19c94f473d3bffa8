/-
  impl.made of echo.
-/
import Derived.Test.YtaejicpdaldpiaaGreatMake
namespace Go.Proofs.YtaejicpdaldpiaaGreat
open Go Go.RowKit

def MIsEcho (x0 : Int) (x1 : Int) (w : World) (X : Nat) : Prop :=
  X < w.heap.size ∧ w.cell? ⟨X, 2, none⟩ = some (.int .u16 x0) ∧ w.cell? ⟨X, 3, none⟩ = some (.int .u16 x1)

set_option maxRecDepth 100000 in
set_option maxHeartbeats 4000000 in
theorem made_echo {x0 : Int} {x1 : Int} {pay : List Int} (h0 : 0 ≤ x0 ∧ x0 ≤ 65535) (h1 : 0 ≤ x1 ∧ x1 ≤ 65535) :
    MadeOf (.string ⟨#[101, 99, 104, 111, 54]⟩) ⟨[x0, x1], [], [], pay⟩ 68 (MIsEcho x0 x1) := by
  intro vv w h
  obtain ⟨a, b, c, d, rfl, hn, hd, hp, hpl⟩ := h
  obtain ⟨nb, no, nc, rfl, lnb, hnc⟩ := hn.cellsN (n := 2) rfl (by decide)
  obtain ⟨pd, cd, rfl⟩ := hd.form
  obtain ⟨pp, cp, rfl⟩ := hp.form
  obtain ⟨pl, cl, rfl⟩ := hpl.form
  have e0 := hnc 0 _ rfl
  have e1 := hnc 1 _ rfl
  rw [Nat.add_zero] at e0
  have l1 : nb < w.heap.size + 1 := by omega
  have l2 : nb < w.heap.size + 1 + 1 := by omega
  have hdr : ∀ (W : World) (q : Nat) (p : Addr) (v : Value), (W.drewN q).setCell p v = (W.setCell p v).drewN q := fun _ _ _ _ => rfl
  clear hnc hn hd hp hpl
  go_enter Tryz.func34, Tryz.ntmps34
  go_wp2_with fail
  refine (num16_c (n := 0) (N := 0) (b := nb) (o := no) (m := 2) (c := nc) (x := x0) (by go_simp) (by go_simp) (by go_simp) rfl (by go_simp) (by omega) (by omega) h0 (by omega)).mono ?_
  rintro e w' ⟨rfl, q0, rfl⟩
  go_wp2_with fail
  refine (num16_c (n := 1) (N := 1) (b := nb) (o := no) (m := 2) (c := nc) (x := x1) (by go_simp) (by go_simp) (by go_simp) rfl (by go_simp) (by omega) (by omega) h1 (by omega)).mono ?_
  rintro e w' ⟨rfl, q1, rfl⟩
  go_wp2_with fail
  refine (took_c (n1 := 2) (n2 := 0) (n3 := 0) (p1 := some ⟨nb, no, none⟩) (m1 := nc) (p2 := pd) (m2 := cd) (p3 := pp) (m3 := cp) (ls := false) (by go_simp) (by go_simp) (by go_simp) (by go_simp) (by go_simp) (by go_simp) (by go_simp) rfl rfl (.inr rfl)).mono ?_
  rintro e w' ⟨rfl, qq, rfl⟩
  go_wp2_with fail
  refine bodyPost_ret (v := .iface 68 (.pointer (some ⟨w.heap.size + 1 + 1, 0, none⟩))) (by simp only [results, Tryz.results34]; go_simp) rfl ?_
  refine ⟨?_, _, rfl, by first | omega | (simp; done) | (simp; omega), by go_simp, by go_simp⟩
  have h0 := Below.refl w.heap.size w
  exact (by repeat (first | with_reducible assumption | with_reducible refine Below.drew ?_ | with_reducible refine below_drewN' ?_ _ | with_reducible refine Below.alloc ?_ ?_ _ | with_reducible refine Below.setCell ?_ ?_ _ | with_reducible exact Nat.le_refl _ | omega | focus (simp; done) | focus (simp; omega)))
end Go.Proofs.YtaejicpdaldpiaaGreat
