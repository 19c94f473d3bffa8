/-
  SerializeTo of rmcp.
-/
import Derived.Test.YtaejicpdaldpiaaGreatMrmcp
namespace Go.Proofs.YtaejicpdaldpiaaGreat
open Go Go.RowKit

theorem m_ser_rmcp (k : Nat) (a : Addr) (w : World) : (method (k + 1) 130 (.pointer (some a)) "SerializeTo").run Tryz.prog w = .ok (137, .pointer (some a)) w := by kernel_rfl
theorem c_ser_rmcp (args : Array Value) (W : World) : (callFunc 137 args).run Tryz.prog W = .ok (.enter 137 args) W := by kernel_rfl

set_option maxRecDepth 100000 in
set_option maxHeartbeats 4000000 in
theorem ser_rmcp {x0 x2 d : Int} {t : Bool} {pay : List Int} (hl : pay.length ≤ 400) :
    SerOf 137 pay (x0 :: 0 :: x2 :: bits .or .u8 (b01 t * 128 % 256) d :: pay) (MIsRmcp x0 x2 t d) := by
  intro w0 w X B hI hb hB hbuf
  obtain ⟨lX, c2, c3, c4, c5⟩ := hI
  have mp := m_prepend
  replace c2 := (hb.cell (p := ⟨X, 2, none⟩) lX).trans c2
  replace c3 := (hb.cell (p := ⟨X, 3, none⟩) lX).trans c3
  replace c4 := (hb.cell (p := ⟨X, 4, none⟩) lX).trans c4
  replace c5 := (hb.cell (p := ⟨X, 5, none⟩) lX).trans c5
  have lXB : X < B := by omega
  have lXw : X < w.heap.size := Nat.lt_of_lt_of_le lX hb.size
  have HBUF := Lib.hid hbuf
  clear hbuf hb hB
  go_enter Tryz.func137, Tryz.ntmps137
  go_wp2_with fail
  refine (prepend_c (k := 4) (bs := pay) (buf_alloc HBUF.out _) (by omega) (by omega) (by omega)).mono ?_
  rintro e1 w1 ⟨D, s, c, xs, rfl, hc4, hcm, hxl, hh, hb1⟩
  obtain ⟨y0, y1, y2, y3, rfl⟩ : ∃ a b c d, xs = [a, b, c, d] := by
    match xs, hxl with
    | [a, b, c, d], _ => exact ⟨a, b, c, d, rfl⟩
  clear hxl hc4 hcm
  have lB1 : B < w1.heap.size := Nat.lt_trans hh.lt hh.ltD
  have lD : D < w1.heap.size := hh.ltD
  have lX1 : X < w1.heap.size := by omega
  have eXD : ¬ X = D := by have := hh.lt; omega
  have eDX : ¬ D = X := by omega
  have k2 := (hb1.cell (p := ⟨X, 2, none⟩) lXB).trans ((World.cell?_alloc_lt _ _ _ lXw).trans c2)
  have k3 := (hb1.cell (p := ⟨X, 3, none⟩) lXB).trans ((World.cell?_alloc_lt _ _ _ lXw).trans c3)
  have k4 := (hb1.cell (p := ⟨X, 4, none⟩) lXB).trans ((World.cell?_alloc_lt _ _ _ lXw).trans c4)
  have k5 := (hb1.cell (p := ⟨X, 5, none⟩) lXB).trans ((World.cell?_alloc_lt _ _ _ lXw).trans c5)
  have d0 := hh.row 0 _ rfl
  have d1 := hh.row 1 _ rfl
  have d2 := hh.row 2 _ rfl
  have d3 := hh.row 3 _ rfl
  rw [Nat.add_zero] at d0
  have fd0 := hh.frD s
  have fd1 := hh.frD (s + 1)
  have fd2 := hh.frD (s + 2)
  have fd3 := hh.frD (s + 3)
  have HH := Lib.hid hh
  have HB1 := Lib.hid (show Below B w w1 from Below.trans ((Below.refl _ _).alloc (Nat.le_of_lt HBUF.out.lt) _) hb1)
  clear hh hb1 c2 c3 c4 c5 lX lXw
  go_wp2_with fail
  refine wp_region_same [13] (.q 0 (.q 1 (.q 2 (.q 3 (.q 4 (.q 7 (.q 8 (.q 9 (.q 10 (.l 5 (.q 6 (.q 11 (.q 12 (.l 13 .done .stop)))) .stop)))))))))) (by kernel_rfl) (by kernel_rfl) (fun _ _ d _ _ h => by cases d <;> exact h) (by simp only [Ord.fill, nthOp]; rfl) ?_; intro hSm
  repeat
    first | refine lexO_pass rfl ?_ | (refine lexO_take2 ?_ rfl (by kernel_rfl) (by with_reducible assumption) (fun w' hS K Q' hK => ?_) ?_; rotate_left; focus (have hS2 := hS.2; clear hS; go_wp2_with fail; exact hK))
  refine lexO_do rfl (fun K hK => ?_) lexO_stop
  go_wp2_with (go_at_call 138; refine bool2uint8_c.mono ?_; rintro e w' ⟨rfl, rfl⟩)
  refine step_and (by repeat (first | with_reducible assumption | with_reducible exact SameAt.refl _ | with_reducible refine SameAt.drew ?_ | with_reducible refine SameAt.drewN ?_ _ | with_reducible refine SameAt.alloc ?_ _ | (refine SameAt.below ?_ (by with_reducible assumption)))) (fun _ => ?_)
  repeat
    first | refine lexO_pass rfl ?_ | (refine lexO_take2 ?_ rfl (by kernel_rfl) (by with_reducible assumption) (fun w' hS K Q' hK => ?_) ?_; rotate_left; focus (have hS2 := hS.2; clear hS; go_wp2_with fail; exact hK))
  refine lexO_do rfl (fun K hK => ?_) lexO_stop
  go_wp2_with fail
  first | refine step_last (by decide) (lexO_done ?_) | refine lexO_done ?_
  go_wp2_with fail
  refine bodyPost_ret (v := .nilIface) (by simp only [results, Tryz.results137]; go_simp) rfl ⟨rfl, ?_, D, s, ?_⟩
  · have h0 := HB1.out
    have h1 := HH.out.lt
    exact (by repeat (first | with_reducible assumption | with_reducible refine Below.drew ?_ | with_reducible refine below_drewN' ?_ _ | with_reducible refine Below.alloc ?_ ?_ _ | with_reducible refine Below.setCell ?_ ?_ _ | with_reducible exact Nat.le_refl _ | omega | focus (simp; done) | focus (simp; omega)))
  exact Holds.drew (Holds.set (i := 3) (Holds.set (i := 2) (Holds.set (i := 1) (Holds.set (i := 0) HH.out (by simp) rfl x0) (by simp) rfl 0) (by simp) rfl x2) (by simp) rfl _)
end Go.Proofs.YtaejicpdaldpiaaGreat
