/-
  SerializeTo of icmp.
-/
import Derived.Test.YtaejicpdaldpiaaGreatMicmp
import Derived.Test.YtaejicpdaldpiaaGreatPut
namespace Go.Proofs.YtaejicpdaldpiaaGreat
open Go Go.RowKit

theorem m_ser_icmp (k : Nat) (a : Addr) (w : World) : (method (k + 1) 75 (.pointer (some a)) "SerializeTo").run Tryz.prog w = .ok (104, .pointer (some a)) w := by kernel_rfl
theorem c_ser_icmp (args : Array Value) (W : World) : (callFunc 104 args).run Tryz.prog W = .ok (.enter 104 args) W := by kernel_rfl

set_option maxRecDepth 100000 in
theorem tcode_c {D s n c : Nat} (x0 x1 : Int) {w : World} (hn : 2 ≤ n) (h0 : 0 ≤ x0 ∧ x0 ≤ 255) (h1 : 0 ≤ x1 ∧ x1 ≤ 255) {y0 y1 : Value}
    (c0 : w.cell? ⟨D, s, none⟩ = some y0) (c1 : w.cell? ⟨D, s + 1, none⟩ = some y1) (f0 : w.frozen? ⟨D, s, none⟩ = false) (f1 : w.frozen? ⟨D, s + 1, none⟩ = false) :
    Calls Tryz.prog 106 #[.int .u16 (x0 * 256 + x1), .slice (some ⟨D, s, none⟩) n c] w fun e w' =>
      e = .returned (.tuple #[]) ∧ ∃ q, (((w.setCell ⟨D, s, none⟩ (.int .u8 x0)).setCell ⟨D, s + 1, none⟩ (.int .u8 x1)).alloc (.cells #[] 207)).drewN q = w' := by
  go_enter Tryz.func106, Tryz.ntmps106
  go_wp2_with (go_at_call 101; refine (put16_c x0 x1 hn h0 h1 c0 c1 f0 f1).mono ?_; rintro e w' ⟨rfl, rfl⟩)
  refine bodyPost_end (v := .tuple #[]) ?_ rfl ⟨rfl, 0, rfl⟩
  kernel_rfl

set_option maxRecDepth 100000 in
set_option maxHeartbeats 4000000 in
theorem ser_icmp {x0 x1 x2 x3 : Int} (h0 : 0 ≤ x0 ∧ x0 ≤ 255) (h1 : 0 ≤ x1 ∧ x1 ≤ 255) (h2 : 0 ≤ x2 ∧ x2 ≤ 255) (h3 : 0 ≤ x3 ∧ x3 ≤ 255) {pay : List Int} (hl : pay.length ≤ 400) :
    SerOf 104 pay (x0 :: x1 :: x2 :: x3 :: pay) (MIsIcmp (x0 * 256 + x1) (x2 * 256 + x3) []) := by
  intro w0 w X B hI hb hB hbuf
  obtain ⟨lX, c2, c3, -⟩ := hI
  have mp := m_prepend
  have mb := m_bytes
  replace c2 := (hb.cell (p := ⟨X, 2, none⟩) lX).trans c2
  replace c3 := (hb.cell (p := ⟨X, 3, none⟩) lX).trans c3
  have lXB : X < B := by omega
  have lXw : X < w.heap.size := Nat.lt_of_lt_of_le lX hb.size
  have HBUF := Lib.hid hbuf
  clear hbuf hb hB
  go_enter Tryz.func104, Tryz.ntmps104
  go_wp2_with fail
  refine (prepend_c (k := 4) (bs := pay) (HBUF.out.keeps (by have h0 := Below.refl w.heap.size w; exact (by repeat (first | with_reducible assumption | with_reducible refine Below.drew ?_ | with_reducible refine below_drewN' ?_ _ | with_reducible refine Below.alloc ?_ ?_ _ | with_reducible refine Below.setCell ?_ ?_ _ | with_reducible exact Nat.le_refl _ | omega | focus (simp; done) | focus (simp; omega))))) (by omega) (by omega) (by omega)).mono ?_
  rintro e1 w1 ⟨D, s, c, xs, rfl, hc4, hcm, hxl, hh, hb1, hk1, hD1⟩
  obtain ⟨y0, y1, y2, y3, rfl⟩ : ∃ y0 y1 y2 y3, xs = [y0, y1, y2, y3] := by
    match xs, hxl with
    | [y0, y1, y2, y3], _ => exact ⟨y0, y1, y2, y3, rfl⟩
  clear hxl
  have lB1 : B < w1.heap.size := Nat.lt_trans hh.lt hh.ltD
  have lD : D < w1.heap.size := hh.ltD
  have lX1 : X < w1.heap.size := by omega
  have eXD : ¬ X = D := by have := hh.lt; omega
  have eDX : ¬ D = X := by omega
  have k2 : w1.cell? ⟨X, 2, none⟩ = _ := (hb1.cell (p := ⟨X, 2, none⟩) lXB).trans ((show _ = w.cell? ⟨X, 2, none⟩ by go_simp).trans c2)
  have k3 : w1.cell? ⟨X, 3, none⟩ = _ := (hb1.cell (p := ⟨X, 3, none⟩) lXB).trans ((show _ = w.cell? ⟨X, 3, none⟩ by go_simp).trans c3)
  have d0 := hh.row 0 _ rfl
  have fd0 := hh.frD (s + 0)
  have d1 := hh.row 1 _ rfl
  have fd1 := hh.frD (s + 1)
  have d2 := hh.row 2 _ rfl
  have fd2 := hh.frD (s + 2)
  have d3 := hh.row 3 _ rfl
  have fd3 := hh.frD (s + 3)
  rw [Nat.add_zero] at d0 fd0
  have o0 : w1.cell? ⟨w.heap.size, 0, none⟩ = some (.bool false) := hk1.cell (by have := HBUF.out.lt; omega) (by go_simp)
  have o1 : w1.cell? ⟨w.heap.size, 1, none⟩ = some (.bool false) := hk1.cell (by have := HBUF.out.lt; omega) (by go_simp)
  have lO : w.heap.size < w1.heap.size := World.block_lt_of_cell? _ _ o0
  have eOD : ¬ w.heap.size = D := by rcases HBUF.out.old (by have h0 := Below.refl w.heap.size w; exact (by repeat (first | with_reducible assumption | with_reducible refine Below.drew ?_ | with_reducible refine below_drewN' ?_ _ | with_reducible refine Below.alloc ?_ ?_ _ | with_reducible refine Below.setCell ?_ ?_ _ | with_reducible exact Nat.le_refl _ | omega | focus (simp; done) | focus (simp; omega)))) hD1 with h | h <;> (try simp at h) <;> omega
  have HH := Lib.hid (show Holds w1 B D s (y0 :: y1 :: y2 :: y3 :: pay) from hh)
  have HB1 := Lib.hid (show Below B w w1 from Below.trans (by have h0 := Below.refl B w; have := HBUF.out.lt; exact (by repeat (first | with_reducible assumption | with_reducible refine Below.drew ?_ | with_reducible refine below_drewN' ?_ _ | with_reducible refine Below.alloc ?_ ?_ _ | with_reducible refine Below.setCell ?_ ?_ _ | with_reducible exact Nat.le_refl _ | omega | focus (simp; done) | focus (simp; omega)))) hb1)
  clear hh hb1 hk1 hD1 c2 c3 lX lXw
  go_wp2_with (first | (go_at_call 106; refine (tcode_c x0 x1 (y0 := .int .u8 y0) (y1 := .int .u8 y1) (by omega) h0 h1 (by go_simp) (by go_simp) (by go_simp) (by go_simp)).mono ?_; rintro e w' ⟨rfl, qt, rfl⟩))
  refine wp_region_same [7] (.q 0 (.q 1 (.q 2 (.q 3 (.q 4 (.q 5 (.q 6 (.l 7 .done .stop)))))))) (by kernel_rfl) (by kernel_rfl) (fun _ _ d _ _ h => by cases d <;> exact h) (by simp only [Ord.fill, nthOp]; rfl) ?_; intro hSm
  repeat
    first | refine lexO_pass rfl ?_ | (refine lexO_take2 ?_ rfl (by kernel_rfl) (by with_reducible assumption) (fun w' hS K Q' hK => ?_) ?_; rotate_left; focus (have hS2 := hS.2; clear hS; go_wp2_with fail; exact hK))
  refine lexO_do rfl (fun K hK => ?_) lexO_stop
  go_wp2_with (go_at_call 101; refine (put16_c x2 x3 (y0 := .int .u8 y2) (y1 := .int .u8 y3) (by omega) h2 h3 (by go_simp) (by go_simp) (by go_simp) (by go_simp)).mono ?_; rintro e w' ⟨rfl, rfl⟩)
  first | refine step_last (by decide) (lexO_done ?_) | refine lexO_done ?_
  go_wp2_with fail
  refine bodyPost_ret (v := .nilIface) (by simp only [results, Tryz.results104]; go_simp) rfl ⟨rfl, ?_, D, s, ?_⟩
  · have h0 := HB1.out
    have h1 := HH.out.lt
    exact (by repeat (first | with_reducible assumption | with_reducible refine Below.drew ?_ | with_reducible refine below_drewN' ?_ _ | with_reducible refine Below.alloc ?_ ?_ _ | with_reducible refine Below.setCell ?_ ?_ _ | with_reducible exact Nat.le_refl _ | omega | focus (simp; done) | focus (simp; omega)))
  · show Holds _ B D s (((((y0 :: y1 :: y2 :: y3 :: pay).set 0 x0).set 1 x1).set 2 x2).set 3 x3)
    repeat (first | with_reducible exact HH.out | with_reducible refine Holds.drew ?_ | with_reducible refine Holds.drewN ?_ _ | with_reducible refine Holds.alloc ?_ _ | refine Holds.set ?_ (by simp) (by omega) _)
end Go.Proofs.YtaejicpdaldpiaaGreat
