/-
  SerializeTo of asfpong.
-/
import Derived.Test.YtaejicpdaldpiaaGreatMasfpong
import Derived.Test.YtaejicpdaldpiaaGreatWmld
namespace Go.Proofs.YtaejicpdaldpiaaGreat
open Go Go.RowKit

theorem m_ser_asfpong (k : Nat) (a : Addr) (w : World) : (method (k + 1) 140 (.pointer (some a)) "SerializeTo").run Tryz.prog w = .ok (145, .pointer (some a)) w := by kernel_rfl
theorem c_ser_asfpong (args : Array Value) (W : World) : (callFunc 145 args).run Tryz.prog W = .ok (.enter 145 args) W := by kernel_rfl

/-- The two bits of a byte that are told. -/
def two (a b : Int) (t u : Bool) : Int := (if t then a else 0) + (if u then b else 0)

theorem zeros_step {L : List Int} {a k : Nat} (ha : a ≤ k) (hk : k < L.length) : (L.take a ++ (List.replicate (k - a) 0 ++ L.drop k)).set k 0 = L.take a ++ (List.replicate (k + 1 - a) 0 ++ L.drop (k + 1)) := by
  rw [List.set_append_right _ _ (by simp; omega), List.length_take, Nat.min_eq_left (by omega), List.set_append_right _ _ (by simp)]
  rw [List.length_replicate, Nat.sub_self, List.drop_eq_getElem_cons hk, List.set_cons_zero, show k + 1 - a = (k - a) + 1 by omega, List.replicate_succ']
  simp

theorem Holds.setv {w : World} {B D s : Nat} {bs : List Int} (h : Holds w B D s bs) {i : Nat} (hi : i < bs.length) {k : Nat} (hk : k = s + i) {x : Int} {v : Value} (hv : v = .int .u8 x) : Holds (w.setCell ⟨D, k, none⟩ v) B D s (bs.set i x) := by
  subst hv
  exact h.set hi hk x

set_option maxRecDepth 100000 in
set_option maxHeartbeats 16000000 in
theorem ser_asfpong {x0 x1 x2 x3 a0 a1 a2 a3 : Int} {t2 t3 t4 t5 : Bool} (h0 : 0 ≤ x0 ∧ x0 ≤ 255) (h1 : 0 ≤ x1 ∧ x1 ≤ 255) (h2 : 0 ≤ x2 ∧ x2 ≤ 255) (h3 : 0 ≤ x3 ∧ x3 ≤ 255) {pay : List Int} (hl : pay.length ≤ 400) :
    SerOf 145 pay (x0 :: x1 :: x2 :: x3 :: a0 :: a1 :: a2 :: a3 :: two 128 1 t2 t3 :: two 128 32 t4 t5 :: 0 :: 0 :: 0 :: 0 :: 0 :: 0 :: pay) (MIsAsfpong (((x0 * 256 + x1) * 256 + x2) * 256 + x3) a0 a1 a2 a3 t2 t3 t4 t5) := by
  intro w0 w X B hI hb hB hbuf
  obtain ⟨lX, c2, c3, c4, c5, c6, c7, c8, c9, c10⟩ := hI
  have mp := m_prepend
  replace c2 := (hb.cell (p := ⟨X, 2, none⟩) lX).trans c2
  replace c3 := (hb.cell (p := ⟨X, 3, none⟩) lX).trans c3
  replace c4 := (hb.cell (p := ⟨X, 4, none⟩) lX).trans c4
  replace c5 := (hb.cell (p := ⟨X, 5, none⟩) lX).trans c5
  replace c6 := (hb.cell (p := ⟨X, 6, none⟩) lX).trans c6
  replace c7 := (hb.cell (p := ⟨X, 7, none⟩) lX).trans c7
  replace c8 := (hb.cell (p := ⟨X, 8, none⟩) lX).trans c8
  replace c9 := (hb.cell (p := ⟨X, 9, none⟩) lX).trans c9
  replace c10 := (hb.cell (p := ⟨X, 10, none⟩) lX).trans c10
  have lXB : X < B := by omega
  have lXw : X < w.heap.size := Nat.lt_of_lt_of_le lX hb.size
  have HBUF := Lib.hid hbuf
  clear hbuf hb hB
  go_enter Tryz.func145, Tryz.ntmps145
  go_wp2_with fail
  refine (prepend_c (k := 16) (bs := pay) (HBUF.out.keeps (by have h0 := Below.refl w.heap.size w; exact (by repeat (first | with_reducible assumption | with_reducible refine Below.drew ?_ | with_reducible refine below_drewN' ?_ _ | with_reducible refine Below.alloc ?_ ?_ _ | with_reducible refine Below.setCell ?_ ?_ _ | with_reducible exact Nat.le_refl _ | omega | focus (simp; done) | focus (simp; omega))))) (by omega) (by omega) (by omega)).mono ?_
  rintro e1 w1 ⟨D, s, c, xs, rfl, hc4, hcm, hxl, hh, hb1, hk1, hD1⟩
  have lB1 : B < w1.heap.size := Nat.lt_trans hh.lt hh.ltD
  have lD : D < w1.heap.size := hh.ltD
  have lX1 : X < w1.heap.size := by omega
  have eXD : ¬ X = D := by have := hh.lt; omega
  have eDX : ¬ D = X := by omega
  have k2 : w1.cell? ⟨X, 2, none⟩ = _ := (hb1.cell (p := ⟨X, 2, none⟩) lXB).trans ((show _ = w.cell? ⟨X, 2, none⟩ by go_simp).trans c2)
  have k3 : w1.cell? ⟨X, 3, none⟩ = _ := (hb1.cell (p := ⟨X, 3, none⟩) lXB).trans ((show _ = w.cell? ⟨X, 3, none⟩ by go_simp).trans c3)
  have k4 : w1.cell? ⟨X, 4, none⟩ = _ := (hb1.cell (p := ⟨X, 4, none⟩) lXB).trans ((show _ = w.cell? ⟨X, 4, none⟩ by go_simp).trans c4)
  have k5 : w1.cell? ⟨X, 5, none⟩ = _ := (hb1.cell (p := ⟨X, 5, none⟩) lXB).trans ((show _ = w.cell? ⟨X, 5, none⟩ by go_simp).trans c5)
  have k6 : w1.cell? ⟨X, 6, none⟩ = _ := (hb1.cell (p := ⟨X, 6, none⟩) lXB).trans ((show _ = w.cell? ⟨X, 6, none⟩ by go_simp).trans c6)
  have k7 : w1.cell? ⟨X, 7, none⟩ = _ := (hb1.cell (p := ⟨X, 7, none⟩) lXB).trans ((show _ = w.cell? ⟨X, 7, none⟩ by go_simp).trans c7)
  have k8 : w1.cell? ⟨X, 8, none⟩ = _ := (hb1.cell (p := ⟨X, 8, none⟩) lXB).trans ((show _ = w.cell? ⟨X, 8, none⟩ by go_simp).trans c8)
  have k9 : w1.cell? ⟨X, 9, none⟩ = _ := (hb1.cell (p := ⟨X, 9, none⟩) lXB).trans ((show _ = w.cell? ⟨X, 9, none⟩ by go_simp).trans c9)
  have k10 : w1.cell? ⟨X, 10, none⟩ = _ := (hb1.cell (p := ⟨X, 10, none⟩) lXB).trans ((show _ = w.cell? ⟨X, 10, none⟩ by go_simp).trans c10)
  obtain ⟨y0, y1, y2, y3, y4, y5, y6, y7, y8, y9, t, rfl, ht⟩ : ∃ a b c d e f g h i j t, xs = a :: b :: c :: d :: e :: f :: g :: h :: i :: j :: t ∧ t.length = 6 := by
    match xs, hxl with
    | a :: b :: c :: d :: e :: f :: g :: h :: i :: j :: t, hx => exact ⟨a, b, c, d, e, f, g, h, i, j, t, rfl, by simp at hx; omega⟩
  have d0 := hh.row 0 _ rfl
  have d1 := hh.row 1 _ rfl
  have d2 := hh.row 2 _ rfl
  have d3 := hh.row 3 _ rfl
  rw [Nat.add_zero] at d0
  have fd0 := hh.frD s
  have fd1 := hh.frD (s + 1)
  have fd2 := hh.frD (s + 2)
  have fd3 := hh.frD (s + 3)
  have HH := Lib.hid (show Holds w1 B D s (y0 :: y1 :: y2 :: y3 :: y4 :: y5 :: y6 :: y7 :: y8 :: y9 :: (t ++ pay)) from hh)
  have HB1 := Lib.hid (show Below B w w1 from Below.trans (by have h0 := Below.refl B w; have := HBUF.out.lt; exact (by repeat (first | with_reducible assumption | with_reducible refine Below.drew ?_ | with_reducible refine below_drewN' ?_ _ | with_reducible refine Below.alloc ?_ ?_ _ | with_reducible refine Below.setCell ?_ ?_ _ | with_reducible exact Nat.le_refl _ | omega | focus (simp; done) | focus (simp; omega)))) hb1)
  clear hh hb1 hk1 hD1 c2 c3 c4 c5 c6 c7 c8 c9 c10 lX lXw
  go_wp2_with fail
  refine wp_region_same [7] (.q 0 (.q 1 (.q 2 (.q 3 (.q 4 (.q 5 (.q 6 (.l 7 .done .stop)))))))) (by kernel_rfl) (by kernel_rfl) (fun _ _ d _ _ h => by cases d <;> exact h) (by simp only [Ord.fill, nthOp]; rfl) ?_; intro hSm
  repeat
    first | refine lexO_pass rfl ?_ | (refine lexO_take2 ?_ rfl (by kernel_rfl) (by with_reducible assumption) (fun w' hS K Q' hK => ?_) ?_; rotate_left; focus (have hS2 := hS.2; clear hS; go_wp2_with fail; exact hK))
  refine lexO_do rfl (fun K hK => ?_) lexO_stop
  go_wp2_with (go_at_call 142; refine (put32_c x0 x1 x2 x3 (y0 := .int .u8 y0) (y1 := .int .u8 y1) (y2 := .int .u8 y2) (y3 := .int .u8 y3) (by omega) h0 h1 h2 h3 (by go_simp) (by go_simp) (by go_simp) (by go_simp) (by go_simp) (by go_simp) (by go_simp) (by go_simp)).mono ?_; rintro e w' ⟨rfl, rfl⟩)
  first | refine step_last (by decide) (lexO_done ?_) | refine lexO_done ?_
  go_wp2_with fail
  refine wp_gen (fun W => Holds W B D s (x0 :: x1 :: x2 :: x3 :: y4 :: y5 :: y6 :: y7 :: y8 :: y9 :: (t ++ pay)) ∧ Below B w W ∧ X < W.heap.size ∧ (W.cell? ⟨X, 3, none⟩ = some (.int .u8 a0) ∧ W.cell? ⟨X, 4, none⟩ = some (.int .u8 a1) ∧ W.cell? ⟨X, 5, none⟩ = some (.int .u8 a2) ∧ W.cell? ⟨X, 6, none⟩ = some (.int .u8 a3)) ∧
    (W.cell? ⟨X, 7, none⟩ = some (.bool t2) ∧ W.cell? ⟨X, 8, none⟩ = some (.bool t3) ∧ W.cell? ⟨X, 9, none⟩ = some (.bool t4) ∧ W.cell? ⟨X, 10, none⟩ = some (.bool t5))) ?F (fun W hW => ?_)
  case F =>
    refine ⟨?_, ?_, by first | omega | (simp; omega), ⟨by go_simp, by go_simp, by go_simp, by go_simp⟩, ⟨by go_simp, by go_simp, by go_simp, by go_simp⟩⟩
    · show Holds _ B D s (((((y0 :: y1 :: y2 :: y3 :: y4 :: y5 :: y6 :: y7 :: y8 :: y9 :: (t ++ pay)).set 0 x0).set 1 x1).set 2 x2).set 3 x3)
      repeat (first | with_reducible exact HH.out | with_reducible refine Holds.drew ?_ | with_reducible refine Holds.drewN ?_ _ | with_reducible refine Holds.alloc ?_ _ | refine Holds.set ?_ (by simp) (by omega) _)
    · have h0 := HB1.out
      have h1 := HH.out.lt
      exact (by repeat (first | with_reducible assumption | with_reducible refine Below.drew ?_ | with_reducible refine below_drewN' ?_ _ | with_reducible refine Below.alloc ?_ ?_ _ | with_reducible refine Below.setCell ?_ ?_ _ | with_reducible exact Nat.le_refl _ | omega | focus (simp; done) | focus (simp; omega)))
  obtain ⟨hW1, hW2, lXW, ⟨q3, q4, q5, q6⟩, ⟨q7, q8, q9, q10⟩⟩ := hW
  clear k2 k3 k4 k5 k6 k7 k8 k9 k10 d0 d1 d2 d3 fd0 fd1 fd2 fd3 lX1 lD lB1 HH HB1
  have lDW : D < W.heap.size := hW1.ltD
  have HW := Lib.hid hW1
  have HBW := Lib.hid hW2
  clear hW1 hW2
  refine wp_region_same [6] (.q 0 (.q 1 (.q 2 (.q 3 (.q 4 (.q 5 (.l 6 .done .stop))))))) (by kernel_rfl) (by kernel_rfl) (fun _ _ d _ _ h => by cases d <;> exact h) (by simp only [Ord.fill, nthOp]; rfl) ?_; intro hSm
  repeat
    first | refine lexO_pass rfl ?_ | (refine lexO_take2 ?_ rfl (by kernel_rfl) (by with_reducible assumption) (fun w' hS K Q' hK => ?_) ?_; rotate_left; focus (have hS2 := hS.2; clear hS; go_wp2_with fail; exact hK))
  refine lexO_do rfl (fun K hK => ?_) lexO_stop
  refine wp_copy_cells (.tmp 27) (.tmp 31) 22 22 5 rfl Tryz.underlying22 sz1B (b := D) (off := s + 4) (cs := [.int .u8 a0, .int .u8 a1, .int .u8 a2, .int .u8 a3]) rfl rfl (by rfl) ?hcs ?hcc ?hcf ?hco (hK _ _ (step_last (by decide) (lexO_done ?_)))
  case hcs =>
    intro j u hu
    rw [addr_add]
    rcases j with _ | _ | _ | _ | j
    · simp at hu; subst hu; exact q3
    · simp at hu; subst hu; exact q4
    · simp at hu; subst hu; exact q5
    · simp at hu; subst hu; exact q6
    · simp at hu
  case hcc =>
    intro j hj
    rw [World.cell?_drew, show s + 4 + j = s + (4 + j) by omega, HW.out.row (4 + j) _ (List.getElem?_eq_getElem (by simp at hj ⊢; omega))]
    rfl
  case hcf => exact fun j _ => HW.out.frD _
  case hco => simp [Value.oneCell']
  have HW2 := Lib.hid (Holds.setCells (w := W.drew) (HW.out.drew) (i := 4) (vs := [a0, a1, a2, a3]) rfl (by simp <;> omega))
  simp only [List.map_cons, List.map_nil] at HW2
  have HB2 := Lib.hid (show Below B w (W.drew.setCells D (s + 4) [.int .u8 a0, .int .u8 a1, .int .u8 a2, .int .u8 a3]) from below_setCells (Nat.le_of_lt HW.out.lt) _ _ HBW.out.drew)
  have r7 := (cell_setCells eXD [Value.int .u8 a0, .int .u8 a1, .int .u8 a2, .int .u8 a3] (s + 4) W.drew (j := 7)).trans q7
  have r8 := (cell_setCells eXD [Value.int .u8 a0, .int .u8 a1, .int .u8 a2, .int .u8 a3] (s + 4) W.drew (j := 8)).trans q8
  have r9 := (cell_setCells eXD [Value.int .u8 a0, .int .u8 a1, .int .u8 a2, .int .u8 a3] (s + 4) W.drew (j := 9)).trans q9
  have r10 := (cell_setCells eXD [Value.int .u8 a0, .int .u8 a1, .int .u8 a2, .int .u8 a3] (s + 4) W.drew (j := 10)).trans q10
  clear q3 q4 q5 q6 q7 q8 q9 q10 HW HBW lXW lDW
  generalize W.drew.setCells D (s + 4) [.int .u8 a0, .int .u8 a1, .int .u8 a2, .int .u8 a3] = W2 at *
  have HW3 := Lib.hid (show Holds W2 B D s (x0 :: x1 :: x2 :: x3 :: a0 :: a1 :: a2 :: a3 :: y8 :: y9 :: (t ++ pay)) from HW2.out)
  have d8 := HW3.out.row 8 _ rfl
  have d9 := HW3.out.row 9 _ rfl
  have fd8 := HW3.out.frD (s + 8)
  have fd9 := HW3.out.frD (s + 9)
  have lD2 : D < W2.heap.size := HW3.out.ltD
  have lX2 : X < W2.heap.size := World.block_lt_of_cell? _ _ r7
  have hss8 : ∀ (w : World) v v', (w.setCell ⟨D, s + 8, none⟩ v).setCell ⟨D, s + 8, none⟩ v' = w.setCell ⟨D, s + 8, none⟩ v' := fun w v v' => setCell2 w D (s + 8) v v'
  have hss9 : ∀ (w : World) v v', (w.setCell ⟨D, s + 9, none⟩ v).setCell ⟨D, s + 9, none⟩ v' = w.setCell ⟨D, s + 9, none⟩ v' := fun w v v' => setCell2 w D (s + 9) v v'
  clear HW2
  obtain ⟨v8, hv8⟩ : ∃ v, v = two 128 1 t2 t3 := ⟨_, rfl⟩
  obtain ⟨v9, hv9⟩ : ∃ v, v = two 128 32 t4 t5 := ⟨_, rfl⟩
  obtain ⟨L, hL⟩ : ∃ L, L = x0 :: x1 :: x2 :: x3 :: a0 :: a1 :: a2 :: a3 :: v8 :: v9 :: (t ++ pay) := ⟨_, rfl⟩
  have lL : 16 ≤ L.length := by rw [hL]; simp; omega
  have HL := Lib.hid hL
  have HV8 := Lib.hid hv8
  have HV9 := Lib.hid hv9
  clear hL hv8 hv9
  cases t2 <;> cases t3 <;> cases t4 <;> cases t5
  all_goals
    go_wp2_with fail
    refine wp_gen (fun W => Holds W B D s L ∧ Below B w W) ⟨?_, ?_⟩ (fun W hW => ?_)
    · rw [HL.out]
      show Holds _ B D s (((x0 :: x1 :: x2 :: x3 :: a0 :: a1 :: a2 :: a3 :: y8 :: y9 :: (t ++ pay)).set 8 v8).set 9 v9)
      exact Holds.setv (Holds.setv HW3.out (by simp) rfl (by rw [HV8.out]; first | rfl | kernel_rfl)) (by simp) rfl (by rw [HV9.out]; first | rfl | kernel_rfl)
    · have h0 := HB2.out
      have h1 := HW3.out.lt
      exact (by repeat (first | with_reducible assumption | with_reducible refine Below.drew ?_ | with_reducible refine below_drewN' ?_ _ | with_reducible refine Below.alloc ?_ ?_ _ | with_reducible refine Below.setCell ?_ ?_ _ | with_reducible exact Nat.le_refl _ | omega | focus (simp; done) | focus (simp; omega)))
    obtain ⟨hW1, hW2⟩ := hW
    clear r7 r8 r9 r10 d8 d9 fd8 fd9 lD2 lX2 hss8 hss9 HW3 HB2
    go_loopw [9] (fun i wr => ∃ k : Nat, 10 ≤ k ∧ k ≤ 16 ∧ i = .int .i64 (k : Int) ∧ Hid (Holds wr B D s (L.take 10 ++ (List.replicate (k - 10) 0 ++ L.drop k))) ∧ Hid (Below B w wr)) (fun i _ => 16 - (intOf i).toNat)
    case atStart => exact ⟨10, Nat.le_refl _, by omega, rfl, Lib.hid (by simpa using hW1), Lib.hid hW2⟩
    case round =>
      obtain ⟨k, hk0, hk, rfl, hwr, hbr⟩ := hrel
      have ll : (L.take 10 ++ (List.replicate (k - 10) 0 ++ L.drop k)).length = L.length := by simp; omega
      by_cases hlt : k < 16
      · obtain ⟨z, dk⟩ : ∃ z, wr.cell? ⟨D, s + k, none⟩ = some (.int .u8 z) := ⟨_, hwr.out.row k _ (List.getElem?_eq_getElem (by rw [ll]; omega))⟩
        have fdk := hwr.out.frD (s + k)
        have lDw : D < wr.heap.size := hwr.out.ltD
        have hkI : ((k : Nat) : Int) < 16 := by omega
        have HK1 := Lib.hid hlt
        have HLL := Lib.hid ll
        clear ll
        go_wp2_with fail
        go_roundw
        case rel => exact ⟨k + 1, by omega, HK1.out, by go_num, Lib.hid (by rw [← zeros_step hk0 (by have := HK1.out; omega)]; exact hwr.out.set (by rw [HLL.out]; have := HK1.out; omega) rfl 0), Lib.hid (hbr.out.setCell (Nat.le_of_lt hwr.out.lt) _)⟩
        case measure => have := HK1.out; simp [intOf]; omega
      · obtain rfl : k = 16 := by omega
        clear ll
        go_wp2_with fail
        refine bodyPost_ret (v := .nilIface) (by simp only [results, Tryz.results145]; go_simp) rfl ⟨rfl, hbr.out, D, s, ?_⟩
        have h := hwr.out
        rw [HL.out, HV8.out, HV9.out] at h
        have e : (t ++ pay).drop 6 = pay := by rw [← ht]; exact List.drop_left
        simpa [e] using h
end Go.Proofs.YtaejicpdaldpiaaGreat
