/-
  SerializeTo of mldquery2.
-/
import Derived.Test.YtmpifdanfnebpaaGreatSrcs
namespace Go.Proofs.YtmpifdanfnebpaaGreat
open Go Go.RowKit

def MIsQuery (m : Int) (d : List Int) (t : Bool) (q i n : Int) (ips : List (List Int)) (w : World) (X : Nat) : Prop :=
  X < w.heap.size ∧ w.cell? ⟨X, 2, none⟩ = some (.int .u16 m) ∧ (∃ v, w.cell? ⟨X, 3, none⟩ = some v ∧ SB w (fun _ => True) v d) ∧ w.cell? ⟨X, 4, none⟩ = some (.bool t) ∧ w.cell? ⟨X, 5, none⟩ = some (.int .u8 q) ∧
    w.cell? ⟨X, 6, none⟩ = some (.int .u8 i) ∧ w.cell? ⟨X, 7, none⟩ = some (.int .u16 n) ∧ ∃ v, w.cell? ⟨X, 8, none⟩ = some v ∧ Rows eB w 0 (fun _ => True) 84 v ips

/-- The byte of a question that tells two things. -/
def qb (t : Bool) (q : Int) : Int := bits .and .u8 (if t then bits .or .u8 (bits .and .u8 q 7) 8 else bits .and .u8 (bits .and .u8 q 7) 247) 15

theorem m_ser_query (k : Nat) (a : Addr) (w : World) : (method (k + 1) 95 (.pointer (some a)) "SerializeTo").run Tryz.prog w = .ok (108, .pointer (some a)) w := by kernel_rfl
theorem c_ser_query (args : Array Value) (W : World) : (callFunc 108 args).run Tryz.prog W = .ok (.enter 108 args) W := by kernel_rfl

set_option maxRecDepth 100000 in
set_option maxHeartbeats 8000000 in
theorem ser_query {x0 x1 q x21 x22 x23 : Int} {t : Bool} {d : List Int} {ips : List (List Int)} (h0 : 0 ≤ x0 ∧ x0 ≤ 255) (h1 : 0 ≤ x1 ∧ x1 ≤ 255) (h22 : 0 ≤ x22 ∧ x22 ≤ 255) (h23 : 0 ≤ x23 ∧ x23 ≤ 255) (hds : d.length = 16)
    (hi16 : ∀ d ∈ ips, d.length = 16) (hin : ips.length ≤ 50) :
    SerOf 108 [] (x0 :: x1 :: 0 :: 0 :: (d ++ (qb t q :: x21 :: x22 :: x23 :: ips.flatten))) (MIsQuery (x0 * 256 + x1) d t q x21 (x22 * 256 + x23) ips) := by
  intro w0 w X B hI hb hB hbuf
  obtain ⟨lX, c2, ⟨v3, c3, hv⟩, c4, c5, c6, c7, v8, c8, hrows⟩ := hI
  have mp := m_prepend
  have HV := Lib.hid (hv.imp (fun b hb _ => hb : ∀ b, b < w0.heap.size → True → b < w0.heap.size))
  obtain ⟨p16, c16, rfl, -, -, -, -⟩ := hv
  rw [hds] at c3
  have lXB : X < B := by omega
  have lXw : X < w.heap.size := Nat.lt_of_lt_of_le lX hb.size
  have HBUF := Lib.hid hbuf
  have HB0 := Lib.hid hB
  have HBB := Lib.hid hb
  have HC := Lib.hid (And.intro c2 (And.intro c3 (And.intro c4 (And.intro c5 (And.intro c6 c7)))))
  have HR := Lib.hid (And.intro c8 hrows)
  have HI16 := Lib.hid hi16
  clear hbuf hb hB c2 c3 c4 c5 c6 c7 c8 hrows hi16
  go_enter Tryz.func108, Tryz.ntmps108
  go_wp2_with fail
  refine (srcs_c (w0 := w0) (ips := ips) (pay := []) lX HR.out.1 HR.out.2 HI16.out hin (by simp) (by have h0 := HBB.out; have := h0.size; exact (by repeat (first | with_reducible assumption | with_reducible refine Below.drew ?_ | with_reducible refine below_drewN' ?_ _ | with_reducible refine Below.alloc ?_ ?_ _ | with_reducible refine Below.setCell ?_ ?_ _ | with_reducible exact Nat.le_refl _ | omega | focus (simp; done) | focus (simp; omega)))) HB0.out (HBUF.out.keeps (by have h0 := Below.refl w.heap.size w; exact (by repeat (first | with_reducible assumption | with_reducible refine Below.drew ?_ | with_reducible refine below_drewN' ?_ _ | with_reducible refine Below.alloc ?_ ?_ _ | with_reducible refine Below.setCell ?_ ?_ _ | with_reducible exact Nat.le_refl _ | omega | focus (simp; done) | focus (simp; omega)))))).mono ?_
  rintro e0 w1 ⟨rfl, hb1, hbuf1⟩
  have H1 := Lib.hid (show Below B w w1 from Below.trans (by have h0 := Below.refl B w; have := HBUF.out.lt; exact (by repeat (first | with_reducible assumption | with_reducible refine Below.drew ?_ | with_reducible refine below_drewN' ?_ _ | with_reducible refine Below.alloc ?_ ?_ _ | with_reducible refine Below.setCell ?_ ?_ _ | with_reducible exact Nat.le_refl _ | omega | focus (simp; done) | focus (simp; omega)))) hb1)
  have HBUF1 := Lib.hid hbuf1
  clear hb1 hbuf1
  go_wp2_with fail
  have hfl : ips.flatten.length ≤ 800 := by
    have : ∀ l : List (List Int), (∀ d ∈ l, d.length = 16) → l.flatten.length = 16 * l.length := by
      intro l hl
      induction l with
      | nil => rfl
      | cons d l ih => rw [List.flatten_cons, List.length_append, ih (fun x hx => hl x (by simp [hx])), hl d (by simp), List.length_cons]; omega
    rw [this _ HI16.out]
    omega
  have HFL := Lib.hid hfl
  refine (prepend_c (k := 24) (bs := ips.flatten ++ []) HBUF1.out (by omega) (by omega) (by rw [List.append_nil]; omega)).mono ?_
  rintro e1 w2 ⟨D, s, c, xs, rfl, hcc, hcm, hxl, hh, hb2, -, -⟩
  rw [List.append_nil] at hh
  have hw : ∀ j u, w0.cell? ⟨X, j, none⟩ = some u → w2.cell? ⟨X, j, none⟩ = some u := fun j u hu => ((H1.out.trans hb2).cell (p := ⟨X, j, none⟩) lXB).trans ((HBB.out.cell (p := ⟨X, j, none⟩) lX).trans hu)
  have lD : D < w2.heap.size := hh.ltD
  have eXD : ¬ X = D := by have := hh.lt; omega
  have eDX : ¬ D = X := by omega
  have hci : (24 : Int) ≤ (c : Int) := by omega
  have hc2 : (2 : Int) ≤ (c : Int) := by omega
  have hc4 : (4 : Int) ≤ (c : Int) := by omega
  have hc20 : (20 : Int) ≤ (c : Int) := by omega
  have ec2 : ¬ c = 2 := by omega
  have ec4 : ¬ c = 4 := by omega
  have ec22 : ¬ c = 22 := by omega
  obtain ⟨a0, a1, a2, a3, z, rfl, hz⟩ : ∃ a b c d z, xs = a :: b :: c :: d :: z ∧ z.length = 20 := by
    match xs, hxl with
    | a :: b :: c :: d :: z, hx => exact ⟨a, b, c, d, z, rfl, by simp at hx; omega⟩
  have k2 : w2.cell? ⟨X, 2, none⟩ = some (.int .u16 (x0 * 256 + x1)) := hw _ _ HC.out.1
  have k3 : w2.cell? ⟨X, 3, none⟩ = some (.slice p16 16 c16) := hw _ _ HC.out.2.1
  have k4 : w2.cell? ⟨X, 4, none⟩ = some (.bool t) := hw _ _ HC.out.2.2.1
  have k5 : w2.cell? ⟨X, 5, none⟩ = some (.int .u8 q) := hw _ _ HC.out.2.2.2.1
  have k6 : w2.cell? ⟨X, 6, none⟩ = some (.int .u8 x21) := hw _ _ HC.out.2.2.2.2.1
  have k7 : w2.cell? ⟨X, 7, none⟩ = some (.int .u16 (x22 * 256 + x23)) := hw _ _ HC.out.2.2.2.2.2
  have lX2 : X < w2.heap.size := World.block_lt_of_cell? _ _ k2
  have d0 := hh.row 0 _ rfl
  have d1 := hh.row 1 _ rfl
  rw [Nat.add_zero] at d0
  have fd0 := hh.frD s
  have fd1 := hh.frD (s + 1)
  have HH := Lib.hid (show Holds w2 B D s (a0 :: a1 :: a2 :: a3 :: (z ++ ips.flatten)) from hh)
  have H2 := Lib.hid (show Below B w w2 from H1.out.trans hb2)
  clear hh hb2 hw hcm hfl hcc
  go_wp2_with fail
  refine wp_region_same [7] (.q 0 (.q 1 (.q 2 (.q 3 (.q 4 (.q 5 (.q 6 (.l 7 .done .stop)))))))) (by kernel_rfl) (by kernel_rfl) (fun _ _ d _ _ h => by cases d <;> exact h) (by simp only [Ord.fill, nthOp]; rfl) ?_; intro hSm
  repeat
    first | refine lexO_pass rfl ?_ | (refine lexO_take2 ?_ rfl (by kernel_rfl) (by with_reducible assumption) (fun w' hS K Q' hK => ?_) ?_; rotate_left; focus (have hS2 := hS.2; clear hS; go_wp2_with fail; exact hK))
  refine lexO_do rfl (fun K hK => ?_) lexO_stop
  go_wp2_with (go_at_call 90; refine (put16_c x0 x1 (y0 := .int .u8 a0) (y1 := .int .u8 a1) (by omega) h0 h1 (by go_simp) (by go_simp) (by go_simp) (by go_simp)).mono ?_; rintro e w' ⟨rfl, rfl⟩)
  first | refine step_last (by decide) (lexO_done ?_) | refine lexO_done ?_
  go_wp2_with fail
  generalize hW : World.drew _ = W
  have HW := Lib.hid (show Holds W B D s (x0 :: x1 :: a2 :: a3 :: (z ++ ips.flatten)) from by
    rw [← hW]
    clear hW
    show Holds _ B D s (((a0 :: a1 :: a2 :: a3 :: (z ++ ips.flatten)).set 0 x0).set 1 x1)
    repeat (first | with_reducible exact HH.out | with_reducible refine Holds.drew ?_ | with_reducible refine Holds.drewN ?_ _ | with_reducible refine Holds.alloc ?_ _ | refine Holds.set ?_ (by simp) (by omega) _))
  have HBW := Lib.hid (show Below B w W from by
    rw [← hW]
    clear hW
    have h0 := H2.out
    have h1 := HH.out.lt
    exact (by repeat (first | with_reducible assumption | with_reducible refine Below.drew ?_ | with_reducible refine below_drewN' ?_ _ | with_reducible refine Below.alloc ?_ ?_ _ | with_reducible refine Below.setCell ?_ ?_ _ | with_reducible exact Nat.le_refl _ | omega | focus (simp; done) | focus (simp; omega))))
  have l2 : W.cell? ⟨X, 2, none⟩ = some (.int .u16 (x0 * 256 + x1)) := by rw [← hW]; clear hW; go_simp
  have l3 : W.cell? ⟨X, 3, none⟩ = some (.slice p16 16 c16) := by rw [← hW]; clear hW; go_simp
  have l4 : W.cell? ⟨X, 4, none⟩ = some (.bool t) := by rw [← hW]; clear hW; go_simp
  have l5 : W.cell? ⟨X, 5, none⟩ = some (.int .u8 q) := by rw [← hW]; clear hW; go_simp
  have l6 : W.cell? ⟨X, 6, none⟩ = some (.int .u8 x21) := by rw [← hW]; clear hW; go_simp
  have l7 : W.cell? ⟨X, 7, none⟩ = some (.int .u16 (x22 * 256 + x23)) := by rw [← hW]; clear hW; go_simp
  have WS : ∀ j v, [Value.int .u8 0, .int .u8 0][j]? = some v → W.cell? ((⟨w2.heap.size + 1, 0, none⟩ : Addr).add j) = some v := by
    intro j u hu
    rw [addr_add, ← hW]
    clear hW
    rcases j with _ | _ | j
    · simp at hu; subst hu; go_simp
    · simp at hu; subst hu; go_simp
    · simp at hu
  clear hW d0 d1 fd0 fd1 H2 HH lD lX2 k2 k3 k4 k5 k6 k7
  rw [run_copy_cells (P := Tryz.prog) W _ _ _ 5 _ _ _ _ _ _ _ [.int .u8 0, .int .u8 0] Tryz.underlying22 sz1B rfl WS ?hcc ?hcf ?hco]
  case hcc =>
    intro j hj
    rw [show s + 2 + j = s + (2 + j) by omega, HW.out.row (2 + j) _ (List.getElem?_eq_getElem (by simp at hj ⊢; omega))]
    rfl
  case hcf => exact fun j _ => HW.out.frD _
  case hco => simp [Value.oneCell']
  have HW2 := Lib.hid (show Holds (W.setCells D (s + 2) ([0, 0].map (.int .u8))) B D s (x0 :: x1 :: 0 :: 0 :: (z ++ ips.flatten)) from HW.out.setCells (i := 2) (vs := [0, 0]) rfl (by simp <;> omega))
  have HB2 := Lib.hid (show Below B w (W.setCells D (s + 2) [.int .u8 0, .int .u8 0]) from below_setCells (Nat.le_of_lt HW.out.lt) _ _ HBW.out)
  have m2 : (W.setCells D (s + 2) [Value.int .u8 0, .int .u8 0]).cell? ⟨X, 2, none⟩ = some (.int .u16 (x0 * 256 + x1)) := (cell_setCells eXD _ _ W (j := 2)).trans l2
  have m3 : (W.setCells D (s + 2) [Value.int .u8 0, .int .u8 0]).cell? ⟨X, 3, none⟩ = some (.slice p16 16 c16) := (cell_setCells eXD _ _ W (j := 3)).trans l3
  have m4 : (W.setCells D (s + 2) [Value.int .u8 0, .int .u8 0]).cell? ⟨X, 4, none⟩ = some (.bool t) := (cell_setCells eXD _ _ W (j := 4)).trans l4
  have m5 : (W.setCells D (s + 2) [Value.int .u8 0, .int .u8 0]).cell? ⟨X, 5, none⟩ = some (.int .u8 q) := (cell_setCells eXD _ _ W (j := 5)).trans l5
  have m6 : (W.setCells D (s + 2) [Value.int .u8 0, .int .u8 0]).cell? ⟨X, 6, none⟩ = some (.int .u8 x21) := (cell_setCells eXD _ _ W (j := 6)).trans l6
  have m7 : (W.setCells D (s + 2) [Value.int .u8 0, .int .u8 0]).cell? ⟨X, 7, none⟩ = some (.int .u16 (x22 * 256 + x23)) := (cell_setCells eXD _ _ W (j := 7)).trans l7
  simp only [List.map_cons, List.map_nil] at HW2
  clear HW HBW WS l2 l3 l4 l5 l6 l7
  generalize W.setCells D (s + 2) [.int .u8 0, .int .u8 0] = W2 at *
  clear W
  have lX2 : X < W2.heap.size := World.block_lt_of_cell? _ _ m2
  obtain ⟨b16, o16, rfl⟩ : ∃ b o, p16 = some ⟨b, o, none⟩ := by
    obtain ⟨p', c', he, -, -, -, hr⟩ := HV.out
    simp only [Value.slice.injEq] at he
    obtain ⟨rfl, -, -⟩ := he
    rcases hr with hr | ⟨b, o, rfl, -⟩
    · simp at hr; subst hr; simp at hds
    · exact ⟨b, o, rfl⟩
  have qT : ∀ (w : World) (a : Option Addr) (n c n' c' : Nat), (binOp .eql 84 (.slice a n c) (.slice none n' c')).run Tryz.prog w = .ok (.bool a.isNone) w := fun w a n c n' c' => Lib.run_eql_slice_nil w _ _ a n c n' c' Tryz.underlying84
  go_wp2_with (go_at_call 99; refine to16_c.mono ?_; rintro e w' ⟨rfl, rfl⟩)
  have WS2 := HV.out.srcs (W := W2) ⟨Nat.le_trans HBB.out.size HB2.out.size, fun b hb _ => (HB2.out.block b (by have := HB0.out; omega)).trans (HBB.out.block b hb)⟩ b16 o16 rfl
  rw [run_copy_cells (P := Tryz.prog) W2 _ _ _ 5 _ _ _ _ _ _ _ (d.map (.int .u8)) Tryz.underlying22 sz1B (by rw [List.length_map, hds]; rfl) WS2 ?hdc ?hdf ?hdo]
  case hdc =>
    intro j hj
    rw [List.length_map] at hj
    rw [show s + 4 + j = s + (4 + j) by omega, HW2.out.row (4 + j) _ (List.getElem?_eq_getElem (by simp; omega))]
    rfl
  case hdf => exact fun j _ => HW2.out.frD _
  case hdo => exact ints_oneCell .u8 d
  obtain ⟨y20, y21, y22, y23, hz4⟩ : ∃ a b c e, z.drop 16 = [a, b, c, e] := by
    have hl : (z.drop 16).length = 4 := by simp; omega
    match z.drop 16, hl with
    | [a, b, c, e], _ => exact ⟨a, b, c, e, rfl⟩
  have HW3 := Lib.hid (show Holds (W2.setCells D (s + 4) (d.map (.int .u8))) B D s (x0 :: x1 :: 0 :: 0 :: (d ++ (y20 :: y21 :: y22 :: y23 :: ips.flatten))) from by
    have := HW2.out.setCells (i := 4) (vs := d) rfl (by simp; omega)
    have e2 : List.drop (4 + d.length) (x0 :: x1 :: 0 :: 0 :: (z ++ ips.flatten)) = y20 :: y21 :: y22 :: y23 :: ips.flatten := by
      rw [Nat.add_comm]
      show List.drop d.length (z ++ ips.flatten) = _
      rw [hds, List.drop_append_of_le_length (by omega), hz4]
      rfl
    rw [e2] at this
    exact this)
  have HB3 := Lib.hid (show Below B w (W2.setCells D (s + 4) (d.map (.int .u8))) from below_setCells (Nat.le_of_lt HW2.out.lt) _ _ HB2.out)
  have n2 : (W2.setCells D (s + 4) (d.map (.int .u8))).cell? ⟨X, 2, none⟩ = some (.int .u16 (x0 * 256 + x1)) := (cell_setCells eXD _ _ W2 (j := 2)).trans m2
  have n3 : (W2.setCells D (s + 4) (d.map (.int .u8))).cell? ⟨X, 3, none⟩ = some (.slice (some ⟨b16, o16, none⟩) 16 c16) := (cell_setCells eXD _ _ W2 (j := 3)).trans m3
  have n4 : (W2.setCells D (s + 4) (d.map (.int .u8))).cell? ⟨X, 4, none⟩ = some (.bool t) := (cell_setCells eXD _ _ W2 (j := 4)).trans m4
  have n5 : (W2.setCells D (s + 4) (d.map (.int .u8))).cell? ⟨X, 5, none⟩ = some (.int .u8 q) := (cell_setCells eXD _ _ W2 (j := 5)).trans m5
  have n6 : (W2.setCells D (s + 4) (d.map (.int .u8))).cell? ⟨X, 6, none⟩ = some (.int .u8 x21) := (cell_setCells eXD _ _ W2 (j := 6)).trans m6
  have n7 : (W2.setCells D (s + 4) (d.map (.int .u8))).cell? ⟨X, 7, none⟩ = some (.int .u16 (x22 * 256 + x23)) := (cell_setCells eXD _ _ W2 (j := 7)).trans m7
  clear HW2 HB2 WS2 lX2 hz4 m2 m3 m4 m5 m6 m7
  generalize W2.setCells D (s + 4) (d.map (.int .u8)) = W3 at *
  clear W2
  have lX3 : X < W3.heap.size := World.block_lt_of_cell? _ _ n2
  have lD3 : D < W3.heap.size := HW3.out.ltD
  have hg : ∀ i x, (y20 :: y21 :: y22 :: y23 :: ips.flatten)[i]? = some x → W3.cell? ⟨D, s + (20 + i), none⟩ = some (.int .u8 x) := by
    intro i x hx
    refine HW3.out.row (20 + i) x ?_
    rw [show 20 + i = 4 + (16 + i) by omega]
    show (x0 :: x1 :: 0 :: 0 :: (d ++ (y20 :: y21 :: y22 :: y23 :: ips.flatten)))[4 + (16 + i)]? = some x
    rw [show 4 + (16 + i) = 16 + i + 1 + 1 + 1 + 1 by omega, List.getElem?_cons_succ, List.getElem?_cons_succ, List.getElem?_cons_succ, List.getElem?_cons_succ, List.getElem?_append_right (by omega), hds, Nat.add_sub_cancel_left]
    exact hx
  have d20 : W3.cell? ⟨D, s + 20, none⟩ = _ := hg 0 _ rfl
  have d21 : W3.cell? ⟨D, s + 21, none⟩ = _ := hg 1 _ rfl
  have d22 : W3.cell? ⟨D, s + 22, none⟩ = _ := hg 2 _ rfl
  have d23 : W3.cell? ⟨D, s + 23, none⟩ = _ := hg 3 _ rfl
  have fd20 := HW3.out.frD (s + 20)
  have fd21 := HW3.out.frD (s + 21)
  have fd22 := HW3.out.frD (s + 22)
  have fd23 := HW3.out.frD (s + 23)
  clear hg
  cases t
  all_goals
    go_wp2_with fail
    refine wp_region_same [7] (.q 0 (.q 1 (.q 2 (.q 3 (.q 4 (.q 5 (.q 6 (.l 7 .done .stop)))))))) (by kernel_rfl) (by kernel_rfl) (fun _ _ d _ _ h => by cases d <;> exact h) (by simp only [Ord.fill, nthOp]; rfl) ?_; intro hSm
    repeat
      first | refine lexO_pass rfl ?_ | (refine lexO_take2 ?_ rfl (by kernel_rfl) (by with_reducible assumption) (fun w' hS K Q' hK => ?_) ?_; rotate_left; focus (have hS2 := hS.2; clear hS; go_wp2_with fail; exact hK))
    refine lexO_do rfl (fun K hK => ?_) lexO_stop
    go_wp2_with (go_at_call 90; refine (put16_c x22 x23 (y0 := .int .u8 y22) (y1 := .int .u8 y23) (by omega) h22 h23 (by go_simp) (by go_simp) (by go_simp) (by go_simp)).mono ?_; rintro e w' ⟨rfl, rfl⟩)
    first | refine step_last (by decide) (lexO_done ?_) | refine lexO_done ?_
    go_wp2_with fail
    refine bodyPost_ret (v := .nilIface) (by simp only [results, Tryz.results108]; go_simp) rfl ⟨rfl, ?_, D, s, ?_⟩
    · have h0 := HB3.out
      have h1 := HW3.out.lt
      exact (by repeat (first | with_reducible assumption | with_reducible refine Below.drew ?_ | with_reducible refine below_drewN' ?_ _ | with_reducible refine Below.alloc ?_ ?_ _ | with_reducible refine Below.setCell ?_ ?_ _ | with_reducible exact Nat.le_refl _ | omega | focus (simp; done) | focus (simp; omega)))
    · have e : ∀ u0 u1 u2 u3, x0 :: x1 :: 0 :: 0 :: (d ++ (u0 :: u1 :: u2 :: u3 :: ips.flatten)) = ((((x0 :: x1 :: 0 :: 0 :: (d ++ (y20 :: y21 :: y22 :: y23 :: ips.flatten))).set 20 u0).set 22 u2).set 23 u3).set 21 u1 := by
        intro u0 u1 u2 u3
        simp only [List.set_cons_succ]
        rw [List.set_append_right _ _ (by omega), List.set_append_right _ _ (by omega), List.set_append_right _ _ (by omega), List.set_append_right _ _ (by omega), hds]
        rfl
      rw [e]
      repeat (first | with_reducible exact HW3.out | with_reducible refine Holds.drew ?_ | with_reducible refine Holds.drewN ?_ _ | with_reducible refine Holds.alloc ?_ _ | refine Holds.setw ?_ (by simp <;> omega) (by omega) (by first | rfl | kernel_rfl))
end Go.Proofs.YtmpifdanfnebpaaGreat
