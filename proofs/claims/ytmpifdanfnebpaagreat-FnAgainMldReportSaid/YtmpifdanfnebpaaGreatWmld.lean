/-
  SerializeTo of MLD's first version.
-/
import Derived.Test.YtmpifdanfnebpaaGreatMmldd
import Derived.Test.YtmpifdanfnebpaaGreatPut
import Derived.Test.YtmpifdanfnebpaaGreatZero
namespace Go.Proofs.YtmpifdanfnebpaaGreat
open Go Go.RowKit

theorem Holds.setCells {w : World} {B D s : Nat} {bs vs : List Int} (h : Holds w B D s bs) {i k : Nat} (hk : k = s + i) (hi : i + vs.length ≤ bs.length) : Holds (w.setCells D k (vs.map (.int .u8))) B D s (bs.take i ++ (vs ++ bs.drop (i + vs.length))) := by
  subst hk
  induction vs generalizing w bs i with
  | nil => simpa [World.setCells] using h
  | cons v vs ih =>
    rw [List.map_cons, World.setCells]
    have hi' : i + 1 + vs.length ≤ bs.length := by simp at hi; omega
    have h1 := h.set (i := i) (by omega) rfl v
    have h2 := ih (i := i + 1) h1 (by rw [List.length_set]; exact hi')
    rw [show s + (i + 1) = s + i + 1 by omega] at h2
    have e : (bs.set i v).take (i + 1) ++ (vs ++ (bs.set i v).drop (i + 1 + vs.length)) = bs.take i ++ (v :: vs ++ bs.drop (i + (v :: vs).length)) := by
      have hlt : i < bs.length := by simp at hi; omega
      rw [List.drop_set_of_lt (by omega), List.set_eq_take_append_cons_drop, if_pos hlt, List.take_append]
      simp [show i + (vs.length + 1) = i + 1 + vs.length by omega, show min i bs.length = i by omega, List.take_take]
    rwa [e] at h2

set_option maxRecDepth 100000 in
set_option maxHeartbeats 4000000 in
theorem ser_mld {x0 x1 : Int} {ds : List Int} (h0 : 0 ≤ x0 ∧ x0 ≤ 255) (h1 : 0 ≤ x1 ∧ x1 ≤ 255) (hds : ds.length = 16) {pay : List Int} (hl : pay.length ≤ 400) :
    SerOf 102 pay (x0 :: x1 :: 0 :: 0 :: ds ++ pay) (MIsMldd ((x0 * 256 + x1) * 1000000) ds) := by
  intro w0 w X B hI hb hB hbuf
  obtain ⟨lX, c2, v, c3, hv⟩ := hI
  have mp := m_prepend
  replace c2 := (hb.cell (p := ⟨X, 2, none⟩) lX).trans c2
  replace c3 := (hb.cell (p := ⟨X, 3, none⟩) lX).trans c3
  have HV := Lib.hid (((hv.imp (fun b hb _ => hb : ∀ b, b < w0.heap.size → True → b < w0.heap.size)).keeps (Keeps.of_below (hb.mono (Nat.le_refl _) |> fun h => h))))
  obtain ⟨p16, c16, rfl, hn16, hm16, hp16, hr16⟩ := hv
  rw [hds] at c3
  have lXB : X < B := by omega
  have lXw : X < w.heap.size := Nat.lt_of_lt_of_le lX hb.size
  have HBUF := Lib.hid hbuf
  have HB0 := Lib.hid hB
  clear hbuf hb hB hr16 hp16
  go_enter Tryz.func102, Tryz.ntmps102
  go_wp2_with fail
  refine (prepend_c (k := 20) (bs := pay) (HBUF.out.keeps (by have h0 := Below.refl w.heap.size w; exact (by repeat (first | with_reducible assumption | with_reducible refine Below.drew ?_ | with_reducible refine below_drewN' ?_ _ | with_reducible refine Below.alloc ?_ ?_ _ | with_reducible refine Below.setCell ?_ ?_ _ | with_reducible exact Nat.le_refl _ | omega | focus (simp; done) | focus (simp; omega))))) (by omega) (by omega) (by omega)).mono ?_
  rintro e1 w1 ⟨D, s, c, xs, rfl, hc4, hcm, hxl, hh, hb1, hk1, hD1⟩
  have lB1 : B < w1.heap.size := Nat.lt_trans hh.lt hh.ltD
  have lD : D < w1.heap.size := hh.ltD
  have lX1 : X < w1.heap.size := by omega
  have eXD : ¬ X = D := by have := hh.lt; omega
  have eDX : ¬ D = X := by omega
  have k2 : w1.cell? ⟨X, 2, none⟩ = _ := (hb1.cell (p := ⟨X, 2, none⟩) lXB).trans ((show _ = w.cell? ⟨X, 2, none⟩ by go_simp).trans c2)
  have k3 : w1.cell? ⟨X, 3, none⟩ = _ := (hb1.cell (p := ⟨X, 3, none⟩) lXB).trans ((show _ = w.cell? ⟨X, 3, none⟩ by go_simp).trans c3)
  obtain ⟨y0, d0⟩ : ∃ y, w1.cell? ⟨D, s, none⟩ = some (.int .u8 y) := ⟨_, by have := hh.row 0 _ (List.getElem?_eq_getElem (by simp; omega)); rwa [Nat.add_zero] at this⟩
  obtain ⟨y1, d1⟩ : ∃ y, w1.cell? ⟨D, s + 1, none⟩ = some (.int .u8 y) := ⟨_, hh.row 1 _ (List.getElem?_eq_getElem (by simp; omega))⟩
  have fd0 := hh.frD s
  have fd1 := hh.frD (s + 1)
  have HH := Lib.hid hh
  have HB1 := Lib.hid (show Below B w w1 from Below.trans (by have h0 := Below.refl B w; have := HBUF.out.lt; exact (by repeat (first | with_reducible assumption | with_reducible refine Below.drew ?_ | with_reducible refine below_drewN' ?_ _ | with_reducible refine Below.alloc ?_ ?_ _ | with_reducible refine Below.setCell ?_ ?_ _ | with_reducible exact Nat.le_refl _ | omega | focus (simp; done) | focus (simp; omega)))) hb1)
  have g1 : ¬ (((x0 * 256 + x1) * 1000000 : Int) < 0) := by omega
  have g2 : (x0 * 256 + x1) * 1000000 / 1000000 = x0 * 256 + x1 := by omega
  have g3 : ¬ ((65535 : Int) < x0 * 256 + x1) := by omega
  clear hh hb1 hk1 hD1 c2 c3 lX lXw
  go_wp2_with fail
  refine wp_region_same [5] (.q 0 (.q 1 (.q 2 (.q 3 (.q 4 (.l 5 .done .stop)))))) (by kernel_rfl) (by kernel_rfl) (fun _ _ d _ _ h => by cases d <;> exact h) (by simp only [Ord.fill, nthOp]; rfl) ?_; intro hSm
  repeat
    first | refine lexO_pass rfl ?_ | (refine lexO_take2 ?_ rfl (by kernel_rfl) (by with_reducible assumption) (fun w' hS K Q' hK => ?_) ?_; rotate_left; focus (have hS2 := hS.2; clear hS; go_wp2_with fail; exact hK))
  refine lexO_do rfl (fun K hK => ?_) lexO_stop
  go_wp2_with (go_at_call 90; refine (put16_c x0 x1 (y0 := .int .u8 y0) (y1 := .int .u8 y1) (by omega) h0 h1 (by go_simp) (by go_simp) (by go_simp) (by go_simp)).mono ?_; rintro e w' ⟨rfl, rfl⟩)
  first | refine step_last (by decide) (lexO_done ?_) | refine lexO_done ?_
  go_wp2_with fail
  generalize hW : World.drew _ = W
  have HW := Lib.hid (show Holds W B D s (((xs ++ pay).set 0 x0).set 1 x1) from by
    rw [← hW]
    clear hW
    repeat (first | with_reducible exact HH.out | with_reducible refine Holds.drew ?_ | with_reducible refine Holds.drewN ?_ _ | with_reducible refine Holds.alloc ?_ _ | refine Holds.set ?_ (by simp; omega) (by omega) _))
  have W3 : W.cell? ⟨X, 3, none⟩ = some (.slice p16 16 c16) := by rw [← hW]; clear hW; go_simp
  have lXW : X < W.heap.size := World.block_lt_of_cell? _ _ W3
  have HBW := Lib.hid (show Below B w W from by
    rw [← hW]
    clear hW
    have h0 := HB1.out
    have h1 := HH.out.lt
    exact (by repeat (first | with_reducible assumption | with_reducible refine Below.drew ?_ | with_reducible refine below_drewN' ?_ _ | with_reducible refine Below.alloc ?_ ?_ _ | with_reducible refine Below.setCell ?_ ?_ _ | with_reducible exact Nat.le_refl _ | omega | focus (simp; done) | focus (simp; omega))))
  have HVW := Lib.hid (show SB W (fun b => b < w0.heap.size) (.slice p16 ds.length c16) ds from HV.out.keeps ⟨HBW.out.size, fun b hb _ => HBW.out.block b (Nat.lt_of_lt_of_le hb HB0.out)⟩)
  have WS : ∀ j v, [Value.int .u8 0, .int .u8 0][j]? = some v → W.cell? ((⟨w1.heap.size + 1, 0, none⟩ : Addr).add j) = some v := by
    intro j u hu
    rw [addr_add, ← hW]
    clear hW
    rcases j with _ | _ | j
    · simp at hu; subst hu; go_simp
    · simp at hu; subst hu; go_simp
    · simp at hu
  clear hW HV d0 d1 fd0 fd1
  rw [run_copy_cells (P := Tryz.prog) W _ _ _ 5 _ _ _ _ _ _ _ [.int .u8 0, .int .u8 0] Tryz.underlying22 sz1B rfl WS ?hcc ?hcf ?hco]
  case hcc =>
    intro j hj
    rw [show s + 2 + j = s + (2 + j) by omega, HW.out.row (2 + j) _ (List.getElem?_eq_getElem (by simp at hj ⊢; omega))]
    rfl
  case hcf => exact fun j _ => HW.out.frD _
  case hco => simp [Value.oneCell']
  have HW2 := Lib.hid (HW.out.setCells (i := 2) (vs := [0, 0]) rfl (by simp; omega))
  have W23 := (cell_setCells eXD [Value.int .u8 0, .int .u8 0] (s + 2) W (j := 3)).trans W3
  have HB2 := Lib.hid (show Below B w (W.setCells D (s + 2) [.int .u8 0, .int .u8 0]) from below_setCells (Nat.le_of_lt HH.out.lt) _ _ HBW.out)
  have l2 : X < (W.setCells D (s + 2) [.int .u8 0, .int .u8 0]).heap.size := by rw [size_setCells]; exact lXW
  have HV2 := Lib.hid (show SB (W.setCells D (s + 2) [.int .u8 0, .int .u8 0]) (fun b => b < w0.heap.size) (.slice p16 ds.length c16) ds from HVW.out.keeps (keeps_setCells (by have := HH.out.lt; have := HB0.out; omega) _ _ (Keeps.refl _ _)))
  simp only [List.map_cons, List.map_nil] at HW2
  clear HW W3 lXW HBW HVW WS
  generalize W.setCells D (s + 2) [.int .u8 0, .int .u8 0] = W2 at *
  clear W
  obtain ⟨b16, o16, rfl⟩ : ∃ b o, p16 = some ⟨b, o, none⟩ := by
    obtain ⟨p', c', he, -, -, -, hr⟩ := HV2.out
    simp only [Value.slice.injEq] at he
    obtain ⟨rfl, -, -⟩ := he
    rcases hr with hr | ⟨b, o, rfl, -⟩
    · simp at hr; subst hr; simp at hds
    · exact ⟨b, o, rfl⟩
  have qT : ∀ (w : World) (a : Option Addr) (n c n' c' : Nat), (binOp .eql 84 (.slice a n c) (.slice none n' c')).run Tryz.prog w = .ok (.bool a.isNone) w := fun w a n c n' c' => Lib.run_eql_slice_nil w _ _ a n c n' c' Tryz.underlying84
  go_wp2_with (go_at_call 99; refine to16_c.mono ?_; rintro e w' ⟨rfl, rfl⟩)
  have WS2 : ∀ j v, (ds.map (.int .u8))[j]? = some v → W2.cell? ((⟨b16, o16, none⟩ : Addr).add j) = some v := by
    intro j u hu
    obtain ⟨p', c', he, -, -, -, hr⟩ := HV2.out
    simp only [Value.slice.injEq] at he
    obtain ⟨rfl, -, -⟩ := he
    rw [addr_add]
    rcases hr with hr | ⟨b, o, hbo, -, -, hcell⟩
    · rw [hr] at hu; simp at hu
    · simp only [Option.some.injEq, Addr.mk.injEq, and_true] at hbo
      obtain ⟨rfl, rfl⟩ := hbo
      exact hcell j u hu
  rw [run_copy_cells (P := Tryz.prog) W2 _ _ _ 5 _ _ _ _ _ _ _ (ds.map (.int .u8)) Tryz.underlying22 sz1B (by rw [List.length_map, hds]; rfl) WS2 ?hdc ?hdf ?hdo]
  case hdc =>
    intro j hj
    rw [List.length_map] at hj
    rw [show s + 4 + j = s + (4 + j) by omega, HW2.out.row (4 + j) _ (List.getElem?_eq_getElem (by simp; omega))]
    rfl
  case hdf => exact fun j _ => HW2.out.frD _
  case hdo => exact ints_oneCell .u8 ds
  have HW3 := Lib.hid (HW2.out.setCells (i := 4) (vs := ds) rfl (by simp; omega))
  have HB3 := Lib.hid (show Below B w (W2.setCells D (s + 4) (ds.map (.int .u8))) from below_setCells (Nat.le_of_lt HH.out.lt) _ _ HB2.out)
  clear HW2 HB2 HV2 WS2 l2 W23
  generalize W2.setCells D (s + 4) (ds.map (.int .u8)) = W3 at *
  clear W2
  go_wp2_with fail
  refine bodyPost_ret (v := .nilIface) (by simp only [results, Tryz.results102]; go_simp) rfl ⟨rfl, HB3.out, D, s, ?_⟩
  have hw := HW3.out
  match xs, hxl with
  | a :: b :: c' :: d' :: t, hxl =>
    have ht : t.length = ds.length := by simp at hxl; omega
    have e : (t ++ pay).drop ds.length = pay := by rw [← ht]; exact List.drop_left
    have e2 : ∀ k, List.drop (4 + k) (x0 :: x1 :: 0 :: 0 :: (t ++ pay)) = List.drop k (t ++ pay) := fun k => by rw [Nat.add_comm]; rfl
    simp only [List.cons_append, List.set_cons_zero, List.set_cons_succ, List.take_succ_cons, List.take_zero, List.nil_append, List.length_cons, List.length_nil, Nat.zero_add, Nat.reduceAdd, List.drop_succ_cons, List.drop_zero] at hw
    rw [e2, e] at hw
    exact hw
end Go.Proofs.YtmpifdanfnebpaaGreat
