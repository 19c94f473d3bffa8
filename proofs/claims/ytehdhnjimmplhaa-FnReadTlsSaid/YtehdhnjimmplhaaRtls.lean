/-
  impl.told of tls.
-/
import Derived.Test.YtehdhnjimmplhaaD2tls
import Derived.Test.YtehdhnjimmplhaaTa
namespace Go.Proofs.Ytehdhnjimmplhaa
open Go Go.RowKit

theorem take_snocR {α : Type} {l : List α} {k : Nat} {x : α} (h : l[k]? = some x) : l.take k ++ [x] = l.take (k + 1) := by
  rw [List.take_add_one, h]
  rfl

set_option maxRecDepth 100000 in
set_option maxHeartbeats 16000000 in
theorem told_tls4 {X : Nat} {w : World} {pa pb pc pd : Option Addr} {ca cb cc cd : Nat} {la lb lc ld : List (List Int × List Int)} (x2 : w.cell? ⟨X, 2, none⟩ = some (.slice pa la.length ca)) (x3 : w.cell? ⟨X, 3, none⟩ = some (.slice pb lb.length cb)) (x4 : w.cell? ⟨X, 4, none⟩ = some (.slice pc lc.length cc)) (x5 : w.cell? ⟨X, 5, none⟩ = some (.slice pd ld.length cd))
    (hA : Rows eCcs w 0 (fun _ => True) 164 (.slice pa la.length ca) la) (hB : Rows eHs w 0 (fun _ => True) 166 (.slice pb lb.length cb) lb) (hC : Rows eApp w 0 (fun _ => True) 168 (.slice pc lc.length cc) lc) (hD : Rows eAl w 0 (fun _ => True) 172 (.slice pd ld.length cd) ld)
    (na : la.length ≤ 2000) (nb : lb.length ≤ 2000) (nc : lc.length ≤ 2000) (nd : ld.length ≤ 2000) :
    Calls Try.prog 21 #[.iface 151 (.pointer (some ⟨X, 0, none⟩)), .slice none 0 0] w fun e' w' => ∃ v, e' = .returned (.tuple #[v, .bool true]) ∧ LayOn w' (fun b => w.heap.size ≤ b) v ⟨[], [], la ++ (lb ++ (lc ++ ld)), []⟩ ∧ Below w.heap.size w w' := by
  have lX := World.block_lt_of_cell? _ _ x2
  have HIA := Lib.hid hA
  have HIB := Lib.hid hB
  have HIC := Lib.hid hC
  have HID := Lib.hid hD
  clear hA hB hC hD
  have a0 := ta15_0
  have a1 := ta15_1
  have a2 := ta15_2
  have a3 := ta15_3
  have a4 := ta15_4
  have a5 := ta15_5
  have a6 := ta15_6
  have a7 := ta15_7
  have a8 := ta15_8
  have a9 := ta15_9
  have a10 := ta15_10
  have a11 := ta15_11
  have a12 := ta15_12
  have a13 := ta15_13
  have a14 := ta15_14
  have a15 := ta15_15
  go_enter Try.func21, Try.ntmps21
  go_wp2_with fail
  refine (clone_c (bs := []) ((SB.nil w (fun _ => True)).keeps (by repeat (first | with_reducible assumption | with_reducible exact Keeps.refl _ _ | with_reducible refine Keeps.drew ?_ | with_reducible refine Keeps.drewN ?_ _ | with_reducible refine Keeps.alloc ?_ _ | with_reducible refine Keeps.setCell ?_ ?_ _ | omega | focus (simp; done) | focus (simp; omega)))) (by simp)).mono ?_
  rintro e1 w1 ⟨q, cq, rfl, hq, hb1⟩
  have HQ := Lib.hid (show SB w1 _ (.slice q 0 cq) [] from hq)
  clear hq
  have k2 := cell_keep hb1 x2
  have k3 := cell_keep hb1 x3
  have k4 := cell_keep hb1 x4
  have k5 := cell_keep hb1 x5
  obtain ⟨r0, r1, r2, r3⟩ := cells4 hb1
  obtain ⟨f0, f1, f2, f3⟩ := frozen4 hb1
  have lw := size_new hb1
  have lX1 : X < w1.heap.size := by omega
  have nX : ¬ X = w1.heap.size := by omega
  have nX2 : ¬ w1.heap.size = X := by omega
  have nX3 : ¬ w.heap.size = X := by omega
  have HB := Lib.hid hb1
  clear hb1 x2 x3 x4 x5
  go_wp2_with fail
  refine wp_gen (fun W => (W.cell? ⟨w1.heap.size, 0, none⟩ = some (.slice none 0 0) ∧ W.cell? ⟨w1.heap.size, 1, none⟩ = some (.slice none 0 0) ∧ W.cell? ⟨w1.heap.size, 2, none⟩ = some (.slice none 0 0) ∧ W.cell? ⟨w1.heap.size, 3, none⟩ = some (.slice q 0 cq)) ∧ (∀ j, W.frozen? ⟨w1.heap.size, j, none⟩ = false) ∧ w1.heap.size < W.heap.size ∧
    SB W (fun b => w.heap.size < b ∧ b ≠ w1.heap.size) (.slice q 0 cq) [] ∧ (W.cell? ⟨w.heap.size, 0, none⟩ = some (.slice none 0 0) ∧ W.cell? ⟨w.heap.size, 1, none⟩ = some (.slice none 0 0) ∧ W.cell? ⟨w.heap.size, 2, none⟩ = some (.slice none 0 0) ∧ W.cell? ⟨w.heap.size, 3, none⟩ = some (.slice none 0 0)) ∧ (W.frozen? ⟨w.heap.size, 0, none⟩ = false ∧ W.frozen? ⟨w.heap.size, 1, none⟩ = false ∧ W.frozen? ⟨w.heap.size, 2, none⟩ = false ∧ W.frozen? ⟨w.heap.size, 3, none⟩ = false) ∧
    (W.cell? ⟨X, 3, none⟩ = some (.slice pb lb.length cb) ∧ W.cell? ⟨X, 4, none⟩ = some (.slice pc lc.length cc) ∧ W.cell? ⟨X, 5, none⟩ = some (.slice pd ld.length cd)) ∧ Keeps (fun b => b < w.heap.size) w W ∧ Below w.heap.size w W) ?F (fun W hW => ?_)
  case F =>
    have h0 := below_new HB.out
    have q1 : Keeps (fun b => b < w.heap.size) w w1 := Keeps.of_below h0
    have hs := HQ.out
    have hs2 : SB w1 (fun b => w.heap.size + 1 ≤ b ∧ b < w1.heap.size) (.slice q 0 cq) [] := by refine hs.imp ?_; intro b hbl hb; exact ⟨by simpa using hb, hbl⟩
    exact ⟨⟨by go_simp, by go_simp, by go_simp, by go_simp⟩, fun j => by go_simp, by first | omega | focus (simp; done) | (simp; omega), (hs2.keeps (by repeat (first | with_reducible assumption | with_reducible exact Keeps.refl _ _ | with_reducible refine Keeps.drew ?_ | with_reducible refine Keeps.drewN ?_ _ | with_reducible refine Keeps.alloc ?_ _ | with_reducible refine Keeps.setCell ?_ ?_ _ | omega | focus (simp; done) | focus (simp; omega)))).imp (fun b _ hb => ⟨by omega, by omega⟩), ⟨by go_simp, by go_simp, by go_simp, by go_simp⟩, ⟨by go_simp, by go_simp, by go_simp, by go_simp⟩, ⟨by go_simp, by go_simp, by go_simp⟩, (by repeat (first | with_reducible assumption | with_reducible exact Keeps.refl _ _ | with_reducible refine Keeps.drew ?_ | with_reducible refine Keeps.drewN ?_ _ | with_reducible refine Keeps.alloc ?_ _ | with_reducible refine Keeps.setCell ?_ ?_ _ | omega | focus (simp; done) | focus (simp; omega))), (by repeat (first | with_reducible assumption | with_reducible refine Below.drew ?_ | with_reducible refine below_drewN' ?_ _ | with_reducible refine Below.alloc ?_ ?_ _ | with_reducible refine Below.setCell ?_ ?_ _ | with_reducible exact Nat.le_refl _ | omega | focus (simp; done) | focus (simp; omega)))⟩
  obtain ⟨⟨lc0, lc1, lc2, lc3⟩, lf, lL, hP2, ⟨wr0, wr1, wr2, wr3⟩, ⟨wf0, wf1, wf2, wf3⟩, ⟨xx1, xx2, xx3⟩, kW, bW⟩ := hW
  clear k2 k3 k4 k5 r0 r1 r2 r3 f0 f1 f2 f3
  have hF0 : Fills W W (w1.heap.size) W.heap.size (fun b => w.heap.size < b ∧ b ≠ w1.heap.size) (.slice none 0 0) [] := Fills.start lL (Nat.le_refl _) lc2 lf
  have HN3 := Lib.hid hP2
  have HK := Lib.hid (And.intro kW bW)
  have wL : w.heap.size < W.heap.size := World.block_lt_of_cell? _ _ wr0
  have lXW : X < W.heap.size := by omega
  clear hP2 kW bW lf
  have HF0 := Lib.hid hF0
  clear hF0
  go_loopw [37, 657] (fun _ i wr => ∃ k : Nat, k ≤ la.length ∧ i = .int .i64 (k : Int) ∧ ∃ v, Fills W wr w1.heap.size W.heap.size (fun b => w.heap.size < b ∧ b ≠ w1.heap.size) v ([] ++ la.take k)) (fun _ i _ => la.length - (intOf i).toNat)
  case atStart => exact ⟨0, Nat.zero_le _, rfl, _, by rw [List.take_zero, List.append_nil]; exact HF0.out⟩
  case round =>
    obtain ⟨k, hk, rfl, v, hF⟩ := hrel
    have HF := Lib.hid hF
    have lLr : w1.heap.size < wr.heap.size := Nat.lt_of_lt_of_le hF.lt hF.le
    have lwr : w.heap.size < wr.heap.size := Nat.lt_of_lt_of_le wL hF.le
    have leW := hF.le
    have hown := hF.rows.own
    have ef := hF.froz 2
    obtain ⟨p, c', hv⟩ := hF.rows.form
    obtain ⟨nn, hnn⟩ : ∃ n, n = ([] ++ la.take k).length := ⟨_, rfl⟩
    have hnl : nn ≤ 8000 := by rw [hnn]; simp; omega
    rw [← hnn] at hv
    have HNL := Lib.hid hnn
    subst hv
    have e2 := hF.parts
    have e0 := hF.other 0 _ (by decide) lc0
    have e1 := hF.other 1 _ (by decide) lc1
    have e3 := hF.other 3 _ (by decide) lc3
    have v0 := hF.keep.cell (b := w.heap.size) (by constructor <;> omega) wr0
    have v1 := hF.keep.cell (b := w.heap.size) (by constructor <;> omega) wr1
    have v2 := hF.keep.cell (b := w.heap.size) (by constructor <;> omega) wr2
    have v3 := hF.keep.cell (b := w.heap.size) (by constructor <;> omega) wr3
    have y0 := hF.keep.frozen (b := w.heap.size) (by constructor <;> omega) wL wf0
    have y1 := hF.keep.frozen (b := w.heap.size) (by constructor <;> omega) wL wf1
    have y2 := hF.keep.frozen (b := w.heap.size) (by constructor <;> omega) wL wf2
    have y3 := hF.keep.frozen (b := w.heap.size) (by constructor <;> omega) wL wf3
    have s1 := hF.keep.cell (b := X) (by constructor <;> omega) xx1
    have s2 := hF.keep.cell (b := X) (by constructor <;> omega) xx2
    have s3 := hF.keep.cell (b := X) (by constructor <;> omega) xx3
    have HO := Lib.hid hown
    have HKG := Lib.hid ((HK.out.1.trans (hF.keep.imp (fun b hb => ⟨by omega, by omega⟩ : ∀ b, b < w.heap.size → b < W.heap.size ∧ b ≠ w1.heap.size))))
    clear hF hown hnn
    by_cases hlt : k < la.length
    · obtain ⟨gI, cI', cs, xp, hiv, hgI, -, hdk, hcs, xv, xn, xm, rfl, rfl, bv, bn, bm⟩ := HIA.out.get hlt
      simp only [Value.slice.injEq] at hiv
      obtain ⟨rfl, -, rfl⟩ := hiv
      have hck : ∀ i v, [Value.int .u8 20, .int .u16 xv, .int .u16 xn, .int .u8 xm][i]? = some v → wr.cell? ⟨gI, k * 4 + i, none⟩ = some v := fun i v hv => HKG.out.cell hgI (hcs i v hv)
      have hck0 : wr.cell? ⟨gI, k * 4, none⟩ = some (.int .u8 20) := hck 0 _ rfl
      have hck1 : wr.cell? ⟨gI, k * 4 + 1, none⟩ = some (.int .u16 xv) := hck 1 _ rfl
      have hck2 : wr.cell? ⟨gI, k * 4 + 2, none⟩ = some (.int .u16 xn) := hck 2 _ rfl
      have hck3 : wr.cell? ⟨gI, k * 4 + 3, none⟩ = some (.int .u8 xm) := hck 3 _ rfl
      have hkI : ((k : Nat) : Int) < ((la.length : Nat) : Int) := by omega
      have HDK := Lib.hid hdk
      have lLr1 : w1.heap.size < wr.heap.size + 1 := by omega
      have lLr2 : w1.heap.size < wr.heap.size + 1 + 1 := by omega
      have lLr3 : w1.heap.size < wr.heap.size + 1 + 1 + 1 := by omega
      have lgI : gI < wr.heap.size := by omega
      have lgI1 : gI < wr.heap.size + 1 := by omega
      clear hcs hck hdk
      go_wp2_with fail
      refine wp_region_on (fun b => b < W.heap.size ∨ b = wr.heap.size) (fun b hb => by first | omega | (rcases hb with hb | hb <;> omega) | (rcases hb with hb | hb <;> simp <;> omega)) [26] (.q 0 (.q 1 (.q 2 (.q 3 (.q 4 (.q 5 (.q 6 (.q 7 (.q 8 (.q 9 (.q 10 (.q 11 (.q 12 (.q 13 (.q 14 (.q 15 (.q 16 (.q 17 (.q 18 (.q 19 (.l 20 (.q 21 (.l 22 (.l 23 (.q 24 (.q 25 (.l 26 .done .stop))) .stop) .stop)) .stop))))))))))))))))))))) (by kernel_rfl) (by kernel_rfl) (fun _ _ d _ _ h => by cases d <;> exact h) (by simp only [Ord.fill, nthOp]; rfl) ?_; intro hSm
      repeat
        first | refine lexO_pass rfl ?_ | (refine lexO_take2 ?_ rfl (by kernel_rfl) (by with_reducible assumption) (fun w' hS K Q' hK => ?_) ?_; rotate_left; focus (have hS2 := hS.2; clear hS; go_wp2_with fail; exact hK))
      refine lexO_do rfl (fun K hK => ?_) lexO_stop
      go_wp2_with fail
      refine step_and (by repeat (first | with_reducible assumption | (with_reducible refine SameOn.refl (fun b hb => ?_); first | omega | (rcases hb with hb | hb <;> omega) | (rcases hb with hb | hb <;> simp <;> omega)) | with_reducible refine SameOn.drew ?_ | with_reducible refine SameOn.alloc ?_ _ | (refine SameOn.below ?_ (by with_reducible assumption)))) (fun _ => ?_)
      repeat
        first | refine lexO_pass rfl ?_ | (refine lexO_take2 ?_ rfl (by kernel_rfl) (by with_reducible assumption) (fun w' hS K Q' hK => ?_) ?_; rotate_left; focus (have hS2 := hS.2; clear hS; go_wp2_with fail; exact hK))
      refine lexO_do rfl (fun K hK => ?_) lexO_stop
      go_wp2_with fail
      refine step_and (by repeat (first | with_reducible assumption | (with_reducible refine SameOn.refl (fun b hb => ?_); first | omega | (rcases hb with hb | hb <;> omega) | (rcases hb with hb | hb <;> simp <;> omega)) | with_reducible refine SameOn.drew ?_ | with_reducible refine SameOn.alloc ?_ _ | (refine SameOn.below ?_ (by with_reducible assumption)))) (fun _ => ?_)
      repeat
        first | refine lexO_pass rfl ?_ | (refine lexO_take2 ?_ rfl (by kernel_rfl) (by with_reducible assumption) (fun w' hS K Q' hK => ?_) ?_; rotate_left; focus (have hS2 := hS.2; clear hS; go_wp2_with fail; exact hK))
      refine lexO_do rfl (fun K hK => ?_) lexO_stop
      refine wp_append_N2 (E := eP) (.tmp 665) (.tmp 683) 27 50 _ 48 rfl Try.underlying27 infoPart rfl (by decide) (by decide) (HF.out.rows.keeps (by repeat (first | with_reducible assumption | with_reducible exact Keeps.refl _ _ | with_reducible refine Keeps.drew ?_ | with_reducible refine Keeps.drewN ?_ _ | with_reducible refine Keeps.alloc ?_ _ | with_reducible refine Keeps.setCell ?_ ?_ _ | omega | focus (simp; done) | focus (simp; omega)))) wr.heap.size (fun k hk => (HO.out k hk).2) rfl rfl (cs := [.slice (some ⟨wr.heap.size + 1, 0, none⟩) 5 5, .slice none 0 0]) (y := ([0, 20, xv, xn, xm], ([] : List Int))) ?hcells ?hrep (by rw [← HNL.out]; omega) (by first | omega | (simp; omega)) (fun q' c2 w5 hr5 hs5 hk5 hb5 => hK _ _ ?_)
      case hcells =>
        intro j u hu
        rcases j with _ | _ | j
        · simp at hu; subst hu; go_simp
        · simp at hu; subst hu; go_simp
        · simp at hu
      case hrep =>
        exact ⟨_, _, rfl, IsSl.block (cs := #[.int .u64 0, .int .u64 20, .int .u64 xv, .int .u64 xn, .int .u64 xm]) (e := 39) (f := (0, 0)) (by (try simp only [heap_drew]); repeat (first | (with_reducible refine heap_last ?_; focus (simp; done)) | with_reducible refine heap_past ?_ | (with_reducible refine heap_set ?_ ?_; focus (first | omega | (simp; done) | (simp; omega))) | with_reducible assumption)) ⟨⟨by omega, by omega⟩, .inr (by omega)⟩ (by omega), SB.nil _ _⟩
      rw [← HNL.out]
      refine step_and (SameOn.keeps (by repeat (first | with_reducible assumption | (with_reducible refine SameOn.refl (fun b hb => ?_); first | omega | (rcases hb with hb | hb <;> omega) | (rcases hb with hb | hb <;> simp <;> omega)) | with_reducible refine SameOn.drew ?_ | with_reducible refine SameOn.alloc ?_ _ | (refine SameOn.below ?_ (by with_reducible assumption)))) hk5 (fun b hb => by omega)) (fun _ => ?_)
      rw [← HNL.out] at hr5
      have hL5 : w5.cell? ⟨w1.heap.size, 2, none⟩ = some (.slice p nn c') := hk5.cell (.inl lL) (by go_simp)
      have hf5 : w5.frozen? ⟨w1.heap.size, 2, none⟩ = false := hk5.frozen (.inl lL) (by first | omega | (simp; omega)) (by go_simp)
      have l5 : w1.heap.size < w5.heap.size := World.block_lt_of_cell? _ _ hL5
      have H5 := Lib.hid (HF.out.step (w5 := w5) (fun b hb => hb.2) (show Below wr.heap.size wr _ from (by have h0 := Below.refl wr.heap.size wr; exact (by repeat (first | with_reducible assumption | with_reducible refine Below.drew ?_ | with_reducible refine below_drewN' ?_ _ | with_reducible refine Below.alloc ?_ ?_ _ | with_reducible refine Below.setCell ?_ ?_ _ | with_reducible exact Nat.le_refl _ | omega | focus (simp; done) | focus (simp; omega))))) hr5 hs5 (hk5.imp (fun b hb => .inl hb)) hb5)
      clear hr5 hs5 hk5 hb5
      repeat
        first | refine lexO_pass rfl ?_ | (refine lexO_take2 ?_ rfl (by kernel_rfl) (by with_reducible assumption) (fun w' hS K Q' hK => ?_) ?_; rotate_left; focus (have hS2 := hS.2; clear hS; go_wp2_with fail; exact hK))
      refine lexO_do rfl (fun K hK => ?_) lexO_stop
      go_wp2_with fail
      first | refine step_last (by decide) (lexO_done ?_) | refine lexO_done ?_
      go_wp2_with fail
      go_roundw
      case rel => exact ⟨k + 1, hlt, by go_num, _, by have := H5.out; rwa [List.append_assoc, take_snocR HDK.out] at this⟩
      case measure => simp [intOf]; omega
    · obtain rfl : k = la.length := by omega
      have hkI : ¬ ((la.length : Nat) : Int) < ((la.length : Nat) : Int) := by omega
      go_wp2_with fail
      have HF1 := Lib.hid (show Fills W wr w1.heap.size W.heap.size (fun b => w.heap.size < b ∧ b ≠ w1.heap.size) (.slice p nn c') ([] ++ la) from by have h := HF.out; rwa [List.take_length] at h)
      obtain ⟨W1, hW1⟩ : ∃ x, x = wr := ⟨_, rfl⟩
      subst hW1
      clear HF HNL HO HKG lLr lwr leW ef e0 e1 e2 e3 v0 v1 v2 v3 y0 y1 y2 y3 hkI hlt hk s1 s2 s3
      go_loopw [39, 693] (fun _ i wr => ∃ k : Nat, k ≤ lb.length ∧ i = .int .i64 (k : Int) ∧ ∃ v, Fills W wr w1.heap.size W.heap.size (fun b => w.heap.size < b ∧ b ≠ w1.heap.size) v (([] ++ la) ++ lb.take k)) (fun _ i _ => lb.length - (intOf i).toNat)
      case atStart => exact ⟨0, Nat.zero_le _, rfl, _, by rw [List.take_zero, List.append_nil]; exact HF1.out⟩
      case round =>
        obtain ⟨k, hk, rfl, v, hF⟩ := hrel
        have HF := Lib.hid hF
        have lLr : w1.heap.size < wr.heap.size := Nat.lt_of_lt_of_le hF.lt hF.le
        have lwr : w.heap.size < wr.heap.size := Nat.lt_of_lt_of_le wL hF.le
        have leW := hF.le
        have hown := hF.rows.own
        have ef := hF.froz 2
        obtain ⟨p, c', hv⟩ := hF.rows.form
        obtain ⟨nn, hnn⟩ : ∃ n, n = (([] ++ la) ++ lb.take k).length := ⟨_, rfl⟩
        have hnl : nn ≤ 8000 := by rw [hnn]; simp; omega
        rw [← hnn] at hv
        have HNL := Lib.hid hnn
        subst hv
        have e2 := hF.parts
        have e0 := hF.other 0 _ (by decide) lc0
        have e1 := hF.other 1 _ (by decide) lc1
        have e3 := hF.other 3 _ (by decide) lc3
        have v0 := hF.keep.cell (b := w.heap.size) (by constructor <;> omega) wr0
        have v1 := hF.keep.cell (b := w.heap.size) (by constructor <;> omega) wr1
        have v2 := hF.keep.cell (b := w.heap.size) (by constructor <;> omega) wr2
        have v3 := hF.keep.cell (b := w.heap.size) (by constructor <;> omega) wr3
        have y0 := hF.keep.frozen (b := w.heap.size) (by constructor <;> omega) wL wf0
        have y1 := hF.keep.frozen (b := w.heap.size) (by constructor <;> omega) wL wf1
        have y2 := hF.keep.frozen (b := w.heap.size) (by constructor <;> omega) wL wf2
        have y3 := hF.keep.frozen (b := w.heap.size) (by constructor <;> omega) wL wf3
        have s2 := hF.keep.cell (b := X) (by constructor <;> omega) xx2
        have s3 := hF.keep.cell (b := X) (by constructor <;> omega) xx3
        have HO := Lib.hid hown
        have HKG := Lib.hid ((HK.out.1.trans (hF.keep.imp (fun b hb => ⟨by omega, by omega⟩ : ∀ b, b < w.heap.size → b < W.heap.size ∧ b ≠ w1.heap.size))))
        clear hF hown hnn
        by_cases hlt : k < lb.length
        · obtain ⟨gI, cI', cs, xp, hiv, hgI, -, hdk, hcs, xv, xn, rfl, rfl, bv, bn⟩ := HIB.out.get hlt
          simp only [Value.slice.injEq] at hiv
          obtain ⟨rfl, -, rfl⟩ := hiv
          have hck : ∀ i v, [Value.int .u8 22, .int .u16 xv, .int .u16 xn][i]? = some v → wr.cell? ⟨gI, k * 3 + i, none⟩ = some v := fun i v hv => HKG.out.cell hgI (hcs i v hv)
          have hck0 : wr.cell? ⟨gI, k * 3, none⟩ = some (.int .u8 22) := hck 0 _ rfl
          have hck1 : wr.cell? ⟨gI, k * 3 + 1, none⟩ = some (.int .u16 xv) := hck 1 _ rfl
          have hck2 : wr.cell? ⟨gI, k * 3 + 2, none⟩ = some (.int .u16 xn) := hck 2 _ rfl
          have hkI : ((k : Nat) : Int) < ((lb.length : Nat) : Int) := by omega
          have HDK := Lib.hid hdk
          have lLr1 : w1.heap.size < wr.heap.size + 1 := by omega
          have lLr2 : w1.heap.size < wr.heap.size + 1 + 1 := by omega
          have lLr3 : w1.heap.size < wr.heap.size + 1 + 1 + 1 := by omega
          have lgI : gI < wr.heap.size := by omega
          have lgI1 : gI < wr.heap.size + 1 := by omega
          clear hcs hck hdk
          go_wp2_with fail
          refine wp_region_on (fun b => b < W.heap.size ∨ b = wr.heap.size) (fun b hb => by first | omega | (rcases hb with hb | hb <;> omega) | (rcases hb with hb | hb <;> simp <;> omega)) [23] (.q 0 (.q 1 (.q 2 (.q 3 (.q 4 (.q 5 (.q 6 (.q 7 (.q 8 (.q 9 (.q 10 (.q 11 (.q 12 (.q 13 (.q 14 (.q 15 (.q 16 (.l 17 (.q 18 (.l 19 (.l 20 (.q 21 (.q 22 (.l 23 .done .stop))) .stop) .stop)) .stop)))))))))))))))))) (by kernel_rfl) (by kernel_rfl) (fun _ _ d _ _ h => by cases d <;> exact h) (by simp only [Ord.fill, nthOp]; rfl) ?_; intro hSm
          repeat
            first | refine lexO_pass rfl ?_ | (refine lexO_take2 ?_ rfl (by kernel_rfl) (by with_reducible assumption) (fun w' hS K Q' hK => ?_) ?_; rotate_left; focus (have hS2 := hS.2; clear hS; go_wp2_with fail; exact hK))
          refine lexO_do rfl (fun K hK => ?_) lexO_stop
          go_wp2_with fail
          refine step_and (by repeat (first | with_reducible assumption | (with_reducible refine SameOn.refl (fun b hb => ?_); first | omega | (rcases hb with hb | hb <;> omega) | (rcases hb with hb | hb <;> simp <;> omega)) | with_reducible refine SameOn.drew ?_ | with_reducible refine SameOn.alloc ?_ _ | (refine SameOn.below ?_ (by with_reducible assumption)))) (fun _ => ?_)
          repeat
            first | refine lexO_pass rfl ?_ | (refine lexO_take2 ?_ rfl (by kernel_rfl) (by with_reducible assumption) (fun w' hS K Q' hK => ?_) ?_; rotate_left; focus (have hS2 := hS.2; clear hS; go_wp2_with fail; exact hK))
          refine lexO_do rfl (fun K hK => ?_) lexO_stop
          go_wp2_with fail
          refine step_and (by repeat (first | with_reducible assumption | (with_reducible refine SameOn.refl (fun b hb => ?_); first | omega | (rcases hb with hb | hb <;> omega) | (rcases hb with hb | hb <;> simp <;> omega)) | with_reducible refine SameOn.drew ?_ | with_reducible refine SameOn.alloc ?_ _ | (refine SameOn.below ?_ (by with_reducible assumption)))) (fun _ => ?_)
          repeat
            first | refine lexO_pass rfl ?_ | (refine lexO_take2 ?_ rfl (by kernel_rfl) (by with_reducible assumption) (fun w' hS K Q' hK => ?_) ?_; rotate_left; focus (have hS2 := hS.2; clear hS; go_wp2_with fail; exact hK))
          refine lexO_do rfl (fun K hK => ?_) lexO_stop
          refine wp_append_N2 (E := eP) (.tmp 701) (.tmp 716) 27 50 _ 48 rfl Try.underlying27 infoPart rfl (by decide) (by decide) (HF.out.rows.keeps (by repeat (first | with_reducible assumption | with_reducible exact Keeps.refl _ _ | with_reducible refine Keeps.drew ?_ | with_reducible refine Keeps.drewN ?_ _ | with_reducible refine Keeps.alloc ?_ _ | with_reducible refine Keeps.setCell ?_ ?_ _ | omega | focus (simp; done) | focus (simp; omega)))) wr.heap.size (fun k hk => (HO.out k hk).2) rfl rfl (cs := [.slice (some ⟨wr.heap.size + 1, 0, none⟩) 4 4, .slice none 0 0]) (y := ([1, 22, xv, xn], ([] : List Int))) ?hcells ?hrep (by rw [← HNL.out]; omega) (by first | omega | (simp; omega)) (fun q' c2 w5 hr5 hs5 hk5 hb5 => hK _ _ ?_)
          case hcells =>
            intro j u hu
            rcases j with _ | _ | j
            · simp at hu; subst hu; go_simp
            · simp at hu; subst hu; go_simp
            · simp at hu
          case hrep =>
            exact ⟨_, _, rfl, IsSl.block (cs := #[.int .u64 1, .int .u64 22, .int .u64 xv, .int .u64 xn]) (e := 39) (f := (0, 0)) (by (try simp only [heap_drew]); repeat (first | (with_reducible refine heap_last ?_; focus (simp; done)) | with_reducible refine heap_past ?_ | (with_reducible refine heap_set ?_ ?_; focus (first | omega | (simp; done) | (simp; omega))) | with_reducible assumption)) ⟨⟨by omega, by omega⟩, .inr (by omega)⟩ (by omega), SB.nil _ _⟩
          rw [← HNL.out]
          refine step_and (SameOn.keeps (by repeat (first | with_reducible assumption | (with_reducible refine SameOn.refl (fun b hb => ?_); first | omega | (rcases hb with hb | hb <;> omega) | (rcases hb with hb | hb <;> simp <;> omega)) | with_reducible refine SameOn.drew ?_ | with_reducible refine SameOn.alloc ?_ _ | (refine SameOn.below ?_ (by with_reducible assumption)))) hk5 (fun b hb => by omega)) (fun _ => ?_)
          rw [← HNL.out] at hr5
          have hL5 : w5.cell? ⟨w1.heap.size, 2, none⟩ = some (.slice p nn c') := hk5.cell (.inl lL) (by go_simp)
          have hf5 : w5.frozen? ⟨w1.heap.size, 2, none⟩ = false := hk5.frozen (.inl lL) (by first | omega | (simp; omega)) (by go_simp)
          have l5 : w1.heap.size < w5.heap.size := World.block_lt_of_cell? _ _ hL5
          have H5 := Lib.hid (HF.out.step (w5 := w5) (fun b hb => hb.2) (show Below wr.heap.size wr _ from (by have h0 := Below.refl wr.heap.size wr; exact (by repeat (first | with_reducible assumption | with_reducible refine Below.drew ?_ | with_reducible refine below_drewN' ?_ _ | with_reducible refine Below.alloc ?_ ?_ _ | with_reducible refine Below.setCell ?_ ?_ _ | with_reducible exact Nat.le_refl _ | omega | focus (simp; done) | focus (simp; omega))))) hr5 hs5 (hk5.imp (fun b hb => .inl hb)) hb5)
          clear hr5 hs5 hk5 hb5
          repeat
            first | refine lexO_pass rfl ?_ | (refine lexO_take2 ?_ rfl (by kernel_rfl) (by with_reducible assumption) (fun w' hS K Q' hK => ?_) ?_; rotate_left; focus (have hS2 := hS.2; clear hS; go_wp2_with fail; exact hK))
          refine lexO_do rfl (fun K hK => ?_) lexO_stop
          go_wp2_with fail
          first | refine step_last (by decide) (lexO_done ?_) | refine lexO_done ?_
          go_wp2_with fail
          go_roundw
          case rel => exact ⟨k + 1, hlt, by go_num, _, by have := H5.out; rwa [List.append_assoc, take_snocR HDK.out] at this⟩
          case measure => simp [intOf]; omega
        · obtain rfl : k = lb.length := by omega
          have hkI : ¬ ((lb.length : Nat) : Int) < ((lb.length : Nat) : Int) := by omega
          go_wp2_with fail
          have HF2 := Lib.hid (show Fills W wr w1.heap.size W.heap.size (fun b => w.heap.size < b ∧ b ≠ w1.heap.size) (.slice p nn c') (([] ++ la) ++ lb) from by have h := HF.out; rwa [List.take_length] at h)
          obtain ⟨W2, hW2⟩ : ∃ x, x = wr := ⟨_, rfl⟩
          subst hW2
          clear HF HNL HO HKG lLr lwr leW ef e0 e1 e2 e3 v0 v1 v2 v3 y0 y1 y2 y3 hkI hlt hk s2 s3
          go_loopw [41, 726] (fun _ i wr => ∃ k : Nat, k ≤ lc.length ∧ i = .int .i64 (k : Int) ∧ ∃ v, Fills W wr w1.heap.size W.heap.size (fun b => w.heap.size < b ∧ b ≠ w1.heap.size) v ((([] ++ la) ++ lb) ++ lc.take k)) (fun _ i _ => lc.length - (intOf i).toNat)
          case atStart => exact ⟨0, Nat.zero_le _, rfl, _, by rw [List.take_zero, List.append_nil]; exact HF2.out⟩
          case round =>
            obtain ⟨k, hk, rfl, v, hF⟩ := hrel
            have HF := Lib.hid hF
            have lLr : w1.heap.size < wr.heap.size := Nat.lt_of_lt_of_le hF.lt hF.le
            have lwr : w.heap.size < wr.heap.size := Nat.lt_of_lt_of_le wL hF.le
            have leW := hF.le
            have hown := hF.rows.own
            have ef := hF.froz 2
            obtain ⟨p, c', hv⟩ := hF.rows.form
            obtain ⟨nn, hnn⟩ : ∃ n, n = ((([] ++ la) ++ lb) ++ lc.take k).length := ⟨_, rfl⟩
            have hnl : nn ≤ 8000 := by rw [hnn]; simp; omega
            rw [← hnn] at hv
            have HNL := Lib.hid hnn
            subst hv
            have e2 := hF.parts
            have e0 := hF.other 0 _ (by decide) lc0
            have e1 := hF.other 1 _ (by decide) lc1
            have e3 := hF.other 3 _ (by decide) lc3
            have v0 := hF.keep.cell (b := w.heap.size) (by constructor <;> omega) wr0
            have v1 := hF.keep.cell (b := w.heap.size) (by constructor <;> omega) wr1
            have v2 := hF.keep.cell (b := w.heap.size) (by constructor <;> omega) wr2
            have v3 := hF.keep.cell (b := w.heap.size) (by constructor <;> omega) wr3
            have y0 := hF.keep.frozen (b := w.heap.size) (by constructor <;> omega) wL wf0
            have y1 := hF.keep.frozen (b := w.heap.size) (by constructor <;> omega) wL wf1
            have y2 := hF.keep.frozen (b := w.heap.size) (by constructor <;> omega) wL wf2
            have y3 := hF.keep.frozen (b := w.heap.size) (by constructor <;> omega) wL wf3
            have s3 := hF.keep.cell (b := X) (by constructor <;> omega) xx3
            have HO := Lib.hid hown
            have HKG := Lib.hid ((HK.out.1.trans (hF.keep.imp (fun b hb => ⟨by omega, by omega⟩ : ∀ b, b < w.heap.size → b < W.heap.size ∧ b ≠ w1.heap.size))))
            clear hF hown hnn
            by_cases hlt : k < lc.length
            · obtain ⟨gI, cI', cs, xp, hiv, hgI, -, hdk, hcs, xv, xn, u, xd, rfl, rfl, hu, bv, bn, bl⟩ := HIC.out.get hlt
              simp only [Value.slice.injEq] at hiv
              obtain ⟨rfl, -, rfl⟩ := hiv
              have HU := Lib.hid ((hu.imp (fun b hb _ => hb : ∀ b, b < w.heap.size → True → b < w.heap.size)).keeps HKG.out)
              obtain ⟨pu, cu, rfl, -⟩ := hu
              have hck : ∀ i v, [Value.int .u8 23, .int .u16 xv, .int .u16 xn, .slice pu xd.length cu][i]? = some v → wr.cell? ⟨gI, k * 4 + i, none⟩ = some v := fun i v hv => HKG.out.cell hgI (hcs i v hv)
              have hck0 : wr.cell? ⟨gI, k * 4, none⟩ = some (.int .u8 23) := hck 0 _ rfl
              have hck1 : wr.cell? ⟨gI, k * 4 + 1, none⟩ = some (.int .u16 xv) := hck 1 _ rfl
              have hck2 : wr.cell? ⟨gI, k * 4 + 2, none⟩ = some (.int .u16 xn) := hck 2 _ rfl
              have hck3 : wr.cell? ⟨gI, k * 4 + 3, none⟩ = some (.slice pu xd.length cu) := hck 3 _ rfl
              have hkI : ((k : Nat) : Int) < ((lc.length : Nat) : Int) := by omega
              have HDK := Lib.hid hdk
              have lLr1 : w1.heap.size < wr.heap.size + 1 := by omega
              have lLr2 : w1.heap.size < wr.heap.size + 1 + 1 := by omega
              have lLr3 : w1.heap.size < wr.heap.size + 1 + 1 + 1 := by omega
              have lgI : gI < wr.heap.size := by omega
              have lgI1 : gI < wr.heap.size + 1 := by omega
              clear hcs hck hdk
              go_wp2_with fail
              refine wp_region_on (fun b => b < W.heap.size ∨ b = wr.heap.size) (fun b hb => by first | omega | (rcases hb with hb | hb <;> omega) | (rcases hb with hb | hb <;> simp <;> omega)) [26] (.q 0 (.q 1 (.q 2 (.q 3 (.q 4 (.q 5 (.q 6 (.q 7 (.q 8 (.q 9 (.q 10 (.q 11 (.q 12 (.q 13 (.q 14 (.q 15 (.q 16 (.q 18 (.q 19 (.l 17 (.l 20 (.q 21 (.l 22 (.l 23 (.q 24 (.q 25 (.l 26 .done .stop))) .stop) .stop)) .stop) (.l 20 (.l 17 (.q 21 (.l 22 (.l 23 (.q 24 (.q 25 (.l 26 .done .stop))) .stop) .stop)) .stop) .stop))))))))))))))))))))) (by kernel_rfl) (by kernel_rfl) (fun _ _ d _ _ h => by cases d <;> exact h) (by simp only [Ord.fill, nthOp]; rfl) ?_; intro hSm
              repeat
                first | refine lexO_pass rfl ?_ | (refine lexO_take2 ?_ rfl (by kernel_rfl) (by with_reducible assumption) (fun w' hS K Q' hK => ?_) ?_; rotate_left; focus (have hS2 := hS.2; clear hS; go_wp2_with fail; exact hK))
              refine lexO_do rfl (fun K hK => ?_) (lexO_do rfl (fun K hK => ?_) lexO_stop)
              · go_wp2_with fail
                refine step_and (by repeat (first | with_reducible assumption | (with_reducible refine SameOn.refl (fun b hb => ?_); first | omega | (rcases hb with hb | hb <;> omega) | (rcases hb with hb | hb <;> simp <;> omega)) | with_reducible refine SameOn.drew ?_ | with_reducible refine SameOn.alloc ?_ _ | (refine SameOn.below ?_ (by with_reducible assumption)))) (fun _ => ?_)
                repeat
                  first | refine lexO_pass rfl ?_ | (refine lexO_take2 ?_ rfl (by kernel_rfl) (by with_reducible assumption) (fun w' hS K Q' hK => ?_) ?_; rotate_left; focus (have hS2 := hS.2; clear hS; go_wp2_with fail; exact hK))
                refine lexO_do rfl (fun K hK => ?_) lexO_stop
                go_wp2_with fail
                refine (clone_c (HU.out.keeps (by repeat (first | with_reducible assumption | with_reducible exact Keeps.refl _ _ | with_reducible refine Keeps.drew ?_ | with_reducible refine Keeps.drewN ?_ _ | with_reducible refine Keeps.alloc ?_ _ | with_reducible refine Keeps.setCell ?_ ?_ _ | omega | focus (simp; done) | focus (simp; omega)))) (by omega)).mono ?_
                rintro e5 w3 ⟨q3', cq3', rfl, hq3, hb3⟩
                have HQ5 := Lib.hid (hq3.imp (fun b _ hb => (by simp at hb; omega : wr.heap.size < b)))
                have hw3 : Below wr.heap.size wr w3 := below_next (by have h0 := Below.refl wr.heap.size wr; exact (by repeat (first | with_reducible assumption | with_reducible refine Below.drew ?_ | with_reducible refine below_drewN' ?_ _ | with_reducible refine Below.alloc ?_ ?_ _ | with_reducible refine Below.setCell ?_ ?_ _ | with_reducible exact Nat.le_refl _ | omega | focus (simp; done) | focus (simp; omega)))) hb3 (by simp <;> omega)
                have HB5 := Lib.hid hw3
                have HNB := Lib.hid ((hb3.block (wr.heap.size + 1) (by simp)).trans (show _ = some (.cells #[.int .u64 2, .int .u64 23, .int .u64 xv, .int .u64 xn] 39 (0, 0)) from (by (try simp only [heap_drew]); repeat (first | (with_reducible refine heap_last ?_; focus (simp; done)) | with_reducible refine heap_past ?_ | (with_reducible refine heap_set ?_ ?_; focus (first | omega | (simp; done) | (simp; omega))) | with_reducible assumption))))
                have l3b : wr.heap.size + 1 < w3.heap.size := by have := hb3.size; simp at this; omega
                have l3 : wr.heap.size < w3.heap.size := by have := hb3.size; simp at this; omega
                have ll3 : w1.heap.size < w3.heap.size := by omega
                have lw3' : w.heap.size < w3.heap.size := by omega
                have n2' := (hb3.cell (p := ⟨w1.heap.size, 2, none⟩) (by simp; omega)).trans (show _ = some (.slice p nn c') by go_simp)
                have nf' := (hb3.frozen (p := ⟨w1.heap.size, 2, none⟩) (by simp; omega)).trans (show _ = false by go_simp)
                go_wp2_with fail
                refine step_and (SameOn.below (by repeat (first | with_reducible assumption | (with_reducible refine SameOn.refl (fun b hb => ?_); first | omega | (rcases hb with hb | hb <;> omega) | (rcases hb with hb | hb <;> simp <;> omega)) | with_reducible refine SameOn.drew ?_ | with_reducible refine SameOn.alloc ?_ _ | (refine SameOn.below ?_ (by with_reducible assumption)))) hb3) (fun _ => ?_)
                clear hb3 hq3 hw3
                repeat
                  first | refine lexO_pass rfl ?_ | (refine lexO_take2 ?_ rfl (by kernel_rfl) (by with_reducible assumption) (fun w' hS K Q' hK => ?_) ?_; rotate_left; focus (have hS2 := hS.2; clear hS; go_wp2_with fail; exact hK))
                refine lexO_do rfl (fun K hK => ?_) lexO_stop
                go_wp2_with fail
                refine step_and (by repeat (first | with_reducible assumption | (with_reducible refine SameOn.refl (fun b hb => ?_); first | omega | (rcases hb with hb | hb <;> omega) | (rcases hb with hb | hb <;> simp <;> omega)) | with_reducible refine SameOn.drew ?_ | with_reducible refine SameOn.alloc ?_ _ | (refine SameOn.below ?_ (by with_reducible assumption)))) (fun _ => ?_)
                repeat
                  first | refine lexO_pass rfl ?_ | (refine lexO_take2 ?_ rfl (by kernel_rfl) (by with_reducible assumption) (fun w' hS K Q' hK => ?_) ?_; rotate_left; focus (have hS2 := hS.2; clear hS; go_wp2_with fail; exact hK))
                refine lexO_do rfl (fun K hK => ?_) lexO_stop
                refine wp_append_N2 (E := eP) (.tmp 734) (.tmp 752) 27 50 _ 48 rfl Try.underlying27 infoPart rfl (by decide) (by decide) (HF.out.rows.keeps (Keeps.trans (Keeps.of_below HB5.out) (by repeat (first | with_reducible assumption | with_reducible exact Keeps.refl _ _ | with_reducible refine Keeps.drew ?_ | with_reducible refine Keeps.drewN ?_ _ | with_reducible refine Keeps.alloc ?_ _ | with_reducible refine Keeps.setCell ?_ ?_ _ | omega | focus (simp; done) | focus (simp; omega))))) wr.heap.size (fun k hk => (HO.out k hk).2) rfl rfl (cs := [.slice (some ⟨wr.heap.size + 1, 0, none⟩) 4 4, .slice q3' xd.length cq3']) (y := ([2, 23, xv, xn], xd)) ?hcells ?hrep (by rw [← HNL.out]; omega) (by first | omega | (simp; omega)) (fun q' c2 w5 hr5 hs5 hk5 hb5 => hK _ _ ?_)
                case hcells =>
                  intro j u hu
                  rcases j with _ | _ | j
                  · simp at hu; subst hu; go_simp
                  · simp at hu; subst hu; go_simp
                  · simp at hu
                case hrep =>
                  have hnb := HNB.out
                  exact ⟨_, _, rfl, IsSl.block (cs := #[.int .u64 2, .int .u64 23, .int .u64 xv, .int .u64 xn]) (e := 39) (f := (0, 0)) (by (try simp only [heap_drew]); repeat (first | (with_reducible refine heap_last ?_; focus (simp; done)) | with_reducible refine heap_past ?_ | (with_reducible refine heap_set ?_ ?_; focus (first | omega | (simp; done) | (simp; omega))) | with_reducible assumption)) ⟨⟨by omega, by omega⟩, .inr (by omega)⟩ (by omega), ((HQ5.out.keeps (by repeat (first | with_reducible assumption | with_reducible exact Keeps.refl _ _ | with_reducible refine Keeps.drew ?_ | with_reducible refine Keeps.drewN ?_ _ | with_reducible refine Keeps.alloc ?_ _ | with_reducible refine Keeps.setCell ?_ ?_ _ | omega | focus (simp; done) | focus (simp; omega)))).imp (fun b _ hb => ⟨⟨by omega, by omega⟩, .inr (by omega)⟩))⟩
                rw [← HNL.out]
                refine step_and (SameOn.keeps (by repeat (first | with_reducible assumption | (with_reducible refine SameOn.refl (fun b hb => ?_); first | omega | (rcases hb with hb | hb <;> omega) | (rcases hb with hb | hb <;> simp <;> omega)) | with_reducible refine SameOn.drew ?_ | with_reducible refine SameOn.alloc ?_ _ | (refine SameOn.below ?_ (by with_reducible assumption)))) hk5 (fun b hb => by omega)) (fun _ => ?_)
                rw [← HNL.out] at hr5
                have hL5 : w5.cell? ⟨w1.heap.size, 2, none⟩ = some (.slice p nn c') := hk5.cell (.inl lL) (by go_simp)
                have hf5 : w5.frozen? ⟨w1.heap.size, 2, none⟩ = false := hk5.frozen (.inl lL) (by first | omega | (simp; omega)) (by go_simp)
                have l5 : w1.heap.size < w5.heap.size := World.block_lt_of_cell? _ _ hL5
                have H5 := Lib.hid (HF.out.step (w5 := w5) (fun b hb => hb.2) (show Below wr.heap.size wr _ from (by have h0 := HB5.out; exact (by repeat (first | with_reducible assumption | with_reducible refine Below.drew ?_ | with_reducible refine below_drewN' ?_ _ | with_reducible refine Below.alloc ?_ ?_ _ | with_reducible refine Below.setCell ?_ ?_ _ | with_reducible exact Nat.le_refl _ | omega | focus (simp; done) | focus (simp; omega))))) hr5 hs5 (hk5.imp (fun b hb => .inl hb)) hb5)
                clear hr5 hs5 hk5 hb5
                repeat
                  first | refine lexO_pass rfl ?_ | (refine lexO_take2 ?_ rfl (by kernel_rfl) (by with_reducible assumption) (fun w' hS K Q' hK => ?_) ?_; rotate_left; focus (have hS2 := hS.2; clear hS; go_wp2_with fail; exact hK))
                refine lexO_do rfl (fun K hK => ?_) lexO_stop
                go_wp2_with fail
                first | refine step_last (by decide) (lexO_done ?_) | refine lexO_done ?_
                go_wp2_with fail
                go_roundw
                case rel => exact ⟨k + 1, hlt, by go_num, _, by have := H5.out; rwa [List.append_assoc, take_snocR HDK.out] at this⟩
                case measure => simp [intOf]; omega
              · go_wp2_with fail
                refine (clone_c (HU.out.keeps (by repeat (first | with_reducible assumption | with_reducible exact Keeps.refl _ _ | with_reducible refine Keeps.drew ?_ | with_reducible refine Keeps.drewN ?_ _ | with_reducible refine Keeps.alloc ?_ _ | with_reducible refine Keeps.setCell ?_ ?_ _ | omega | focus (simp; done) | focus (simp; omega)))) (by omega)).mono ?_
                rintro e5 w3 ⟨q3', cq3', rfl, hq3, hb3⟩
                have HQ5 := Lib.hid (hq3.imp (fun b _ hb => (by simp at hb; omega : wr.heap.size < b)))
                have hw3 : Below wr.heap.size wr w3 := below_next (by have h0 := Below.refl wr.heap.size wr; exact (by repeat (first | with_reducible assumption | with_reducible refine Below.drew ?_ | with_reducible refine below_drewN' ?_ _ | with_reducible refine Below.alloc ?_ ?_ _ | with_reducible refine Below.setCell ?_ ?_ _ | with_reducible exact Nat.le_refl _ | omega | focus (simp; done) | focus (simp; omega)))) hb3 (by simp <;> omega)
                have HB5 := Lib.hid hw3
                have l3 : wr.heap.size < w3.heap.size := by have := hb3.size; simp at this; omega
                have ll3 : w1.heap.size < w3.heap.size := by omega
                have lw3' : w.heap.size < w3.heap.size := by omega
                have n2' := (hb3.cell (p := ⟨w1.heap.size, 2, none⟩) (by simp; omega)).trans (show _ = some (.slice p nn c') by go_simp)
                have nf' := (hb3.frozen (p := ⟨w1.heap.size, 2, none⟩) (by simp; omega)).trans (show _ = false by go_simp)
                go_wp2_with fail
                refine step_and (SameOn.below (by repeat (first | with_reducible assumption | (with_reducible refine SameOn.refl (fun b hb => ?_); first | omega | (rcases hb with hb | hb <;> omega) | (rcases hb with hb | hb <;> simp <;> omega)) | with_reducible refine SameOn.drew ?_ | with_reducible refine SameOn.alloc ?_ _ | (refine SameOn.below ?_ (by with_reducible assumption)))) hb3) (fun _ => ?_)
                clear hb3 hq3 hw3
                repeat
                  first | refine lexO_pass rfl ?_ | (refine lexO_take2 ?_ rfl (by kernel_rfl) (by with_reducible assumption) (fun w' hS K Q' hK => ?_) ?_; rotate_left; focus (have hS2 := hS.2; clear hS; go_wp2_with fail; exact hK))
                refine lexO_do rfl (fun K hK => ?_) lexO_stop
                go_wp2_with fail
                refine step_and (by repeat (first | with_reducible assumption | (with_reducible refine SameOn.refl (fun b hb => ?_); first | omega | (rcases hb with hb | hb <;> omega) | (rcases hb with hb | hb <;> simp <;> omega)) | with_reducible refine SameOn.drew ?_ | with_reducible refine SameOn.alloc ?_ _ | (refine SameOn.below ?_ (by with_reducible assumption)))) (fun _ => ?_)
                repeat
                  first | refine lexO_pass rfl ?_ | (refine lexO_take2 ?_ rfl (by kernel_rfl) (by with_reducible assumption) (fun w' hS K Q' hK => ?_) ?_; rotate_left; focus (have hS2 := hS.2; clear hS; go_wp2_with fail; exact hK))
                refine lexO_do rfl (fun K hK => ?_) lexO_stop
                go_wp2_with fail
                refine step_and (by repeat (first | with_reducible assumption | (with_reducible refine SameOn.refl (fun b hb => ?_); first | omega | (rcases hb with hb | hb <;> omega) | (rcases hb with hb | hb <;> simp <;> omega)) | with_reducible refine SameOn.drew ?_ | with_reducible refine SameOn.alloc ?_ _ | (refine SameOn.below ?_ (by with_reducible assumption)))) (fun _ => ?_)
                repeat
                  first | refine lexO_pass rfl ?_ | (refine lexO_take2 ?_ rfl (by kernel_rfl) (by with_reducible assumption) (fun w' hS K Q' hK => ?_) ?_; rotate_left; focus (have hS2 := hS.2; clear hS; go_wp2_with fail; exact hK))
                refine lexO_do rfl (fun K hK => ?_) lexO_stop
                refine wp_append_N2 (E := eP) (.tmp 734) (.tmp 752) 27 50 _ 48 rfl Try.underlying27 infoPart rfl (by decide) (by decide) (HF.out.rows.keeps (Keeps.trans (Keeps.of_below HB5.out) (by repeat (first | with_reducible assumption | with_reducible exact Keeps.refl _ _ | with_reducible refine Keeps.drew ?_ | with_reducible refine Keeps.drewN ?_ _ | with_reducible refine Keeps.alloc ?_ _ | with_reducible refine Keeps.setCell ?_ ?_ _ | omega | focus (simp; done) | focus (simp; omega))))) wr.heap.size (fun k hk => (HO.out k hk).2) rfl rfl (cs := [.slice (some ⟨w3.heap.size, 0, none⟩) 4 4, .slice q3' xd.length cq3']) (y := ([2, 23, xv, xn], xd)) ?hcells ?hrep (by rw [← HNL.out]; omega) (by first | omega | (simp; omega)) (fun q' c2 w5 hr5 hs5 hk5 hb5 => hK _ _ ?_)
                case hcells =>
                  intro j u hu
                  rcases j with _ | _ | j
                  · simp at hu; subst hu; go_simp
                  · simp at hu; subst hu; go_simp
                  · simp at hu
                case hrep =>
                  exact ⟨_, _, rfl, IsSl.block (cs := #[.int .u64 2, .int .u64 23, .int .u64 xv, .int .u64 xn]) (e := 39) (f := (0, 0)) (by (try simp only [heap_drew]); repeat (first | (with_reducible refine heap_last ?_; focus (simp; done)) | with_reducible refine heap_past ?_ | (with_reducible refine heap_set ?_ ?_; focus (first | omega | (simp; done) | (simp; omega))) | with_reducible assumption)) ⟨⟨by omega, by omega⟩, .inr (by omega)⟩ (by omega), ((HQ5.out.keeps (by repeat (first | with_reducible assumption | with_reducible exact Keeps.refl _ _ | with_reducible refine Keeps.drew ?_ | with_reducible refine Keeps.drewN ?_ _ | with_reducible refine Keeps.alloc ?_ _ | with_reducible refine Keeps.setCell ?_ ?_ _ | omega | focus (simp; done) | focus (simp; omega)))).imp (fun b _ hb => ⟨⟨by omega, by omega⟩, .inr (by omega)⟩))⟩
                rw [← HNL.out]
                refine step_and (SameOn.keeps (by repeat (first | with_reducible assumption | (with_reducible refine SameOn.refl (fun b hb => ?_); first | omega | (rcases hb with hb | hb <;> omega) | (rcases hb with hb | hb <;> simp <;> omega)) | with_reducible refine SameOn.drew ?_ | with_reducible refine SameOn.alloc ?_ _ | (refine SameOn.below ?_ (by with_reducible assumption)))) hk5 (fun b hb => by omega)) (fun _ => ?_)
                rw [← HNL.out] at hr5
                have hL5 : w5.cell? ⟨w1.heap.size, 2, none⟩ = some (.slice p nn c') := hk5.cell (.inl lL) (by go_simp)
                have hf5 : w5.frozen? ⟨w1.heap.size, 2, none⟩ = false := hk5.frozen (.inl lL) (by first | omega | (simp; omega)) (by go_simp)
                have l5 : w1.heap.size < w5.heap.size := World.block_lt_of_cell? _ _ hL5
                have H5 := Lib.hid (HF.out.step (w5 := w5) (fun b hb => hb.2) (show Below wr.heap.size wr _ from (by have h0 := HB5.out; exact (by repeat (first | with_reducible assumption | with_reducible refine Below.drew ?_ | with_reducible refine below_drewN' ?_ _ | with_reducible refine Below.alloc ?_ ?_ _ | with_reducible refine Below.setCell ?_ ?_ _ | with_reducible exact Nat.le_refl _ | omega | focus (simp; done) | focus (simp; omega))))) hr5 hs5 (hk5.imp (fun b hb => .inl hb)) hb5)
                clear hr5 hs5 hk5 hb5
                repeat
                  first | refine lexO_pass rfl ?_ | (refine lexO_take2 ?_ rfl (by kernel_rfl) (by with_reducible assumption) (fun w' hS K Q' hK => ?_) ?_; rotate_left; focus (have hS2 := hS.2; clear hS; go_wp2_with fail; exact hK))
                refine lexO_do rfl (fun K hK => ?_) lexO_stop
                go_wp2_with fail
                first | refine step_last (by decide) (lexO_done ?_) | refine lexO_done ?_
                go_wp2_with fail
                go_roundw
                case rel => exact ⟨k + 1, hlt, by go_num, _, by have := H5.out; rwa [List.append_assoc, take_snocR HDK.out] at this⟩
                case measure => simp [intOf]; omega
            · obtain rfl : k = lc.length := by omega
              have hkI : ¬ ((lc.length : Nat) : Int) < ((lc.length : Nat) : Int) := by omega
              go_wp2_with fail
              have HF3 := Lib.hid (show Fills W wr w1.heap.size W.heap.size (fun b => w.heap.size < b ∧ b ≠ w1.heap.size) (.slice p nn c') ((([] ++ la) ++ lb) ++ lc) from by have h := HF.out; rwa [List.take_length] at h)
              obtain ⟨W3, hW3⟩ : ∃ x, x = wr := ⟨_, rfl⟩
              subst hW3
              clear HF HNL HO HKG lLr lwr leW ef e0 e1 e2 e3 v0 v1 v2 v3 y0 y1 y2 y3 hkI hlt hk s3
              go_loopw [43, 762] (fun _ i wr => ∃ k : Nat, k ≤ ld.length ∧ i = .int .i64 (k : Int) ∧ ∃ v, Fills W wr w1.heap.size W.heap.size (fun b => w.heap.size < b ∧ b ≠ w1.heap.size) v (((([] ++ la) ++ lb) ++ lc) ++ ld.take k)) (fun _ i _ => ld.length - (intOf i).toNat)
              case atStart => exact ⟨0, Nat.zero_le _, rfl, _, by rw [List.take_zero, List.append_nil]; exact HF3.out⟩
              case round =>
                obtain ⟨k, hk, rfl, v, hF⟩ := hrel
                have HF := Lib.hid hF
                have lLr : w1.heap.size < wr.heap.size := Nat.lt_of_lt_of_le hF.lt hF.le
                have lwr : w.heap.size < wr.heap.size := Nat.lt_of_lt_of_le wL hF.le
                have leW := hF.le
                have hown := hF.rows.own
                have ef := hF.froz 2
                obtain ⟨p, c', hv⟩ := hF.rows.form
                obtain ⟨nn, hnn⟩ : ∃ n, n = (((([] ++ la) ++ lb) ++ lc) ++ ld.take k).length := ⟨_, rfl⟩
                have hnl : nn ≤ 8000 := by rw [hnn]; simp; omega
                rw [← hnn] at hv
                have HNL := Lib.hid hnn
                subst hv
                have e2 := hF.parts
                have e0 := hF.other 0 _ (by decide) lc0
                have e1 := hF.other 1 _ (by decide) lc1
                have e3 := hF.other 3 _ (by decide) lc3
                have v0 := hF.keep.cell (b := w.heap.size) (by constructor <;> omega) wr0
                have v1 := hF.keep.cell (b := w.heap.size) (by constructor <;> omega) wr1
                have v2 := hF.keep.cell (b := w.heap.size) (by constructor <;> omega) wr2
                have v3 := hF.keep.cell (b := w.heap.size) (by constructor <;> omega) wr3
                have y0 := hF.keep.frozen (b := w.heap.size) (by constructor <;> omega) wL wf0
                have y1 := hF.keep.frozen (b := w.heap.size) (by constructor <;> omega) wL wf1
                have y2 := hF.keep.frozen (b := w.heap.size) (by constructor <;> omega) wL wf2
                have y3 := hF.keep.frozen (b := w.heap.size) (by constructor <;> omega) wL wf3
                have HO := Lib.hid hown
                have HKG := Lib.hid ((HK.out.1.trans (hF.keep.imp (fun b hb => ⟨by omega, by omega⟩ : ∀ b, b < w.heap.size → b < W.heap.size ∧ b ≠ w1.heap.size))))
                clear hF hown hnn
                by_cases hlt : k < ld.length
                · obtain ⟨gI, cI', cs, xp, hiv, hgI, -, hdk, hcs, xv, xn, xa, xb, u, rfl, rfl, hu, bv, bn, ba, bb⟩ := HID.out.get hlt
                  simp only [Value.slice.injEq] at hiv
                  obtain ⟨rfl, -, rfl⟩ := hiv
                  have HU := Lib.hid ((hu.imp (fun b hb _ => hb : ∀ b, b < w.heap.size → True → b < w.heap.size)).keeps HKG.out)
                  obtain ⟨pu, cu, rfl, -⟩ := hu
                  have hck : ∀ i v, [Value.int .u8 21, .int .u16 xv, .int .u16 xn, .int .u8 xa, .int .u8 xb, .slice pu 0 cu][i]? = some v → wr.cell? ⟨gI, k * 6 + i, none⟩ = some v := fun i v hv => HKG.out.cell hgI (hcs i v hv)
                  have hck0 : wr.cell? ⟨gI, k * 6, none⟩ = some (.int .u8 21) := hck 0 _ rfl
                  have hck1 : wr.cell? ⟨gI, k * 6 + 1, none⟩ = some (.int .u16 xv) := hck 1 _ rfl
                  have hck2 : wr.cell? ⟨gI, k * 6 + 2, none⟩ = some (.int .u16 xn) := hck 2 _ rfl
                  have hck3 : wr.cell? ⟨gI, k * 6 + 3, none⟩ = some (.int .u8 xa) := hck 3 _ rfl
                  have hck4 : wr.cell? ⟨gI, k * 6 + 4, none⟩ = some (.int .u8 xb) := hck 4 _ rfl
                  have hck5 : wr.cell? ⟨gI, k * 6 + 5, none⟩ = some (.slice pu 0 cu) := hck 5 _ rfl
                  have hkI : ((k : Nat) : Int) < ((ld.length : Nat) : Int) := by omega
                  have HDK := Lib.hid hdk
                  have lLr1 : w1.heap.size < wr.heap.size + 1 := by omega
                  have lLr2 : w1.heap.size < wr.heap.size + 1 + 1 := by omega
                  have lLr3 : w1.heap.size < wr.heap.size + 1 + 1 + 1 := by omega
                  have lgI : gI < wr.heap.size := by omega
                  have lgI1 : gI < wr.heap.size + 1 := by omega
                  clear hcs hck hdk
                  go_wp2_with fail
                  refine wp_region_on (fun b => b < W.heap.size ∨ b = wr.heap.size) (fun b hb => by first | omega | (rcases hb with hb | hb <;> omega) | (rcases hb with hb | hb <;> simp <;> omega)) [32] (.q 0 (.q 1 (.q 2 (.q 3 (.q 4 (.q 5 (.q 6 (.q 7 (.q 8 (.q 9 (.q 10 (.q 11 (.q 12 (.q 13 (.q 14 (.q 15 (.q 16 (.q 17 (.q 18 (.q 19 (.q 20 (.q 21 (.q 22 (.q 24 (.q 25 (.l 23 (.l 26 (.q 27 (.l 28 (.l 29 (.q 30 (.q 31 (.l 32 .done .stop))) .stop) .stop)) .stop) (.l 26 (.l 23 (.q 27 (.l 28 (.l 29 (.q 30 (.q 31 (.l 32 .done .stop))) .stop) .stop)) .stop) .stop))))))))))))))))))))))))))) (by kernel_rfl) (by kernel_rfl) (fun _ _ d _ _ h => by cases d <;> exact h) (by simp only [Ord.fill, nthOp]; rfl) ?_; intro hSm
                  repeat
                    first | refine lexO_pass rfl ?_ | (refine lexO_take2 ?_ rfl (by kernel_rfl) (by with_reducible assumption) (fun w' hS K Q' hK => ?_) ?_; rotate_left; focus (have hS2 := hS.2; clear hS; go_wp2_with fail; exact hK))
                  refine lexO_do rfl (fun K hK => ?_) (lexO_do rfl (fun K hK => ?_) lexO_stop)
                  · go_wp2_with fail
                    refine step_and (by repeat (first | with_reducible assumption | (with_reducible refine SameOn.refl (fun b hb => ?_); first | omega | (rcases hb with hb | hb <;> omega) | (rcases hb with hb | hb <;> simp <;> omega)) | with_reducible refine SameOn.drew ?_ | with_reducible refine SameOn.alloc ?_ _ | (refine SameOn.below ?_ (by with_reducible assumption)))) (fun _ => ?_)
                    repeat
                      first | refine lexO_pass rfl ?_ | (refine lexO_take2 ?_ rfl (by kernel_rfl) (by with_reducible assumption) (fun w' hS K Q' hK => ?_) ?_; rotate_left; focus (have hS2 := hS.2; clear hS; go_wp2_with fail; exact hK))
                    refine lexO_do rfl (fun K hK => ?_) lexO_stop
                    go_wp2_with fail
                    refine (clone_c (HU.out.keeps (by repeat (first | with_reducible assumption | with_reducible exact Keeps.refl _ _ | with_reducible refine Keeps.drew ?_ | with_reducible refine Keeps.drewN ?_ _ | with_reducible refine Keeps.alloc ?_ _ | with_reducible refine Keeps.setCell ?_ ?_ _ | omega | focus (simp; done) | focus (simp; omega)))) (by simp)).mono ?_
                    rintro e5 w3 ⟨q3', cq3', rfl, hq3, hb3⟩
                    have HQ5 := Lib.hid (hq3.imp (fun b _ hb => (by simp at hb; omega : wr.heap.size < b)))
                    have hw3 : Below wr.heap.size wr w3 := below_next (by have h0 := Below.refl wr.heap.size wr; exact (by repeat (first | with_reducible assumption | with_reducible refine Below.drew ?_ | with_reducible refine below_drewN' ?_ _ | with_reducible refine Below.alloc ?_ ?_ _ | with_reducible refine Below.setCell ?_ ?_ _ | with_reducible exact Nat.le_refl _ | omega | focus (simp; done) | focus (simp; omega)))) hb3 (by simp <;> omega)
                    have HB5 := Lib.hid hw3
                    have HNB := Lib.hid ((hb3.block (wr.heap.size + 1) (by simp)).trans (show _ = some (.cells #[.int .u64 3, .int .u64 21, .int .u64 xv, .int .u64 xn, .int .u64 xa, .int .u64 xb] 39 (0, 0)) from (by (try simp only [heap_drew]); repeat (first | (with_reducible refine heap_last ?_; focus (simp; done)) | with_reducible refine heap_past ?_ | (with_reducible refine heap_set ?_ ?_; focus (first | omega | (simp; done) | (simp; omega))) | with_reducible assumption))))
                    have l3b : wr.heap.size + 1 < w3.heap.size := by have := hb3.size; simp at this; omega
                    have l3 : wr.heap.size < w3.heap.size := by have := hb3.size; simp at this; omega
                    have ll3 : w1.heap.size < w3.heap.size := by omega
                    have lw3' : w.heap.size < w3.heap.size := by omega
                    have n2' := (hb3.cell (p := ⟨w1.heap.size, 2, none⟩) (by simp; omega)).trans (show _ = some (.slice p nn c') by go_simp)
                    have nf' := (hb3.frozen (p := ⟨w1.heap.size, 2, none⟩) (by simp; omega)).trans (show _ = false by go_simp)
                    go_wp2_with fail
                    refine step_and (SameOn.below (by repeat (first | with_reducible assumption | (with_reducible refine SameOn.refl (fun b hb => ?_); first | omega | (rcases hb with hb | hb <;> omega) | (rcases hb with hb | hb <;> simp <;> omega)) | with_reducible refine SameOn.drew ?_ | with_reducible refine SameOn.alloc ?_ _ | (refine SameOn.below ?_ (by with_reducible assumption)))) hb3) (fun _ => ?_)
                    clear hb3 hq3 hw3
                    repeat
                      first | refine lexO_pass rfl ?_ | (refine lexO_take2 ?_ rfl (by kernel_rfl) (by with_reducible assumption) (fun w' hS K Q' hK => ?_) ?_; rotate_left; focus (have hS2 := hS.2; clear hS; go_wp2_with fail; exact hK))
                    refine lexO_do rfl (fun K hK => ?_) lexO_stop
                    go_wp2_with fail
                    refine step_and (by repeat (first | with_reducible assumption | (with_reducible refine SameOn.refl (fun b hb => ?_); first | omega | (rcases hb with hb | hb <;> omega) | (rcases hb with hb | hb <;> simp <;> omega)) | with_reducible refine SameOn.drew ?_ | with_reducible refine SameOn.alloc ?_ _ | (refine SameOn.below ?_ (by with_reducible assumption)))) (fun _ => ?_)
                    repeat
                      first | refine lexO_pass rfl ?_ | (refine lexO_take2 ?_ rfl (by kernel_rfl) (by with_reducible assumption) (fun w' hS K Q' hK => ?_) ?_; rotate_left; focus (have hS2 := hS.2; clear hS; go_wp2_with fail; exact hK))
                    refine lexO_do rfl (fun K hK => ?_) lexO_stop
                    refine wp_append_N2 (E := eP) (.tmp 770) (.tmp 794) 27 50 _ 48 rfl Try.underlying27 infoPart rfl (by decide) (by decide) (HF.out.rows.keeps (Keeps.trans (Keeps.of_below HB5.out) (by repeat (first | with_reducible assumption | with_reducible exact Keeps.refl _ _ | with_reducible refine Keeps.drew ?_ | with_reducible refine Keeps.drewN ?_ _ | with_reducible refine Keeps.alloc ?_ _ | with_reducible refine Keeps.setCell ?_ ?_ _ | omega | focus (simp; done) | focus (simp; omega))))) wr.heap.size (fun k hk => (HO.out k hk).2) rfl rfl (cs := [.slice (some ⟨wr.heap.size + 1, 0, none⟩) 6 6, .slice q3' 0 cq3']) (y := ([3, 21, xv, xn, xa, xb], ([] : List Int))) ?hcells ?hrep (by rw [← HNL.out]; omega) (by first | omega | (simp; omega)) (fun q' c2 w5 hr5 hs5 hk5 hb5 => hK _ _ ?_)
                    case hcells =>
                      intro j u hu
                      rcases j with _ | _ | j
                      · simp at hu; subst hu; go_simp
                      · simp at hu; subst hu; go_simp
                      · simp at hu
                    case hrep =>
                      have hnb := HNB.out
                      exact ⟨_, _, rfl, IsSl.block (cs := #[.int .u64 3, .int .u64 21, .int .u64 xv, .int .u64 xn, .int .u64 xa, .int .u64 xb]) (e := 39) (f := (0, 0)) (by (try simp only [heap_drew]); repeat (first | (with_reducible refine heap_last ?_; focus (simp; done)) | with_reducible refine heap_past ?_ | (with_reducible refine heap_set ?_ ?_; focus (first | omega | (simp; done) | (simp; omega))) | with_reducible assumption)) ⟨⟨by omega, by omega⟩, .inr (by omega)⟩ (by omega), ((HQ5.out.keeps (by repeat (first | with_reducible assumption | with_reducible exact Keeps.refl _ _ | with_reducible refine Keeps.drew ?_ | with_reducible refine Keeps.drewN ?_ _ | with_reducible refine Keeps.alloc ?_ _ | with_reducible refine Keeps.setCell ?_ ?_ _ | omega | focus (simp; done) | focus (simp; omega)))).imp (fun b _ hb => ⟨⟨by omega, by omega⟩, .inr (by omega)⟩))⟩
                    rw [← HNL.out]
                    refine step_and (SameOn.keeps (by repeat (first | with_reducible assumption | (with_reducible refine SameOn.refl (fun b hb => ?_); first | omega | (rcases hb with hb | hb <;> omega) | (rcases hb with hb | hb <;> simp <;> omega)) | with_reducible refine SameOn.drew ?_ | with_reducible refine SameOn.alloc ?_ _ | (refine SameOn.below ?_ (by with_reducible assumption)))) hk5 (fun b hb => by omega)) (fun _ => ?_)
                    rw [← HNL.out] at hr5
                    have hL5 : w5.cell? ⟨w1.heap.size, 2, none⟩ = some (.slice p nn c') := hk5.cell (.inl lL) (by go_simp)
                    have hf5 : w5.frozen? ⟨w1.heap.size, 2, none⟩ = false := hk5.frozen (.inl lL) (by first | omega | (simp; omega)) (by go_simp)
                    have l5 : w1.heap.size < w5.heap.size := World.block_lt_of_cell? _ _ hL5
                    have H5 := Lib.hid (HF.out.step (w5 := w5) (fun b hb => hb.2) (show Below wr.heap.size wr _ from (by have h0 := HB5.out; exact (by repeat (first | with_reducible assumption | with_reducible refine Below.drew ?_ | with_reducible refine below_drewN' ?_ _ | with_reducible refine Below.alloc ?_ ?_ _ | with_reducible refine Below.setCell ?_ ?_ _ | with_reducible exact Nat.le_refl _ | omega | focus (simp; done) | focus (simp; omega))))) hr5 hs5 (hk5.imp (fun b hb => .inl hb)) hb5)
                    clear hr5 hs5 hk5 hb5
                    repeat
                      first | refine lexO_pass rfl ?_ | (refine lexO_take2 ?_ rfl (by kernel_rfl) (by with_reducible assumption) (fun w' hS K Q' hK => ?_) ?_; rotate_left; focus (have hS2 := hS.2; clear hS; go_wp2_with fail; exact hK))
                    refine lexO_do rfl (fun K hK => ?_) lexO_stop
                    go_wp2_with fail
                    first | refine step_last (by decide) (lexO_done ?_) | refine lexO_done ?_
                    go_wp2_with fail
                    go_roundw
                    case rel => exact ⟨k + 1, hlt, by go_num, _, by have := H5.out; rwa [List.append_assoc, take_snocR HDK.out] at this⟩
                    case measure => simp [intOf]; omega
                  · go_wp2_with fail
                    refine (clone_c (HU.out.keeps (by repeat (first | with_reducible assumption | with_reducible exact Keeps.refl _ _ | with_reducible refine Keeps.drew ?_ | with_reducible refine Keeps.drewN ?_ _ | with_reducible refine Keeps.alloc ?_ _ | with_reducible refine Keeps.setCell ?_ ?_ _ | omega | focus (simp; done) | focus (simp; omega)))) (by simp)).mono ?_
                    rintro e5 w3 ⟨q3', cq3', rfl, hq3, hb3⟩
                    have HQ5 := Lib.hid (hq3.imp (fun b _ hb => (by simp at hb; omega : wr.heap.size < b)))
                    have hw3 : Below wr.heap.size wr w3 := below_next (by have h0 := Below.refl wr.heap.size wr; exact (by repeat (first | with_reducible assumption | with_reducible refine Below.drew ?_ | with_reducible refine below_drewN' ?_ _ | with_reducible refine Below.alloc ?_ ?_ _ | with_reducible refine Below.setCell ?_ ?_ _ | with_reducible exact Nat.le_refl _ | omega | focus (simp; done) | focus (simp; omega)))) hb3 (by simp <;> omega)
                    have HB5 := Lib.hid hw3
                    have l3 : wr.heap.size < w3.heap.size := by have := hb3.size; simp at this; omega
                    have ll3 : w1.heap.size < w3.heap.size := by omega
                    have lw3' : w.heap.size < w3.heap.size := by omega
                    have n2' := (hb3.cell (p := ⟨w1.heap.size, 2, none⟩) (by simp; omega)).trans (show _ = some (.slice p nn c') by go_simp)
                    have nf' := (hb3.frozen (p := ⟨w1.heap.size, 2, none⟩) (by simp; omega)).trans (show _ = false by go_simp)
                    go_wp2_with fail
                    refine step_and (SameOn.below (by repeat (first | with_reducible assumption | (with_reducible refine SameOn.refl (fun b hb => ?_); first | omega | (rcases hb with hb | hb <;> omega) | (rcases hb with hb | hb <;> simp <;> omega)) | with_reducible refine SameOn.drew ?_ | with_reducible refine SameOn.alloc ?_ _ | (refine SameOn.below ?_ (by with_reducible assumption)))) hb3) (fun _ => ?_)
                    clear hb3 hq3 hw3
                    repeat
                      first | refine lexO_pass rfl ?_ | (refine lexO_take2 ?_ rfl (by kernel_rfl) (by with_reducible assumption) (fun w' hS K Q' hK => ?_) ?_; rotate_left; focus (have hS2 := hS.2; clear hS; go_wp2_with fail; exact hK))
                    refine lexO_do rfl (fun K hK => ?_) lexO_stop
                    go_wp2_with fail
                    refine step_and (by repeat (first | with_reducible assumption | (with_reducible refine SameOn.refl (fun b hb => ?_); first | omega | (rcases hb with hb | hb <;> omega) | (rcases hb with hb | hb <;> simp <;> omega)) | with_reducible refine SameOn.drew ?_ | with_reducible refine SameOn.alloc ?_ _ | (refine SameOn.below ?_ (by with_reducible assumption)))) (fun _ => ?_)
                    repeat
                      first | refine lexO_pass rfl ?_ | (refine lexO_take2 ?_ rfl (by kernel_rfl) (by with_reducible assumption) (fun w' hS K Q' hK => ?_) ?_; rotate_left; focus (have hS2 := hS.2; clear hS; go_wp2_with fail; exact hK))
                    refine lexO_do rfl (fun K hK => ?_) lexO_stop
                    go_wp2_with fail
                    refine step_and (by repeat (first | with_reducible assumption | (with_reducible refine SameOn.refl (fun b hb => ?_); first | omega | (rcases hb with hb | hb <;> omega) | (rcases hb with hb | hb <;> simp <;> omega)) | with_reducible refine SameOn.drew ?_ | with_reducible refine SameOn.alloc ?_ _ | (refine SameOn.below ?_ (by with_reducible assumption)))) (fun _ => ?_)
                    repeat
                      first | refine lexO_pass rfl ?_ | (refine lexO_take2 ?_ rfl (by kernel_rfl) (by with_reducible assumption) (fun w' hS K Q' hK => ?_) ?_; rotate_left; focus (have hS2 := hS.2; clear hS; go_wp2_with fail; exact hK))
                    refine lexO_do rfl (fun K hK => ?_) lexO_stop
                    refine wp_append_N2 (E := eP) (.tmp 770) (.tmp 794) 27 50 _ 48 rfl Try.underlying27 infoPart rfl (by decide) (by decide) (HF.out.rows.keeps (Keeps.trans (Keeps.of_below HB5.out) (by repeat (first | with_reducible assumption | with_reducible exact Keeps.refl _ _ | with_reducible refine Keeps.drew ?_ | with_reducible refine Keeps.drewN ?_ _ | with_reducible refine Keeps.alloc ?_ _ | with_reducible refine Keeps.setCell ?_ ?_ _ | omega | focus (simp; done) | focus (simp; omega))))) wr.heap.size (fun k hk => (HO.out k hk).2) rfl rfl (cs := [.slice (some ⟨w3.heap.size, 0, none⟩) 6 6, .slice q3' 0 cq3']) (y := ([3, 21, xv, xn, xa, xb], ([] : List Int))) ?hcells ?hrep (by rw [← HNL.out]; omega) (by first | omega | (simp; omega)) (fun q' c2 w5 hr5 hs5 hk5 hb5 => hK _ _ ?_)
                    case hcells =>
                      intro j u hu
                      rcases j with _ | _ | j
                      · simp at hu; subst hu; go_simp
                      · simp at hu; subst hu; go_simp
                      · simp at hu
                    case hrep =>
                      exact ⟨_, _, rfl, IsSl.block (cs := #[.int .u64 3, .int .u64 21, .int .u64 xv, .int .u64 xn, .int .u64 xa, .int .u64 xb]) (e := 39) (f := (0, 0)) (by (try simp only [heap_drew]); repeat (first | (with_reducible refine heap_last ?_; focus (simp; done)) | with_reducible refine heap_past ?_ | (with_reducible refine heap_set ?_ ?_; focus (first | omega | (simp; done) | (simp; omega))) | with_reducible assumption)) ⟨⟨by omega, by omega⟩, .inr (by omega)⟩ (by omega), ((HQ5.out.keeps (by repeat (first | with_reducible assumption | with_reducible exact Keeps.refl _ _ | with_reducible refine Keeps.drew ?_ | with_reducible refine Keeps.drewN ?_ _ | with_reducible refine Keeps.alloc ?_ _ | with_reducible refine Keeps.setCell ?_ ?_ _ | omega | focus (simp; done) | focus (simp; omega)))).imp (fun b _ hb => ⟨⟨by omega, by omega⟩, .inr (by omega)⟩))⟩
                    rw [← HNL.out]
                    refine step_and (SameOn.keeps (by repeat (first | with_reducible assumption | (with_reducible refine SameOn.refl (fun b hb => ?_); first | omega | (rcases hb with hb | hb <;> omega) | (rcases hb with hb | hb <;> simp <;> omega)) | with_reducible refine SameOn.drew ?_ | with_reducible refine SameOn.alloc ?_ _ | (refine SameOn.below ?_ (by with_reducible assumption)))) hk5 (fun b hb => by omega)) (fun _ => ?_)
                    rw [← HNL.out] at hr5
                    have hL5 : w5.cell? ⟨w1.heap.size, 2, none⟩ = some (.slice p nn c') := hk5.cell (.inl lL) (by go_simp)
                    have hf5 : w5.frozen? ⟨w1.heap.size, 2, none⟩ = false := hk5.frozen (.inl lL) (by first | omega | (simp; omega)) (by go_simp)
                    have l5 : w1.heap.size < w5.heap.size := World.block_lt_of_cell? _ _ hL5
                    have H5 := Lib.hid (HF.out.step (w5 := w5) (fun b hb => hb.2) (show Below wr.heap.size wr _ from (by have h0 := HB5.out; exact (by repeat (first | with_reducible assumption | with_reducible refine Below.drew ?_ | with_reducible refine below_drewN' ?_ _ | with_reducible refine Below.alloc ?_ ?_ _ | with_reducible refine Below.setCell ?_ ?_ _ | with_reducible exact Nat.le_refl _ | omega | focus (simp; done) | focus (simp; omega))))) hr5 hs5 (hk5.imp (fun b hb => .inl hb)) hb5)
                    clear hr5 hs5 hk5 hb5
                    repeat
                      first | refine lexO_pass rfl ?_ | (refine lexO_take2 ?_ rfl (by kernel_rfl) (by with_reducible assumption) (fun w' hS K Q' hK => ?_) ?_; rotate_left; focus (have hS2 := hS.2; clear hS; go_wp2_with fail; exact hK))
                    refine lexO_do rfl (fun K hK => ?_) lexO_stop
                    go_wp2_with fail
                    first | refine step_last (by decide) (lexO_done ?_) | refine lexO_done ?_
                    go_wp2_with fail
                    go_roundw
                    case rel => exact ⟨k + 1, hlt, by go_num, _, by have := H5.out; rwa [List.append_assoc, take_snocR HDK.out] at this⟩
                    case measure => simp [intOf]; omega
                · obtain rfl : k = ld.length := by omega
                  have hkI : ¬ ((ld.length : Nat) : Int) < ((ld.length : Nat) : Int) := by omega
                  go_wp2_with fail
                  refine bodyPost_ret (v := .tuple #[.agg #[.slice none 0 0, .slice none 0 0, .slice p nn c', .slice q 0 cq], .bool true]) (by simp only [results, Try.results21]; go_simp) rfl ?_
                  have hF := HF.out
                  rw [List.take_length] at hF
                  have h0 : Below w.heap.size w wr := hF.below _ _ (by omega) HK.out.2
                  have hl : LayOn wr (fun b => w.heap.size < b) _ _ := hF.lay (ok' := fun b => w.heap.size < b) rfl (SN.nil _ _) (SD.nil _ _) HN3.out (fun b hb => hb.2) (fun b hb => by omega) (fun b hb => hb.1) (fun b hb => hb.1)
                  refine ⟨_, rfl, ?_, (by repeat (first | with_reducible assumption | with_reducible refine Below.drew ?_ | with_reducible refine below_drewN' ?_ _ | with_reducible refine Below.alloc ?_ ?_ _ | with_reducible refine Below.setCell ?_ ?_ _ | with_reducible exact Nat.le_refl _ | omega | focus (simp; done) | focus (simp; omega)))⟩
                  rw [show la ++ (lb ++ (lc ++ ld)) = [] ++ la ++ lb ++ lc ++ ld by simp]
                  exact (hl.keeps (by repeat (first | with_reducible assumption | with_reducible exact Keeps.refl _ _ | with_reducible refine Keeps.drew ?_ | with_reducible refine Keeps.drewN ?_ _ | with_reducible refine Keeps.alloc ?_ _ | with_reducible refine Keeps.setCell ?_ ?_ _ | omega | focus (simp; done) | focus (simp; omega)))).imp (fun b _ hb => by omega)

theorem told_tls {X : Nat} {pl : Value} {l : Lay} {w : World} (hX : IsTls w X pl l) :
    Calls Try.prog 21 #[.iface 151 (.pointer (some ⟨X, 0, none⟩)), pl] w fun e' w' => ∃ v, e' = .returned (.tuple #[v, .bool true]) ∧ LayOn w' (fun b => w.heap.size ≤ b) v l ∧ Below w.heap.size w w' := by
  obtain ⟨rs, vv, rfl, rfl, _, h4, hR, hlen⟩ := hX
  have r0 := hR 0 (by omega)
  have r1 := hR 1 (by omega)
  have r2 := hR 2 (by omega)
  have r3 := hR 3 (by omega)
  have x0 := h4 0 (by omega)
  have x1 := h4 1 (by omega)
  have x2 := h4 2 (by omega)
  have x3 := h4 3 (by omega)
  obtain ⟨pa, ca, e0⟩ := r0.form
  obtain ⟨pb, cb, e1⟩ := r1.form
  obtain ⟨pc, cc, e2⟩ := r2.form
  obtain ⟨pd, cd, e3⟩ := r3.form
  rw [e0] at r0 x0
  rw [e1] at r1 x1
  rw [e2] at r2 x2
  rw [e3] at r3 x3
  have n0 := tOf_le2 0 rs
  have n1 := tOf_le2 1 rs
  have n2 := tOf_le2 2 rs
  have n3 := tOf_le2 3 rs
  exact told_tls4 x0 x1 x2 x3 r0 r1 r2 r3 (by omega) (by omega) (by omega) (by omega)
end Go.Proofs.Ytehdhnjimmplhaa
